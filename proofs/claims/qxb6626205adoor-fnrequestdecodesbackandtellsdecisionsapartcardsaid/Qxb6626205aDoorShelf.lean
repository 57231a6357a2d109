/-
  Seat b6626205aD: THE SHELF's CONTRACTS OF strconv.FormatInt (base 10) AND strconv.Itoa AT THIS DUMP, IN PLAIN WORDS (written by the kit's lay-shelf.mjs and lay-plain.mjs for this program; the other layings are left out; the table's name is taken from the given row).
-/
import Derived.Shelf.LaysM
import Derived.Shelf.Strconv.Itoa3
import Derived.Shelf.Strconv.Itoa4
import Derived.Test.Qxb6626205aDoorRows
namespace Go.Proofs
open Go.Shelf

/-- The name of the table of powers of ten, as the given row lists it. -/
abbrev Qxb6626205aDoor.tabName : String := Qxb6626205aDoor.Rows.fnRequestGivesAFreshFrameEachCallRow.named.headD ""

def Tryd.laysM171_ren : Go.Shelf.Ren := ⟨fun | 171 => 13 | 243 => 19 | 246 => 18 | 283 => 21 | 284 => 22 | 285 => 23 | 286 => 24 | 129 => 26 | 317 => 25 | 318 => 27 | 319 => 28 | 320 => 29 | 337 => 30 | 338 => 31 | n => n, fun | 3 => 3 | 9 => 9 | 2 => 2 | 4 => 4 | 171 => 49 | 0 => 0 | 53 => 48 | 37 => 33 | 5 => 5 | 173 => 52 | 212 => 56 | 51 => 57 | 20 => 20 | 213 => 58 | 46 => 60 | 232 => 63 | 233 => 64 | n => n, fun | 17 => 0 | 18 => 1 | 19 => 2 | n => n⟩
theorem Tryd.laysM171 : Go.Proofs.LaysM.n171 Tryd.prog Tryd.laysM171_ren := {
  mixed := by kernel_rfl
  f129 := Tryd.func26.trans (congrArg some (by kernel_rfl))
  f171 := Tryd.func13.trans (congrArg some (by kernel_rfl))
  f243 := Tryd.func19.trans (congrArg some (by kernel_rfl))
  f246 := Tryd.func18.trans (congrArg some (by kernel_rfl))
  f283 := Tryd.func21.trans (congrArg some (by kernel_rfl))
  f284 := Tryd.func22.trans (congrArg some (by kernel_rfl))
  f285 := Tryd.func23.trans (congrArg some (by kernel_rfl))
  f286 := Tryd.func24.trans (congrArg some (by kernel_rfl))
  f317 := Tryd.func25.trans (congrArg some (by kernel_rfl))
  f318 := Tryd.func27.trans (congrArg some (by kernel_rfl))
  f319 := Tryd.func28.trans (congrArg some (by kernel_rfl))
  f320 := Tryd.func29.trans (congrArg some (by kernel_rfl))
  f337 := Tryd.func30.trans (congrArg some (by kernel_rfl))
  f338 := Tryd.func31.trans (congrArg some (by kernel_rfl))
  t0 := Tryd.underlying0
  a0 := Tryd.isAgg0
  z0 := Tryd.sizeOf0
  v0 := Tryd.zeroValue0
  t2 := Tryd.underlying2
  a2 := Tryd.isAgg2
  z2 := Tryd.sizeOf2
  v2 := Tryd.zeroValue2
  t3 := Tryd.underlying3
  a3 := Tryd.isAgg3
  z3 := Tryd.sizeOf3
  v3 := Tryd.zeroValue3
  t4 := Tryd.underlying4
  a4 := Tryd.isAgg4
  z4 := Tryd.sizeOf4
  v4 := Tryd.zeroValue4
  t5 := Tryd.underlying5
  a5 := Tryd.isAgg5
  z5 := Tryd.sizeOf5
  v5 := Tryd.zeroValue5
  t9 := Tryd.underlying9
  a9 := Tryd.isAgg9
  z9 := Tryd.sizeOf9
  v9 := Tryd.zeroValue9
  t20 := Tryd.underlying20
  a20 := Tryd.isAgg20
  z20 := Tryd.sizeOf20
  v20 := Tryd.zeroValue20
  t37 := Tryd.underlying33
  a37 := Tryd.isAgg33
  z37 := Tryd.sizeOf33
  v37 := Tryd.zeroValue33
  t46 := Tryd.underlying60
  a46 := Tryd.isAgg60
  z46 := Tryd.sizeOf60
  v46 := Tryd.zeroValue60
  t51 := Tryd.underlying57
  a51 := Tryd.isAgg57
  z51 := Tryd.sizeOf57
  v51 := Tryd.zeroValue57
  t53 := Tryd.underlying48
  a53 := Tryd.isAgg48
  z53 := Tryd.sizeOf48
  v53 := Tryd.zeroValue48
  t171 := Tryd.underlying49
  a171 := Tryd.isAgg49
  z171 := Tryd.sizeOf49
  v171 := Tryd.zeroValue49
  t173 := Tryd.underlying52
  a173 := Tryd.isAgg52
  z173 := Tryd.sizeOf52
  v173 := Tryd.zeroValue52
  t212 := Tryd.underlying56
  a212 := Tryd.isAgg56
  z212 := Tryd.sizeOf56
  v212 := Tryd.zeroValue56
  t213 := Tryd.underlying58
  a213 := Tryd.isAgg58
  z213 := Tryd.sizeOf58
  t232 := Tryd.underlying63
  a232 := Tryd.isAgg63
  z232 := Tryd.sizeOf63
  v232 := Tryd.zeroValue63
  t233 := Tryd.underlying64
  a233 := Tryd.isAgg64
  z233 := Tryd.sizeOf64
  v233 := Tryd.zeroValue64
  g17 := by kernel_rfl
  g18 := by kernel_rfl
  g19 := by kernel_rfl
  i0 := by kernel_rfl
  i2 := by kernel_rfl
  i3 := by kernel_rfl
  i4 := by kernel_rfl
  i5 := by kernel_rfl
  i9 := by kernel_rfl
  i20 := by kernel_rfl
  i37 := by kernel_rfl
  i46 := by kernel_rfl
  i51 := by kernel_rfl
  i53 := by kernel_rfl
  i171 := by kernel_rfl
  i173 := by kernel_rfl
  i212 := by kernel_rfl
  i232 := by kernel_rfl
  i233 := by kernel_rfl
  m17 := by kernel_rfl
  m18 := by kernel_rfl
  m19 := by kernel_rfl }

open Go.RowKit Go.Sort Go.Lib in
theorem Tryd.strconv_Itoa (n : Int) (h0 : -9223372036854775808 ≤ n) (h1 : n ≤ 9223372036854775807) (w : World) (htab : Lib.TabIs Tryd.prog w Qxb6626205aDoor.tabName .u64 Lib.pow10Tab) :
    Calls Tryd.prog 13 #[.int .i64 n] w fun e w' => e = .returned (.string ⟨(Lib.itoa n).toArray⟩) ∧ ∃ k os, w' = grow (w.drewN k) os := Any.strconv_Itoa Tryd.laysM171 n h0 h1 w htab

def Tryd.laysM173_ren : Go.Shelf.Ren := ⟨fun | 173 => 12 | 246 => 18 | 283 => 21 | 284 => 22 | 285 => 23 | 286 => 24 | 129 => 26 | 317 => 25 | 318 => 27 | 319 => 28 | 320 => 29 | 337 => 30 | 338 => 31 | n => n, fun | 2 => 2 | 3 => 3 | 9 => 9 | 4 => 4 | 171 => 49 | 0 => 0 | 53 => 48 | 37 => 33 | 5 => 5 | 173 => 52 | 212 => 56 | 51 => 57 | 20 => 20 | 213 => 58 | 46 => 60 | 232 => 63 | 233 => 64 | n => n, fun | 17 => 0 | 18 => 1 | 19 => 2 | n => n⟩
theorem Tryd.laysM173 : Go.Proofs.LaysM.n173 Tryd.prog Tryd.laysM173_ren := {
  mixed := by kernel_rfl
  f129 := Tryd.func26.trans (congrArg some (by kernel_rfl))
  f173 := Tryd.func12.trans (congrArg some (by kernel_rfl))
  f246 := Tryd.func18.trans (congrArg some (by kernel_rfl))
  f283 := Tryd.func21.trans (congrArg some (by kernel_rfl))
  f284 := Tryd.func22.trans (congrArg some (by kernel_rfl))
  f285 := Tryd.func23.trans (congrArg some (by kernel_rfl))
  f286 := Tryd.func24.trans (congrArg some (by kernel_rfl))
  f317 := Tryd.func25.trans (congrArg some (by kernel_rfl))
  f318 := Tryd.func27.trans (congrArg some (by kernel_rfl))
  f319 := Tryd.func28.trans (congrArg some (by kernel_rfl))
  f320 := Tryd.func29.trans (congrArg some (by kernel_rfl))
  f337 := Tryd.func30.trans (congrArg some (by kernel_rfl))
  f338 := Tryd.func31.trans (congrArg some (by kernel_rfl))
  t0 := Tryd.underlying0
  a0 := Tryd.isAgg0
  z0 := Tryd.sizeOf0
  v0 := Tryd.zeroValue0
  t2 := Tryd.underlying2
  a2 := Tryd.isAgg2
  z2 := Tryd.sizeOf2
  v2 := Tryd.zeroValue2
  t3 := Tryd.underlying3
  a3 := Tryd.isAgg3
  z3 := Tryd.sizeOf3
  v3 := Tryd.zeroValue3
  t4 := Tryd.underlying4
  a4 := Tryd.isAgg4
  z4 := Tryd.sizeOf4
  v4 := Tryd.zeroValue4
  t5 := Tryd.underlying5
  a5 := Tryd.isAgg5
  z5 := Tryd.sizeOf5
  v5 := Tryd.zeroValue5
  t9 := Tryd.underlying9
  a9 := Tryd.isAgg9
  z9 := Tryd.sizeOf9
  v9 := Tryd.zeroValue9
  t20 := Tryd.underlying20
  a20 := Tryd.isAgg20
  z20 := Tryd.sizeOf20
  v20 := Tryd.zeroValue20
  t37 := Tryd.underlying33
  a37 := Tryd.isAgg33
  z37 := Tryd.sizeOf33
  v37 := Tryd.zeroValue33
  t46 := Tryd.underlying60
  a46 := Tryd.isAgg60
  z46 := Tryd.sizeOf60
  v46 := Tryd.zeroValue60
  t51 := Tryd.underlying57
  a51 := Tryd.isAgg57
  z51 := Tryd.sizeOf57
  v51 := Tryd.zeroValue57
  t53 := Tryd.underlying48
  a53 := Tryd.isAgg48
  z53 := Tryd.sizeOf48
  v53 := Tryd.zeroValue48
  t171 := Tryd.underlying49
  a171 := Tryd.isAgg49
  z171 := Tryd.sizeOf49
  v171 := Tryd.zeroValue49
  t173 := Tryd.underlying52
  a173 := Tryd.isAgg52
  z173 := Tryd.sizeOf52
  v173 := Tryd.zeroValue52
  t212 := Tryd.underlying56
  a212 := Tryd.isAgg56
  z212 := Tryd.sizeOf56
  v212 := Tryd.zeroValue56
  t213 := Tryd.underlying58
  a213 := Tryd.isAgg58
  z213 := Tryd.sizeOf58
  t232 := Tryd.underlying63
  a232 := Tryd.isAgg63
  z232 := Tryd.sizeOf63
  v232 := Tryd.zeroValue63
  t233 := Tryd.underlying64
  a233 := Tryd.isAgg64
  z233 := Tryd.sizeOf64
  v233 := Tryd.zeroValue64
  g17 := by kernel_rfl
  g18 := by kernel_rfl
  g19 := by kernel_rfl
  i0 := by kernel_rfl
  i2 := by kernel_rfl
  i3 := by kernel_rfl
  i4 := by kernel_rfl
  i5 := by kernel_rfl
  i9 := by kernel_rfl
  i20 := by kernel_rfl
  i37 := by kernel_rfl
  i46 := by kernel_rfl
  i51 := by kernel_rfl
  i53 := by kernel_rfl
  i171 := by kernel_rfl
  i173 := by kernel_rfl
  i212 := by kernel_rfl
  i232 := by kernel_rfl
  i233 := by kernel_rfl
  m17 := by kernel_rfl
  m18 := by kernel_rfl
  m19 := by kernel_rfl }

open Go.RowKit Go.Sort Go.Lib in
theorem Tryd.strconv_FormatInt_10 (n : Int) (h0 : -9223372036854775808 ≤ n) (h1 : n ≤ 9223372036854775807) (w : World) (htab : Lib.TabIs Tryd.prog w Qxb6626205aDoor.tabName .u64 Lib.pow10Tab) :
    Calls Tryd.prog 12 #[.int .i64 n, .int .i64 10] w fun e w' => e = .returned (.string ⟨(Lib.itoa n).toArray⟩) ∧ ∃ k os, w' = grow (w.drewN k) os := Any.strconv_FormatInt_10 Tryd.laysM173 n h0 h1 w htab

end Go.Proofs
