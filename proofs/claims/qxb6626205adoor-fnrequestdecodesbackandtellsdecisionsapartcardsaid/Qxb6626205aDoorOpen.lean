/-
  Seat b6626205aD: the arguments opened; the table of powers of ten out of the row's condition.
-/
import Derived.Test.Qxb6626205aDoorSmall
import Derived.Test.Qxb6626205aDoorTie
import Derived.Test.Qxb6626205aDoorCards
import Derived.ProofKit
import Derived.LaidMore
import Derived.OpenShut
import Derived.Stop.Joined
import Derived.Stop.LaidErr
import Derived.Lib.LaidTab
import Derived.Deep.Strs
import Derived.SevenTiedAt
namespace Go.Proofs.Qxb6626205aDoor
open Go.ChangeShapes Go.WideShapes Go.ChangeAt Go.RowKit

theorem Tryd.own : ownKnob Tryd.prog.godebug = none := by kernel_rfl
theorem Tryd.laidOut : laidOutB Tryd.prog = true := by kernel_rfl
theorem Tryd.cells9 : Tryd.prog.cellsOf 9 = 1 := by kernel_rfl
theorem Tryd.cells2 : Tryd.prog.cellsOf 2 = 1 := by kernel_rfl
theorem Tryd.cells21 : Tryd.prog.cellsOf 21 = 1 := by kernel_rfl
theorem Tryd.cells4 : Tryd.prog.cellsOf 4 = 1 := by kernel_rfl
theorem Tryd.cells23 : Tryd.prog.cellsOf 23 = 7 := by kernel_rfl
theorem Tryd.cells48 : Tryd.prog.cellsOf 48 = 1 := by kernel_rfl
theorem Tryd.cells56 : Tryd.prog.cellsOf 56 = 20 := by kernel_rfl
theorem gTab : Tryd.prog.globalNamed tabName = some 0 := by kernel_rfl
theorem tTab : (Tryd.prog.globals[0]?).map (·.type) = some 56 := by kernel_rfl

theorem tab_of_laid {W : World} (h : laidMetH Tryd.prog Rows.fnRequestGivesAFreshFrameEachCallRow.laid W) : Lib.TabIs Tryd.prog W tabName .u64 Lib.pow10Tab := by
  rw [MakeChecks.laidMetH_plain _ _ _ (by kernel_rfl)] at h
  have h2 := laidMet.tail (laidMet.tail h)
  exact Lib.tabIs_of_head (n := 20) (e := 48) gTab tTab Tryd.underlying56 Tryd.underlying48 Tryd.cells48 Tryd.cells56 h2

set_option maxRecDepth 100000 in
theorem door_met (os : Os) (args : Array Value) : laidMetH Tryd.prog Rows.fnRequestGivesAFreshFrameEachCallRow.laid ((World.doorLaid Tryd.prog 4000 os).forCall (fun _ _ => 0) ⟨#[], args, []⟩).memory :=
  laidMetH_of_parts3 (fuel := 8) (laidMet_of_run' 8 (by kernel_rfl) (by kernel_rfl)) (by kernel_rfl) (by kernel_rfl)

theorem array7 {α : Type} {cs : Array α} (h : cs.size = 7) : ∃ c0 c1 c2 c3 c4 c5 c6, cs = #[c0, c1, c2, c3, c4, c5, c6] := by
  obtain ⟨l⟩ := cs
  match l, h with
  | [c0, c1, c2, c3, c4, c5, c6], _ => exact ⟨c0, c1, c2, c3, c4, c5, c6, rfl⟩

theorem list7 {α : Type} {l : List α} (h : l.length = 7) : ∃ c0 c1 c2 c3 c4 c5 c6, l = [c0, c1, c2, c3, c4, c5, c6] := by
  match l, h with
  | [c0, c1, c2, c3, c4, c5, c6], _ => exact ⟨c0, c1, c2, c3, c4, c5, c6, rfl⟩

/-- the ranges of the numbers -/
structure Fields.Rng (x : Fields) : Prop where
  p0 : -9223372036854775808 ≤ x.p
  p1 : x.p ≤ 9223372036854775807
  o0 : -9223372036854775808 ≤ x.o
  o1 : x.o ≤ 9223372036854775807
  s0 : -2147483648 ≤ x.st
  s1 : x.st ≤ 2147483647

theorem wf64 {n : Int} (h : (Lit.int .i64 n).wf = true) : -9223372036854775808 ≤ n ∧ n ≤ 9223372036854775807 := by
  have e0 : IntKind.i64.min = -9223372036854775808 := by decide
  have e1 : IntKind.i64.max = 9223372036854775807 := by decide
  simp only [Lit.wf, e0, e1, Bool.and_eq_true, decide_eq_true_eq] at h
  exact h

theorem wf32 {n : Int} (h : (Lit.int .i32 n).wf = true) : -2147483648 ≤ n ∧ n ≤ 2147483647 := by
  have e0 : IntKind.i32.min = -2147483648 := by decide
  have e1 : IntKind.i32.max = 2147483647 := by decide
  simp only [Lit.wf, e0, e1, Bool.and_eq_true, decide_eq_true_eq] at h
  exact h

theorem str_len {s : ByteArray} (h : s.size ≤ maxLen) : s.data.toList.length ≤ maxLen := by
  have e : s.data.toList.length = s.size := Array.length_toList
  rw [e]; exact h

theorem open_dec {H : Type} {enc : TypeId × Value → H} {w : World} {r : Reach} {b0 base : Nat} {sp : Nat → Bool} {held : Bool} {v : Value} {d : DataW H} {p : List MemPlace}
    (hv : Value.okWide Tryd.prog w r b0 23 v) (h : DataW.Trod enc Tryd.prog w base sp held 23 v d p) : ∃ x : Fields, v = x.agg ∧ x.Len ∧ x.Rng := by
  obtain ⟨cs, rfl, hsz⟩ := okWide_struct Tryd.underlying23 hv
  obtain ⟨a0, a1, a2, a3, a4, a5, a6, rfl⟩ := array7 (hsz.trans Tryd.cells23)
  obtain ⟨fuel, hf⟩ := h
  obtain ⟨xs, n, _, hx, hl, hlen, hfld⟩ := DataW.trod_struct Tryd.underlying23 hf
  obtain ⟨y0, y1, y2, y3, y4, y5, y6, rfl⟩ := list7 hlen
  have g0 : DataW.trod enc Tryd.prog w base sp held n 9 [a0] = some y0 := by
    have h : DataW.trod enc Tryd.prog w base sp held n 9 (([a0, a1, a2, a3, a4, a5, a6].drop 0).take (Tryd.prog.cellsOf 9)) = some y0 := hfld 0 _ rfl
    rw [Tryd.cells9] at h
    exact h
  have g1 : DataW.trod enc Tryd.prog w base sp held n 2 [a1] = some y1 := by
    have h : DataW.trod enc Tryd.prog w base sp held n 2 (([a0, a1, a2, a3, a4, a5, a6].drop 1).take (Tryd.prog.cellsOf 2)) = some y1 := hfld 1 _ rfl
    rw [Tryd.cells2] at h
    exact h
  have g2 : DataW.trod enc Tryd.prog w base sp held n 2 [a2] = some y2 := by
    have h : DataW.trod enc Tryd.prog w base sp held n 2 (([a0, a1, a2, a3, a4, a5, a6].drop 2).take (Tryd.prog.cellsOf 2)) = some y2 := hfld 2 _ rfl
    rw [Tryd.cells2] at h
    exact h
  have g3 : DataW.trod enc Tryd.prog w base sp held n 9 [a3] = some y3 := by
    have h : DataW.trod enc Tryd.prog w base sp held n 9 (([a0, a1, a2, a3, a4, a5, a6].drop 3).take (Tryd.prog.cellsOf 9)) = some y3 := hfld 3 _ rfl
    rw [Tryd.cells9] at h
    exact h
  have g4 : DataW.trod enc Tryd.prog w base sp held n 9 [a4] = some y4 := by
    have h : DataW.trod enc Tryd.prog w base sp held n 9 (([a0, a1, a2, a3, a4, a5, a6].drop 4).take (Tryd.prog.cellsOf 9)) = some y4 := hfld 4 _ rfl
    rw [Tryd.cells9] at h
    exact h
  have g5 : DataW.trod enc Tryd.prog w base sp held n 21 [a5] = some y5 := by
    have h : DataW.trod enc Tryd.prog w base sp held n 21 (([a0, a1, a2, a3, a4, a5, a6].drop 5).take (Tryd.prog.cellsOf 21)) = some y5 := hfld 5 _ rfl
    rw [Tryd.cells21] at h
    exact h
  have g6 : DataW.trod enc Tryd.prog w base sp held n 4 [a6] = some y6 := by
    have h : DataW.trod enc Tryd.prog w base sp held n 4 (([a0, a1, a2, a3, a4, a5, a6].drop 6).take (Tryd.prog.cellsOf 4)) = some y6 := hfld 6 _ rfl
    rw [Tryd.cells4] at h
    exact h
  obtain ⟨s0, e0, _, m0⟩ := DataW.trod_string Tryd.underlying9 g0
  obtain ⟨n1, e1, _, w1⟩ := DataW.trod_int Tryd.underlying2 g1
  obtain ⟨n2, e2, _, w2⟩ := DataW.trod_int Tryd.underlying2 g2
  obtain ⟨s3, e3, _, m3⟩ := DataW.trod_string Tryd.underlying9 g3
  obtain ⟨s4, e4, _, m4⟩ := DataW.trod_string Tryd.underlying9 g4
  obtain ⟨n5, e5, _, w5⟩ := DataW.trod_int Tryd.underlying21 g5
  obtain ⟨b6, e6, _⟩ := DataW.trod_bool Tryd.underlying4 g6
  simp only [List.cons.injEq, and_true] at e0 e1 e2 e3 e4 e5 e6
  subst e0 e1 e2 e3 e4 e5 e6
  refine ⟨⟨s0.data.toList, n1, n2, s3.data.toList, s4.data.toList, n5, b6⟩, rfl, ⟨str_len m0, str_len m3, str_len m4⟩, ⟨(wf64 w1).1, (wf64 w1).2, (wf64 w2).1, (wf64 w2).2, (wf32 w5).1, (wf32 w5).2⟩⟩

end Go.Proofs.Qxb6626205aDoor
