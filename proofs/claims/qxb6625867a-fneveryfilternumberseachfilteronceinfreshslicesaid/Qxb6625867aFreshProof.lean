/-
  Seat b6625867a: 'Rows.FnEveryFilterNumbersEachFilterOnceInFreshSliceSaid'.
-/
import Derived.Test.Qxb6625867aFresh
import Derived.Test.Qxb6625867aOpen
namespace Go.Proofs.Qxb6625867a
open Go.ChangeShapes Go.WideShapes Go.ChangeAt Go.RowKit

theorem fresh_any (fo g1 g2 g3 : Option Addr) (cf c1 c2 c3 : Nat) (z1 z2 z3 : List Int) (fs : List Rw) (w : World) (hf : FView w fo fs) (h0 : fs.length ≤ maxLen)
    (v1 : IView .i64 w g1 z1) (v2 : IView .u32 w g2 z2) (v3 : IView .i64 w g3 z3) (h1 : z1.length ≤ maxLen) (h2 : z2.length ≤ maxLen) (h3 : z3.length ≤ maxLen) :
    Calls Try.prog 4 #[.slice fo fs.length cf, .slice g1 z1.length c1, .slice g2 z2.length c2, .slice g3 z3.length c3] w fun e w' => e = .returned (.bool true) ∧ Below w.heap.size w w' := by
  by_cases hgo : (fs.length ≤ 1048576 ∧ z1.length ≤ 1048576 ∧ z2.length ≤ 1048576 ∧ z3.length ≤ 1048576) ∧ fs.length ≤ 65536 ∧ z1.length = fs.length
  · obtain ⟨⟨m0, m1, m2, m3⟩, k1, e1⟩ := hgo
    have := fresh_main fo g1 g2 g3 cf c1 c2 c3 fs.length z1 z2 z3 fs w hf rfl v1 v2 v3 e1 k1 m2 m3
    rw [e1]
    exact this
  · exact fresh_out fo g1 g2 g3 cf c1 c2 c3 z1.length z2.length z3.length fs w hf h0 h1 h2 h3 (fun hm => by
      rcases Decidable.not_and_iff_or_not.1 hgo with h | h
      · exact absurd hm h
      · omega)

set_option maxRecDepth 100000 in
theorem fresh_lifted (os : Os) (started : os.Started) (H : Type) (enc : TypeId × Value → H) :
    ReturnsInHanded {} Try.checked os 4 .any (Rows.fnEveryFilterNumbersEachFilterOnceInFreshSliceSpec.pre6 enc Try.prog Try.f4 Rows.fnEveryFilterNumbersEachFilterOnceInFreshSliceRow.domain false) (Rows.fnEveryFilterNumbersEachFilterOnceInFreshSliceSpec.post enc Try.prog Try.f4 false true false false) := by
  refine returnsInHanded_of_change (C := Try.checked) Try.own started (by kernel_rfl) Try.func4
    (ChangeSpec.witness6 (enc := enc) (C := Try.checked) false ⟨#[], #[.slice none 0 0, .slice none 0 0, .slice none 0 0, .slice none 0 0], []⟩ 8 (by kernel_rfl) (by kernel_rfl) (by kernel_rfl) (by kernel_rfl)) ?_
  intro W base args ds gs before hval0 hW hcnd _
  have hval : ∀ (j : Nat) t v, Try.f4.params[j]? = some t → args[j]? = some v → Value.okWide Try.prog W .any base t v := hval0
  have hW' := hW
  obtain ⟨p, pq, hA0, hV, rfl, hfz, hnd⟩ := hW
  have hA : DataW.TrodAll enc Try.prog W 0 (fun _ => true) true Try.f4.params.toList args.toList ds p := hA0
  rw [Try.params4] at hA hval
  obtain ⟨v0, vs0, d0, ds0, p0, q0, hargs, rfl, rfl, h0, r0⟩ := trodAll_cons hA
  obtain ⟨v1, vs1, d1, ds1, p1, q1, rfl, rfl, rfl, h1, r1⟩ := trodAll_cons r0
  obtain ⟨v2, vs2, d2, ds2, p2, q2, rfl, rfl, rfl, h2, r2⟩ := trodAll_cons r1
  obtain ⟨v3, vs3, d3, ds3, p3, q3, rfl, rfl, rfl, h3, r3⟩ := trodAll_cons r2
  obtain ⟨rfl, rfl, rfl⟩ := trodAll_nil r3
  obtain rfl : args = #[v0, v1, v2, v3] := by cases args; simp_all
  obtain ⟨rfl, rfl⟩ := trodVars_none hV
  obtain ⟨a0, len0, cap0, rfl⟩ := okWide_slice Try.underlying22 (hval 0 22 v0 rfl rfl)
  obtain ⟨a1, len1, cap1, rfl⟩ := okWide_slice Try.underlying23 (hval 1 23 v1 rfl rfl)
  obtain ⟨a2, len2, cap2, rfl⟩ := okWide_slice Try.underlying24 (hval 2 24 v2 rfl rfl)
  obtain ⟨a3, len3, cap3, rfl⟩ := okWide_slice Try.underlying23 (hval 3 23 v3 rfl rfl)
  have lt0 : ∀ x ∈ p0, x.block < W.heap.size := by obtain ⟨m, hm⟩ := h0; exact DataW.trod_lt m _ _ _ hm
  have lt1 : ∀ x ∈ p1, x.block < W.heap.size := by obtain ⟨m, hm⟩ := h1; exact DataW.trod_lt m _ _ _ hm
  have lt2 : ∀ x ∈ p2, x.block < W.heap.size := by obtain ⟨m, hm⟩ := h2; exact DataW.trod_lt m _ _ _ hm
  have lt3 : ∀ x ∈ p3, x.block < W.heap.size := by obtain ⟨m, hm⟩ := h3; exact DataW.trod_lt m _ _ _ hm
  obtain ⟨l0, m0, _, fs, rfl, view0⟩ := open_filters h0
  obtain ⟨l1, m1, _, z1, rfl, view1⟩ := open_nums Try.underlying23 Try.underlying3 Try.cells3 h1
  obtain ⟨l2, m2, _, z2, rfl, view2⟩ := open_nums Try.underlying24 Try.underlying47 Try.cells47 h2
  obtain ⟨l3, m3, _, z3, rfl, view3⟩ := open_nums Try.underlying23 Try.underlying3 Try.cells3 h3
  clear hA0 hval0
  refine (fresh_any a0 a1 a2 a3 cap0 cap1 cap2 cap3 z1 z2 z3 fs W view0 (Nat.le_trans l0 m0) view1 view2 view3 (Nat.le_trans l1 m1) (Nat.le_trans l2 m2) (Nat.le_trans l3 m3)).mono fun e W' ⟨he, bel⟩ => ?_
  subst he
  exact ⟨_, rfl, _, _, _, [], _, [], hW', trodAll_mk1 (shut_bool Try.underlying4 _), (trodAll_cons_mk (Below.trod Try.laidOut (by kernel_rfl) (of_decide_eq_true (by kernel_rfl)) h0 bel lt0) (trodAll_cons_mk (Below.trod Try.laidOut (by kernel_rfl) (of_decide_eq_true (by kernel_rfl)) h1 bel lt1) (trodAll_cons_mk (Below.trod Try.laidOut (by kernel_rfl) (of_decide_eq_true (by kernel_rfl)) h2 bel lt2) (trodAll_cons_mk (Below.trod Try.laidOut (by kernel_rfl) (of_decide_eq_true (by kernel_rfl)) h3 bel lt3) trodAll_mk0)))), rfl, bel.frame _, fun h => by cases h⟩

/-- THE STATEMENT. -/
theorem fresh_proved : Rows.FnEveryFilterNumbersEachFilterOnceInFreshSliceSaid :=
  OpenClaim.holds_of_wide 4 Try.f4 rfl rfl rfl rfl rfl rfl rfl ⟨rfl, rfl, rfl, rfl, rfl⟩ rfl rfl rfl rfl rfl (by kernel_rfl) Try.func4 (by kernel_rfl)
    (of_decide_eq_true (by kernel_rfl)) (by unfold Func.isWrapper; first | (rw [if_pos (by decide +kernel)]; kernel_rfl) | (rw [if_neg (by decide +kernel)]; exact ⟨rfl, rfl⟩))
    (fun os started H enc _ => fresh_lifted os started H enc)

end Go.Proofs.Qxb6625867a
