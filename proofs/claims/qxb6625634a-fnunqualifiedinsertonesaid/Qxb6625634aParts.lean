/-
  Seat b6625634a: the statement under construction as a relation ('St'), and the contracts of ZZnewStatement, ZZaddRef and Unqualified.
-/
import Derived.Test.Qxb6625634aRows
import Derived.WalkKit
import Derived.WalkLawsBesides
namespace Go.Proofs.Qxb6625634a
open Go.RowKit

/-! ### Plain lists -/
/-- The cells of a list of references, two each. -/
def flat : List (Int × Bool) → List Value
  | [] => []
  | p :: r => .int .i64 p.1 :: .bool p.2 :: flat r

theorem flat_length (l : List (Int × Bool)) : (flat l).length = l.length * 2 := by
  induction l with
  | nil => rfl
  | cons p r ih => simp [flat, ih]; omega

theorem flat_append (l m : List (Int × Bool)) : flat (l ++ m) = flat l ++ flat m := by
  induction l with
  | nil => rfl
  | cons p r ih => simp [flat, ih]

theorem flat_get (l : List (Int × Bool)) : ∀ k (h : k < l.length), (flat l)[k * 2]? = some (.int .i64 (l[k]).1) ∧ (flat l)[k * 2 + 1]? = some (.bool (l[k]).2) := by
  induction l with
  | nil => intro k h; simp at h
  | cons p r ih =>
    intro k h
    cases k with
    | zero => simp [flat]
    | succ k =>
      have h' : k < r.length := by simpa using h
      have := ih k h'
      rw [show (k + 1) * 2 = k * 2 + 1 + 1 by omega]
      simpa [flat] using this

/-- What Unqualified answers. -/
def unq (l : List (Int × Bool)) : Bool := l.any fun p => !p.2

theorem unq_append (l m : List (Int × Bool)) : unq (l ++ m) = (unq l || unq m) := by simp [unq]

theorem unq_take_succ (l : List (Int × Bool)) (k : Nat) (h : k < l.length) (h0 : unq (l.take k) = false) : unq (l.take (k + 1)) = !(l[k]).2 := by
  rw [List.take_succ_eq_append_getElem h, unq_append, h0]
  simp [unq]

theorem unq_of_take (l : List (Int × Bool)) (k : Nat) (h : unq (l.take k) = true) : unq l = true := by
  have := unq_append (l.take k) (l.drop k)
  rw [List.take_append_drop] at this
  rw [this, h]; rfl

/-! ### The statement -/
/-- Block B holds a Statement whose refs (its seventh cell) are 'qs', in a row that lies behind B. -/
def St (B : Nat) (w : World) (qs : List (Int × Bool)) : Prop :=
  ∃ v, w.cell? ⟨B, 7, none⟩ = some v ∧ w.frozen? ⟨B, 7, none⟩ = false ∧ w.ownsRow (B + 1) 37 2 v qs.length (flat qs)

theorem St.lt {B : Nat} {w : World} {qs : List (Int × Bool)} (h : St B w qs) : B < w.heap.size := by
  obtain ⟨v, hv, _⟩ := h
  exact World.block_lt_of_cell? w ⟨B, 7, none⟩ hv

theorem grown_of_below {w w' : World} (h : Below w.heap.size w w') : w.grownBy w' none :=
  ⟨h.os, h.tape, h.output, h.size, fun k hk _ => h.block k hk⟩

theorem St.below {B : Nat} {w w' : World} {qs : List (Int × Bool)} (h : St B w qs) (hb : Below w.heap.size w w') : St B w' qs := by
  have hlt := h.lt
  obtain ⟨v, hv, hf, ho⟩ := h
  refine ⟨v, (hb.cell (p := ⟨B, 7, none⟩) hlt).trans hv, (hb.frozen (p := ⟨B, 7, none⟩) hlt).trans hf, ho.kept (grown_of_below hb) ?_⟩
  cases hv : v.ownBlock with
  | none => exact Or.inl rfl
  | some k => exact Or.inr (by simp)

theorem St.drew {B : Nat} {w : World} {qs : List (Int × Bool)} (h : St B w qs) : St B w.drew qs := h

theorem Try.info37 : (Try.prog.info? 37).map (fun i => (i.zero, i.size, i.bytes)) = some (some (.agg #[.int .i64 0, .bool false]), 2, 16) := by kernel_rfl

set_option maxRecDepth 100000 in
theorem new_any (w : World) : Calls Try.prog 9 #[] w fun e w' => e = .returned (.pointer (some ⟨w.heap.size, 0, none⟩)) ∧ St w.heap.size w' [] ∧ Below w.heap.size w w' := by
  go_enter Try.func9, Try.ntmps9
  go_wp2
  go_ret
  exact ⟨rfl, ⟨.slice none 0 0, by rw [World.cell?_alloc_at _ _ _ _ rfl]; rfl, World.frozen?_alloc_at _ _ _ _ rfl, World.ownsRow_nil _ _ _ _⟩, (Below.refl _ _).alloc (Nat.le_refl _) _⟩

set_option maxRecDepth 100000 in
theorem add_any (B : Nat) (x : Int) (q : Bool) (qs : List (Int × Bool)) (wr : World) (h : St B wr qs) (hn : qs.length ≤ 1048576) :
    Calls Try.prog 10 #[.pointer (some ⟨B, 0, none⟩), .int .i64 x, .bool q] wr fun e w' => e = .returned (.tuple #[]) ∧ St B w' (qs ++ [(x, q)]) ∧ Below B wr w' := by
  have hB := h.lt
  obtain ⟨v, hv, hfz, hown⟩ := h
  obtain ⟨i, hi, hz0, hz1, hz2⟩ := info_parts Try.info37
  go_enter Try.func10, Try.ntmps10
  go_wp2_with (at_builtin; refine wpList_append_own _ rfl (.tmp 10) (.tmp 14) 34 rfl (B + 1) 37 i (.agg #[.int .i64 0, .bool false]) 2 16 Try.underlying34 hi hz0 hz1 hz2 rfl (by decide) v qs.length _ rfl (hown.alloc _) ⟨wr.heap.size, 0, none⟩ 1 1 [.int .i64 x, .bool q] rfl rfl ?c1 ?c2 (by unfold maxLen; omega) (by omega) (by simp; omega) ?_)
  case c1 =>
    intro j u hj
    match j, hj with
    | 0, hj => simp at hj; subst hj; simp [Addr.add]
    | 1, hj => simp at hj; subst hj; simp [Addr.add]
  case c2 => intro u hu; simp at hu; rcases hu with rfl | rfl <;> rfl
  intro v' w1 hown' hgrow _
  have hex : ∃ g' cap', v' = .slice (some ⟨g', 0, none⟩) (qs.length + 1) cap' := by
    obtain ⟨_, hcase⟩ := hown'
    rcases hcase with ⟨_, h0⟩ | ⟨g', cap', cur', h, _⟩
    · omega
    · exact ⟨g', cap', h⟩
  obtain ⟨g', cap', hv'⟩ := hex
  rw [hv']
  have hne : some B ≠ v.ownBlock := fun h => by have := hown.lt B h.symm; omega
  have hv1 : w1.cell? ⟨B, 7, none⟩ = some v := hgrow.cell (a := ⟨B, 7, none⟩) ((World.cell?_alloc_past _ _ _ hB).trans hv) hne
  have hf1 : w1.frozen? ⟨B, 7, none⟩ = false := by
    rw [World.frozen?_of_block (w := wr.alloc (.cells #[.int .i64 x, .bool q] 37)) (hgrow.block B (by simp; omega) hne)]
    exact (World.frozen?_alloc_past _ _ _ hB).trans hfz
  go_wp2
  go_end0
  refine ⟨rfl, ⟨_, World.cell?_setCell_same _ _ _ hv1, (World.frozen?_setCell _ _ _ _).trans hf1, ?_⟩, ?_⟩
  · have := ownsRow_setCell_below hown' (a := ⟨B, 7, none⟩) (by show B < B + 1; omega) v'
    rw [hv'] at this
    rw [flat_append]
    simpa [flat] using this
  · exact ((((Below.refl B wr).alloc (by omega) _).grown hgrow (by simp; omega) (fun k hk => by have := (hown.lt k hk).1; omega))).setCell (Nat.le_refl B) _

set_option maxHeartbeats 400000 in
set_option maxRecDepth 100000 in
theorem unq_any (B : Nat) (qs : List (Int × Bool)) (w : World) (h : St B w qs) (hn : qs.length ≤ 1048576) :
    Calls Try.prog 7 #[.pointer (some ⟨B, 0, none⟩)] w fun e w' => e = .returned (.bool (unq qs)) ∧ Below w.heap.size w w' := by
  obtain ⟨v, hv, hfz, hown⟩ := h
  have hform : ∃ ao cap, v = .slice ao qs.length cap ∧ (∀ k, k < qs.length → ∃ g, ao = some ⟨g, 0, none⟩ ∧ g < w.heap.size ∧ w.cell? ⟨g, k * 2, none⟩ = (flat qs)[k * 2]? ∧ w.cell? ⟨g, k * 2 + 1, none⟩ = (flat qs)[k * 2 + 1]?) := by
    have hown0 := hown
    obtain ⟨hl, hcase⟩ := hown
    rcases hcase with ⟨rfl, h0⟩ | ⟨g, cap, cur, rfl, r⟩
    · exact ⟨none, 0, by rw [h0], fun k hk => by omega⟩
    · exact ⟨some ⟨g, 0, none⟩, cap, rfl, fun k hk => ⟨g, rfl, (hown0.lt g rfl).2, hown0.cellAt (k * 2) (by omega), hown0.cellAt (k * 2 + 1) (by omega)⟩⟩
  obtain ⟨ao, cap, rfl, hrow⟩ := hform
  clear hown
  go_enter Try.func7, Try.ntmps7
  go_wp2
  go_loopw [10] (fun i wr => ∃ k : Nat, k ≤ qs.length ∧ i = .int .i64 k ∧ Below w.heap.size w wr ∧ unq (qs.take k) = false) (fun i _ => qs.length - (intOf i).toNat)
  case atStart => exact ⟨0, Nat.zero_le _, rfl, Below.refl _ _, rfl⟩
  case round =>
    obtain ⟨k, hk, rfl, hb, hu⟩ := hrel
    have HU : Hid (unq (qs.take k) = false) := hu
    clear hu
    by_cases hlt : k < qs.length
    · obtain ⟨g, rfl, hg, hc0, hc1⟩ := hrow k hlt
      have hf := flat_get qs k hlt
      have hn0 : wr.cell? ⟨g, k * 2, none⟩ = some (.int .i64 (qs[k]).1) := (hb.cell (p := ⟨g, k * 2, none⟩) hg).trans (hc0.trans hf.1)
      have hn1 : wr.cell? ⟨g, k * 2 + 1, none⟩ = some (.bool (qs[k]).2) := (hb.cell (p := ⟨g, k * 2 + 1, none⟩) hg).trans (hc1.trans hf.2)
      obtain ⟨x, q, hxq⟩ : ∃ x q, qs[k] = (x, q) := ⟨_, _, rfl⟩
      rw [hxq] at hn0 hn1
      have HQ : Hid (qs[k] = (x, q)) := hxq
      clear hc0 hc1 hf hxq hrow
      have hs := hb.size
      cases q with
      | true =>
        go_wp2
        go_roundw
        case rel => exact ⟨k + 1, by omega, by go_num, hb.alloc hs _, by rw [unq_take_succ qs k hlt HU.out, HQ.out]; rfl⟩
        case measure => simp [intOf]; omega
      | false =>
        go_wp2
        go_ret
        have hq : unq qs = true := unq_of_take qs (k + 1) (by rw [unq_take_succ qs k hlt HU.out, HQ.out]; rfl)
        rw [hq]
        exact ⟨rfl, hb.alloc hs _⟩
    · go_wp2
      go_ret
      have hq : unq qs = false := by have := HU.out; rwa [List.take_of_length_le (by omega)] at this
      rw [hq]
      exact ⟨rfl, hb⟩

end Go.Proofs.Qxb6625634a
