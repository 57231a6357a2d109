/-
  Seat b6625867a: the contracts of ZZnewPairingSide (8), everyFilter (10), ZZeveryFilter (7).
-/
import Derived.Test.Qxb6625867aParts
namespace Go.Proofs.Qxb6625867a
open Go.RowKit

/-- Block B holds a pairingSide that leads to n filters. -/
def Side (w : World) (B n : Nat) : Prop :=
  ∃ G fo c, w.cell? ⟨B, 0, none⟩ = some (.pointer (some ⟨G, 0, none⟩)) ∧ w.cell? ⟨G, 0, none⟩ = some (.slice fo n c)

theorem Side.below {w w' : World} {B n : Nat} (h : Side w B n) (hb : Below w.heap.size w w') : Side w' B n := by
  obtain ⟨G, fo, c, h1, h2⟩ := h
  exact ⟨G, fo, c, (hb.cell (p := ⟨B, 0, none⟩) (World.block_lt_of_cell? w ⟨B, 0, none⟩ h1)).trans h1, (hb.cell (p := ⟨G, 0, none⟩) (World.block_lt_of_cell? w ⟨G, 0, none⟩ h2)).trans h2⟩

theorem grown_of_below {w w' : World} (h : Below w.heap.size w w') : w.grownBy w' none :=
  ⟨h.os, h.tape, h.output, h.size, fun k hk _ => h.block k hk⟩

theorem owns_mono {w : World} {base base' : Nat} {e : TypeId} {size : Nat} {v : Value} {n : Nat} {xs : List Value} (h : w.ownsRow base e size v n xs) (hb : base' ≤ base) : w.ownsRow base' e size v n xs := by
  refine ⟨h.1, ?_⟩
  rcases h.2 with h2 | ⟨g, cap, cur, hv, hg, r⟩
  · exact Or.inl h2
  · exact Or.inr ⟨g, cap, cur, hv, Nat.le_trans hb hg, r⟩

set_option maxHeartbeats 400000 in
set_option maxRecDepth 100000 in
theorem new_any (fo g1 g2 g3 : Option Addr) (n cf n1 c1 n2 c2 n3 c3 : Nat) (w : World) :
    Calls Try.prog 8 #[.slice fo n cf, .slice g1 n1 c1, .slice g2 n2 c2, .slice g3 n3 c3] w fun e w' => ∃ B, e = .returned (.pointer (some ⟨B, 0, none⟩)) ∧ Side w' B n ∧ Below w.heap.size w w' := by
  go_enter Try.func8, Try.ntmps8
  go_wp2
  go_ret
  refine ⟨_, rfl, ⟨w.heap.size, fo, cf, ?_, ?_⟩, ((Below.refl _ _).alloc (Nat.le_refl _) _).alloc (by simp) _⟩
  · simp
  · rw [World.cell?_alloc_past _ _ _ (by simp), World.cell?_alloc_at _ _ _ _ rfl]; rfl

/-- The numbers from 0 on, as cells. -/
def nums (n : Nat) : List Value := (List.range n).map fun (i : Nat) => .int .u64 (i : Int)

theorem nums_get (n i : Nat) (h : i < n) : (nums n)[i]? = some (.int .u64 i) := by simp [nums, h]

/-- The first k cells are their own numbers. -/
def UpTo (cells : List Value) (k : Nat) : Prop := ∀ j, j < k → cells[j]? = some (.int .u64 j)

theorem UpTo.next {cells : List Value} {k : Nat} (h : UpTo cells k) (hk : k < cells.length) : UpTo (cells.set k (.int .u64 k)) (k + 1) := by
  intro j hj
  by_cases e : j = k
  · subst e; rw [List.getElem?_set_self hk]
  · rw [List.getElem?_set_ne (by omega)]; exact h j (by omega)

theorem UpTo.all {cells : List Value} {n : Nat} (h : UpTo cells n) (hl : cells.length = n) : cells = nums n := by
  apply List.ext_getElem?
  intro j
  by_cases hj : j < n
  · rw [h j hj, nums_get n j hj]
  · rw [List.getElem?_eq_none (by omega), List.getElem?_eq_none (by simp [nums]; omega)]

theorem Try.info31 : (Try.prog.info? 31).map (fun i => (i.zero, i.size, i.bytes)) = some (some (.int .u64 0), 1, 8) := by kernel_rfl

set_option maxHeartbeats 400000 in
set_option maxRecDepth 100000 in
theorem every_any (B n : Nat) (w : World) (hs : Side w B n) (hn : n ≤ 1048576) :
    Calls Try.prog 10 #[.pointer (some ⟨B, 0, none⟩)] w fun e w' => ∃ g, e = .returned (.slice (some ⟨g, 0, none⟩) n n) ∧ w'.ownsRow w.heap.size 31 1 (.slice (some ⟨g, 0, none⟩) n n) n (nums n) ∧ Below w.heap.size w w' := by
  obtain ⟨G, fo, c, h1, h2⟩ := hs
  obtain ⟨i, hi, hz0, hz1, hz2⟩ := info_parts Try.info31
  go_enter Try.func10, Try.ntmps10
  go_wp2_with (at_make; refine wpList_make_full _ rfl (.tmp 12) (.tmp 12) 27 rfl w.heap.size 31 i (.int .u64 0) 1 Try.underlying27 hi hz0 hz1 .i64 .i64 _ _ n rfl rfl rfl rfl (by rw [hz2]; omega) (by unfold maxLen; omega) (Nat.le_refl _) ?_)
  intro w1 hown hgrow
  obtain ⟨N, hN⟩ : ∃ N, N = w.heap.size := ⟨_, rfl⟩
  rw [← hN] at hown ⊢
  have hNle : N ≤ w.heap.size := by omega
  have hNge : w.heap.size ≤ N := by omega
  have b1 : Below N w w1 := (Below.refl N w).grown hgrow hNle (fun k hk => by cases hk)
  clear hN hgrow h1 h2
  go_wp2_with fail
  go_loopw [16] (fun i wr => ∃ (k : Nat) (cells : List Value), k ≤ n ∧ i = .int .i64 k ∧ Below N w wr ∧ wr.ownsRow N 31 1 (.slice (some ⟨N, 0, none⟩) n n) n cells ∧ UpTo cells k) (fun i _ => n - (intOf i).toNat)
  case atStart => exact ⟨0, _, Nat.zero_le _, rfl, b1, hown, fun j hj => by omega⟩
  case round =>
    clear b1 hown
    obtain ⟨k, cells, hk, rfl, hb, hown, hup⟩ := hrel
    have hlc : cells.length = n := by simpa using hown.1
    by_cases hlt : k < n
    · have i0 : (0 : Int) ≤ (k : Int) := by omega
      have i1 : (k : Int) < (n : Int) := by omega
      obtain ⟨u, hu⟩ : ∃ u, wr.cell? ⟨N, k, none⟩ = some u := ⟨_, (hown.cellAt k (by omega)).trans (List.getElem?_eq_getElem (by omega))⟩
      have fu := hown.frozenAt k
      have hst := hown.stored k (.int .u64 k)
      have hun := hup.next (by omega)
      have HS : Hid ((wr.setCell ⟨N, k, none⟩ (.int .u64 k)).ownsRow N 31 1 (.slice (some ⟨N, 0, none⟩) n n) n (cells.set k (.int .u64 k))) := hst.1
      have HU : Hid (UpTo (cells.set k (.int .u64 k)) (k + 1)) := hun
      clear hst hun hup hown
      go_wp2
      go_roundw
      case rel => exact ⟨k + 1, _, by omega, by go_num, hb.setCell (Nat.le_refl N) _, HS.out, HU.out⟩
      case measure => simp [intOf]; omega
    · obtain rfl : k = n := by omega
      have e := hup.all hlc
      rw [e] at hown
      clear e hup
      go_wp2
      go_ret
      exact ⟨N, rfl, owns_mono hown hNge, hb.mono hNge⟩

set_option maxHeartbeats 400000 in
set_option maxRecDepth 100000 in
theorem zzevery_any (B n : Nat) (w : World) (hs : Side w B n) (hn : n ≤ 1048576) :
    Calls Try.prog 7 #[.pointer (some ⟨B, 0, none⟩)] w fun e w' => ∃ g, e = .returned (.slice (some ⟨g, 0, none⟩) n n) ∧ w'.ownsRow w.heap.size 31 1 (.slice (some ⟨g, 0, none⟩) n n) n (nums n) ∧ Below w.heap.size w w' := by
  go_enter Try.func7, Try.ntmps7
  go_wp2_with fail
  refine (every_any B n w hs hn).mono ?_
  rintro e w1 ⟨g, rfl, hown, hb⟩
  go_wp2
  go_ret
  exact ⟨g, rfl, hown, hb⟩

/-- What is owned stays owned where all old memory is as it was. -/
theorem owns_below {w w' : World} {base : Nat} {e : TypeId} {size : Nat} {v : Value} {n : Nat} {xs : List Value} (h : w.ownsRow base e size v n xs) (hb : Below w.heap.size w w') : w'.ownsRow base e size v n xs := by
  refine h.kept (grown_of_below hb) ?_
  cases hv : v.ownBlock with
  | none => exact Or.inl rfl
  | some k => exact Or.inr (by simp)

end Go.Proofs.Qxb6625867a
