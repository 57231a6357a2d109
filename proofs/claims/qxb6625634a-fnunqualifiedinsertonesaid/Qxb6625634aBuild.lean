/-
  Seat b6625634a: zzBuild's contract.
-/
import Derived.Test.Qxb6625634aParts
import Derived.Deep.RegionHeld3
namespace Go.Proofs.Qxb6625634a
open Go.RowKit

/-- What the walks are told of the slice of references that came in: its elements are 'rs', two cells each. -/
def View (w : World) (ao : Option Addr) (rs : List (Int × Bool)) : Prop :=
  ∀ k (h : k < rs.length), ∃ b off, ao = some ⟨b, off, none⟩ ∧ b < w.heap.size ∧ w.cell? ⟨b, off + k * 2, none⟩ = some (.int .i64 (rs[k]).1) ∧ w.cell? ⟨b, off + k * 2 + 1, none⟩ = some (.bool (rs[k]).2)

theorem View.below {w w' : World} {ao : Option Addr} {rs : List (Int × Bool)} (h : View w ao rs) (hb : Below w.heap.size w w') : View w' ao rs := fun k hk => by
  obtain ⟨b, off, e, hlt, c0, c1⟩ := h k hk
  exact ⟨b, off, e, Nat.lt_of_lt_of_le hlt hb.size, (hb.cell (p := ⟨b, off + k * 2, none⟩) hlt).trans c0, (hb.cell (p := ⟨b, off + k * 2 + 1, none⟩) hlt).trans c1⟩

/-- The references from lo on, n of them. -/
def mid (rs : List (Int × Bool)) (lo n : Nat) : List (Int × Bool) := (rs.drop lo).take n

theorem mid_succ (rs : List (Int × Bool)) (lo n : Nat) (h : lo + n < rs.length) : mid rs lo (n + 1) = mid rs lo n ++ [rs[lo + n]] := by
  unfold mid
  rw [List.take_succ_eq_append_getElem (by simp; omega)]
  simp

theorem mid_length (rs : List (Int × Bool)) (lo n : Nat) : (mid rs lo n).length ≤ n := by unfold mid; simp; omega

set_option maxHeartbeats 400000 in
set_option maxRecDepth 100000 in
theorem build_any (ao : Option Addr) (cap : Nat) (rs : List (Int × Bool)) (lo hi : Nat) (w : World) (hv : View w ao rs) (h1 : lo ≤ hi) (h2 : hi ≤ rs.length) (h3 : rs.length ≤ 65536) :
    Calls Try.prog 6 #[.slice ao rs.length cap, .int .i64 lo, .int .i64 hi] w fun e w' => e = .returned (.pointer (some ⟨w.heap.size, 0, none⟩)) ∧ St w.heap.size w' (mid rs lo (hi - lo)) ∧ Below w.heap.size w w' := by
  go_enter Try.func6, Try.ntmps6
  go_wp2_with (go_at_call 9; refine (new_any _).mono ?_; rintro e w1 ⟨rfl, hst, hbel⟩)
  go_loopw [8] (fun i wr => ∃ k : Nat, lo ≤ k ∧ k ≤ hi ∧ i = .int .i64 k ∧ Below w.heap.size w wr ∧ St w.heap.size wr (mid rs lo (k - lo))) (fun i _ => hi - (intOf i).toNat)
  case atStart => exact ⟨lo, Nat.le_refl _, h1, rfl, hbel, by simpa [mid] using hst⟩
  case round =>
    clear hst hbel
    obtain ⟨k, hk1, hk2, rfl, hb, hst⟩ := hrel
    by_cases hlt : k < hi
    · obtain ⟨b, off, rfl, hbw, c0, c1⟩ := hv k (by omega)
      obtain ⟨x, q, hxq⟩ : ∃ x q, rs[k] = (x, q) := ⟨_, _, rfl⟩
      rw [hxq] at c0 c1
      have HQ : Hid (rs[k] = (x, q)) := hxq
      have n0 : wr.cell? ⟨b, off + k * 2, none⟩ = some (.int .i64 x) := (hb.cell (p := ⟨b, off + k * 2, none⟩) hbw).trans c0
      have n1 : wr.cell? ⟨b, off + k * 2 + 1, none⟩ = some (.bool q) := (hb.cell (p := ⟨b, off + k * 2 + 1, none⟩) hbw).trans c1
      have i0 : (0 : Int) ≤ (k : Int) := by omega
      have i1 : (k : Int) < (rs.length : Int) := by omega
      clear c0 c1 hxq hv
      go_wp2_with fail
      have hlen : (mid rs lo (k - lo)).length ≤ 1048576 := by have := mid_length rs lo (k - lo); omega
      have hstd : St w.heap.size wr.drew (mid rs lo (k - lo)) := hst
      go_region_held3 (fun w' => w'.cell? ⟨b, off + k * 2, none⟩ = some (.int .i64 x) ∧ w'.cell? ⟨b, off + k * 2 + 1, none⟩ = some (.bool q))
        (first | go_keep | exact ⟨(hb2.cell (p := ⟨b, off + k * 2, none⟩) hbw).trans n0, (hb2.cell (p := ⟨b, off + k * 2 + 1, none⟩) hbw).trans n1⟩)
        ((go_at_call 10; refine (add_any w.heap.size x q (mid rs lo (k - lo)) _ hstd hlen).mono ?_; rintro e w2 ⟨rfl, hst2, hb2⟩))
      go_wp2
      go_roundw
      case rel => exact ⟨k + 1, by omega, by omega, by go_num, hb.drew.trans hb2, by rw [show k + 1 - lo = k - lo + 1 by omega, mid_succ rs lo (k - lo) (by omega)]; simpa [show lo + (k - lo) = k by omega, HQ.out] using hst2⟩
      case measure => simp [intOf]; omega
    · go_wp2
      go_ret
      obtain rfl : k = hi := by omega
      exact ⟨rfl, hst, hb⟩

/-- The same, its bounds plain integers. -/
theorem build_int (ao : Option Addr) (cap : Nat) (rs : List (Int × Bool)) (lo hi : Int) (l h : Nat) (hl : lo = l) (hh : hi = h) (w : World) (hv : View w ao rs) (h1 : l ≤ h) (h2 : h ≤ rs.length) (h3 : rs.length ≤ 65536) (qs : List (Int × Bool)) (hq : mid rs l (h - l) = qs) :
    Calls Try.prog 6 #[.slice ao rs.length cap, .int .i64 lo, .int .i64 hi] w fun e w' => e = .returned (.pointer (some ⟨w.heap.size, 0, none⟩)) ∧ St w.heap.size w' qs ∧ Below w.heap.size w w' := by
  subst hl; subst hh; subst hq
  exact build_any ao cap rs l h w hv h1 h2 h3

/-- Unqualified, its answer a Bool that is known. -/
theorem unq_bool (B : Nat) (qs : List (Int × Bool)) (q : Bool) (hq : unq qs = q) (w : World) (h : St B w qs) (hn : qs.length ≤ 1048576) :
    Calls Try.prog 7 #[.pointer (some ⟨B, 0, none⟩)] w fun e w' => e = .returned (.bool q) ∧ Below w.heap.size w w' := by
  subst hq
  exact unq_any B qs w h hn

end Go.Proofs.Qxb6625634a
