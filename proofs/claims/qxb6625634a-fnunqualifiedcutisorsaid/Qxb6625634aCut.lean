/-
  Seat b6625634a: FnUnqualifiedCutIsOr: the walk.
-/
import Derived.Test.Qxb6625634aBuild
namespace Go.Proofs.Qxb6625634a
open Go.RowKit

theorem mid_cut (rs : List (Int × Bool)) (k : Nat) : mid rs 0 (rs.length - 0) = mid rs 0 (k - 0) ++ mid rs k (rs.length - k) := by
  unfold mid
  have e : List.take (rs.length - k) (List.drop k rs) = List.drop k rs := List.take_of_length_le (by simp)
  simp [e]

theorem mid_one (rs : List (Int × Bool)) (k : Nat) (h : k < rs.length) : mid rs k (k + 1 - k) = [rs[k]] := by
  have := mid_succ rs k 0 (by omega)
  simpa [mid] using this

set_option maxHeartbeats 400000 in
set_option maxRecDepth 100000 in
theorem cut_big (ao : Option Addr) (n cap : Nat) (k : Int) (w : World) (h : 65536 < n) (hm : n ≤ maxLen) :
    Calls Try.prog 3 #[.slice ao n cap, .int .i64 k] w fun e w' => e = .returned (.bool true) ∧ Below w.heap.size w w' := by
  unfold maxLen at hm
  by_cases hb : 1048576 < n
  · go_enter Try.func3, Try.ntmps3
    go_wp2
    go_ret
    exact ⟨rfl, Below.refl _ _⟩
  · go_enter Try.func3, Try.ntmps3
    go_wp2
    go_ret
    exact ⟨rfl, Below.refl _ _⟩

set_option maxHeartbeats 400000 in
set_option maxRecDepth 100000 in
theorem cut_out (ao : Option Addr) (n cap : Nat) (k : Int) (w : World) (h : n ≤ 65536) (hk : k < 0 ∨ (n : Int) < k) :
    Calls Try.prog 3 #[.slice ao n cap, .int .i64 k] w fun e w' => e = .returned (.bool true) ∧ Below w.heap.size w w' := by
  rcases hk with hk | hk
  · go_enter Try.func3, Try.ntmps3
    go_wp2
    go_ret
    exact ⟨rfl, Below.refl _ _⟩
  · have hk0 : ¬ k < 0 := by omega
    go_enter Try.func3, Try.ntmps3
    go_wp2
    go_ret
    exact ⟨rfl, Below.refl _ _⟩

set_option maxHeartbeats 1000000 in
set_option maxRecDepth 100000 in
theorem cut_main (ao : Option Addr) (cap : Nat) (rs : List (Int × Bool)) (k : Nat) (w : World) (hv : View w ao rs) (h : rs.length ≤ 65536) (hk : k ≤ rs.length) :
    Calls Try.prog 3 #[.slice ao rs.length cap, .int .i64 k] w fun e w' => e = .returned (.bool true) ∧ Below w.heap.size w w' := by
  obtain ⟨qw, hqw⟩ : ∃ q, mid rs 0 (rs.length - 0) = q := ⟨_, rfl⟩
  obtain ⟨ql, hql⟩ : ∃ q, mid rs 0 (k - 0) = q := ⟨_, rfl⟩
  obtain ⟨qr, hqr⟩ : ∃ q, mid rs k (rs.length - k) = q := ⟨_, rfl⟩
  have hcut := mid_cut rs k
  have hlw : qw.length ≤ 1048576 := by have := mid_length rs 0 (rs.length - 0); rw [hqw] at this; omega
  have hll : ql.length ≤ 1048576 := by have := mid_length rs 0 (k - 0); rw [hql] at this; omega
  have hlr : qr.length ≤ 1048576 := by have := mid_length rs k (rs.length - k); rw [hqr] at this; omega
  rw [hqw, hql, hqr] at hcut
  have hor : unq qw = (unq ql || unq qr) := by rw [hcut, unq_append]
  have HW : Hid (mid rs 0 (rs.length - 0) = qw) := hqw
  have HL : Hid (mid rs 0 (k - 0) = ql) := hql
  have HR : Hid (mid rs k (rs.length - k) = qr) := hqr
  have k0 : ¬ (k : Int) < 0 := by omega
  have k1 : ¬ (rs.length : Int) < (k : Int) := by omega
  clear hqw hql hqr hcut
  obtain ⟨bl, hbl⟩ : ∃ b, unq ql = b := ⟨_, rfl⟩
  obtain ⟨br, hbr⟩ : ∃ b, unq qr = b := ⟨_, rfl⟩
  rw [hbl, hbr] at hor
  have HBW : Hid (unq qw = (bl || br)) := hor
  have HBL : Hid (unq ql = bl) := hbl
  have HBR : Hid (unq qr = br) := hbr
  clear hor hbl hbr
  go_enter Try.func3, Try.ntmps3
  go_wp2_with (go_at_call 5; go_in)
  refine (build_int ao cap rs 0 rs.length 0 rs.length rfl rfl _ hv (Nat.zero_le _) (Nat.le_refl _) h qw HW.out).mono ?_
  rintro e w1 ⟨rfl, st1, b1⟩
  go_wp2_with fail
  have v1 := hv.below b1
  refine (build_int ao cap rs 0 k 0 k rfl rfl _ v1 (Nat.zero_le _) hk h ql HL.out).mono ?_
  rintro e w2 ⟨rfl, st2, b2⟩
  go_wp2_with fail
  have v2 := v1.below b2
  refine (build_int ao cap rs k rs.length k rs.length rfl rfl _ v2 hk (Nat.le_refl _) h qr HR.out).mono ?_
  rintro e w3 ⟨rfl, st3, b3⟩
  have st1' := (st1.below b2).below b3
  have st2' := st2.below b3
  go_wp2_with fail
  refine (unq_bool w.heap.size qw (bl || br) HBW.out _ st1' hlw).mono ?_
  rintro e w4 ⟨rfl, b4⟩
  go_wp2_with fail
  refine (unq_bool w1.heap.size ql bl HBL.out _ (st2'.below b4) hll).mono ?_
  rintro e w5 ⟨rfl, b5⟩
  go_wp2_with fail
  refine (unq_bool w2.heap.size qr br HBR.out _ ((st3.below b4).below b5) hlr).mono ?_
  rintro e w6 ⟨rfl, b6⟩
  have v6 := (((v2.below b3).below b4).below b5).below b6
  have hbel : Below w.heap.size w w6 := b1.trans ((b2.mono b1.size).trans ((b3.mono (Nat.le_trans b1.size b2.size)).trans ((b4.mono (Nat.le_trans b1.size (Nat.le_trans b2.size b3.size))).trans ((b5.mono (by have := b1.size; have := b2.size; have := b3.size; have := b4.size; omega)).trans (b6.mono (by have := b1.size; have := b2.size; have := b3.size; have := b4.size; have := b5.size; omega))))))
  clear v1 v2 st1 st2 st3 st1' st2' b1 b2 b3 b4 b5 b6 hv
  by_cases hlt : k < rs.length
  · obtain ⟨b, off, rfl, hbw, c0, c1⟩ := v6 k hlt
    have v6' := v6
    obtain ⟨x, q, hxq⟩ : ∃ x q, rs[k] = (x, q) := ⟨_, _, rfl⟩
    rw [hxq] at c0 c1
    have hone : Hid (mid rs k (k + 1 - k) = [(x, q)]) := by rw [mid_one rs k hlt, hxq]; rfl
    clear hxq v6
    have V : Hid (View w6 (some ⟨b, off, none⟩) rs) := v6'
    clear v6'
    cases bl <;> cases br
    all_goals
      go_wp2_with fail
      refine (build_int _ cap rs k (k + 1) k (k + 1) rfl (by omega) _ V.out (by omega) (by omega) h [(x, q)] hone.out).mono ?_
      rintro e w7 ⟨rfl, st7, b7⟩
      go_wp2_with fail
      have n1 : w7.cell? ⟨b, off + k * 2 + 1, none⟩ = some (.bool q) := (b7.cell (p := ⟨b, off + k * 2 + 1, none⟩) hbw).trans c1
      have i0 : (0 : Int) ≤ (k : Int) := by omega
      have i1 : (k : Int) < (rs.length : Int) := by omega
      have hbw7 : b < w7.heap.size := Nat.lt_of_lt_of_le hbw b7.size
      have st7d : St w6.heap.size w7.drew [(x, q)] := st7
      have b8 : Below w.heap.size w w7.drew := (hbel.trans (b7.mono hbel.size)).drew
      go_region_held3 (fun w' => w'.cell? ⟨b, off + k * 2 + 1, none⟩ = some (.bool q))
        (first | go_keep | exact (b9.cell (p := ⟨b, off + k * 2 + 1, none⟩) hbw7).trans n1)
        ((go_at_call 7; refine (unq_bool w6.heap.size [(x, q)] (!q) (by simp [unq]) _ st7d (by simp)).mono ?_; rintro e w9 ⟨rfl, b9⟩))
      have b10 := b8.trans (b9.mono b8.size)
      go_wp2
      go_ret
      exact ⟨rfl, b10⟩
  · have hge : ¬ (k : Int) < (rs.length : Int) := by omega
    cases bl <;> cases br
    all_goals
      go_wp2
      go_ret
      exact ⟨rfl, hbel⟩

end Go.Proofs.Qxb6625634a
