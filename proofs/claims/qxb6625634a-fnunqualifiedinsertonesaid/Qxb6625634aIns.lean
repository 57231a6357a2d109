/-
  Seat b6625634a: FnUnqualifiedInsertOne: the walk.
-/
import Derived.Test.Qxb6625634aBuild
namespace Go.Proofs.Qxb6625634a
open Go.RowKit

set_option maxHeartbeats 400000 in
set_option maxRecDepth 100000 in
theorem ins_big (ao : Option Addr) (n cap : Nat) (k nm : Int) (q : Bool) (w : World) (h : 65536 < n) (hm : n ≤ maxLen) :
    Calls Try.prog 4 #[.slice ao n cap, .int .i64 k, .int .i64 nm, .bool q] w fun e w' => e = .returned (.bool true) ∧ Below w.heap.size w w' := by
  unfold maxLen at hm
  by_cases hb : 1048576 < n
  · go_enter Try.func4, Try.ntmps4
    go_wp2
    go_ret
    exact ⟨rfl, Below.refl _ _⟩
  · go_enter Try.func4, Try.ntmps4
    go_wp2
    go_ret
    exact ⟨rfl, Below.refl _ _⟩

set_option maxHeartbeats 400000 in
set_option maxRecDepth 100000 in
theorem ins_out (ao : Option Addr) (n cap : Nat) (k nm : Int) (q : Bool) (w : World) (h : n ≤ 65536) (hk : k < 0 ∨ (n : Int) < k) :
    Calls Try.prog 4 #[.slice ao n cap, .int .i64 k, .int .i64 nm, .bool q] w fun e w' => e = .returned (.bool true) ∧ Below w.heap.size w w' := by
  rcases hk with hk | hk
  · go_enter Try.func4, Try.ntmps4
    go_wp2
    go_ret
    exact ⟨rfl, Below.refl _ _⟩
  · have hk0 : ¬ k < 0 := by omega
    go_enter Try.func4, Try.ntmps4
    go_wp2
    go_ret
    exact ⟨rfl, Below.refl _ _⟩

theorem mid_step (rs : List (Int × Bool)) (lo j : Nat) (h1 : lo ≤ j) (h : j < rs.length) (x : Int) (q : Bool) (hx : rs[j] = (x, q)) : mid rs lo (j + 1 - lo) = mid rs lo (j - lo) ++ [(x, q)] := by
  rw [show j + 1 - lo = j - lo + 1 by omega, mid_succ rs lo (j - lo) (by omega)]
  simp [show lo + (j - lo) = j by omega, hx]

theorem unq_ins (rs : List (Int × Bool)) (k : Nat) (nm : Int) (q : Bool) : unq (mid rs 0 (k - 0) ++ [(nm, q)] ++ mid rs k (rs.length - k)) = (unq (mid rs 0 (rs.length - 0)) || !q) := by
  have e : mid rs 0 (rs.length - 0) = mid rs 0 (k - 0) ++ mid rs k (rs.length - k) := by
    unfold mid
    have e : List.take (rs.length - k) (List.drop k rs) = List.drop k rs := List.take_of_length_le (by simp)
    simp [e]
  rw [e, unq_append, unq_append, unq_append]
  have e2 : unq [(nm, q)] = !q := by simp [unq]
  rw [e2]
  cases unq (mid rs 0 (k - 0)) <;> cases unq (mid rs k (rs.length - k)) <;> cases q <;> rfl

set_option maxHeartbeats 1000000 in
set_option maxRecDepth 100000 in
theorem ins_main (ao : Option Addr) (cap : Nat) (rs : List (Int × Bool)) (k : Nat) (nm : Int) (q : Bool) (w : World) (hv : View w ao rs) (h : rs.length ≤ 65536) (hk : k ≤ rs.length) :
    Calls Try.prog 4 #[.slice ao rs.length cap, .int .i64 k, .int .i64 nm, .bool q] w fun e w' => e = .returned (.bool true) ∧ Below w.heap.size w w' := by
  have k0 : ¬ (k : Int) < 0 := by omega
  have k1 : ¬ (rs.length : Int) < (k : Int) := by omega
  obtain ⟨bw, hbw⟩ : ∃ b, unq (mid rs 0 (rs.length - 0)) = b := ⟨_, rfl⟩
  have hor := unq_ins rs k nm q
  rw [hbw] at hor
  have HB : Hid (unq (mid rs 0 (rs.length - 0)) = bw) := hbw
  have HA : Hid (unq (mid rs 0 (k - 0) ++ [(nm, q)] ++ mid rs k (rs.length - k)) = (bw || !q)) := hor
  clear hor hbw
  go_enter Try.func4, Try.ntmps4
  go_wp2_with (go_at_call 8; go_in)
  refine (build_int ao cap rs 0 rs.length 0 rs.length rfl rfl _ hv (Nat.zero_le _) (Nat.le_refl _) h _ rfl).mono ?_
  rintro e w1 ⟨rfl, st1, b1⟩
  go_wp2_with fail
  refine (unq_bool w.heap.size _ bw HB.out _ st1 (by have := mid_length rs 0 (rs.length - 0); omega)).mono ?_
  rintro e w2 ⟨rfl, b2⟩
  have b12 := b1.trans (b2.mono b1.size)
  clear st1
  go_wp2_with fail
  refine (new_any _).mono ?_
  rintro e w3 ⟨rfl, st3, b3⟩
  obtain ⟨B, hB⟩ : ∃ B, B = w2.heap.size := ⟨_, rfl⟩
  rw [← hB] at st3 b3 ⊢
  have hBw : w.heap.size ≤ B := by rw [hB]; exact b12.size
  have b13 : Below w.heap.size w w3 := b12.trans (b3.mono hBw)
  clear hB b1 b2 b12 b3
  go_wp2_with fail
  go_loopw [11] (fun i wr => ∃ j : Nat, j ≤ k ∧ i = .int .i64 j ∧ Below w.heap.size w wr ∧ St B wr (mid rs 0 (j - 0))) (fun i _ => k - (intOf i).toNat)
  case atStart => exact ⟨0, Nat.zero_le _, rfl, b13, by simpa [mid] using st3⟩
  case round =>
    clear st3 b13
    obtain ⟨j, hj, rfl, hb, hst⟩ := hrel
    by_cases hlt : j < k
    · obtain ⟨b, off, rfl, hbw, c0, c1⟩ := hv j (by omega)
      obtain ⟨x, qx, hxq⟩ : ∃ x q, rs[j] = (x, q) := ⟨_, _, rfl⟩
      rw [hxq] at c0 c1
      have HQ : Hid (mid rs 0 (j + 1 - 0) = mid rs 0 (j - 0) ++ [(x, qx)]) := mid_step rs 0 j (Nat.zero_le _) (by omega) x qx hxq
      have n0 : wr.cell? ⟨b, off + j * 2, none⟩ = some (.int .i64 x) := (hb.cell (p := ⟨b, off + j * 2, none⟩) hbw).trans c0
      have n1 : wr.cell? ⟨b, off + j * 2 + 1, none⟩ = some (.bool qx) := (hb.cell (p := ⟨b, off + j * 2 + 1, none⟩) hbw).trans c1
      have i0 : (0 : Int) ≤ (j : Int) := by omega
      have i1 : (j : Int) < (rs.length : Int) := by omega
      have hlen : (mid rs 0 (j - 0)).length ≤ 1048576 := by have := mid_length rs 0 (j - 0); omega
      have hstd : St B wr.drew (mid rs 0 (j - 0)) := hst
      have hbB : b < B := Nat.lt_of_lt_of_le hbw hBw
      clear c0 c1 hxq hv
      go_wp2_with fail
      go_region_held3 (fun w' => w'.cell? ⟨b, off + j * 2, none⟩ = some (.int .i64 x) ∧ w'.cell? ⟨b, off + j * 2 + 1, none⟩ = some (.bool qx))
        (first | go_keep | exact ⟨(hb2.cell (p := ⟨b, off + j * 2, none⟩) hbB).trans n0, (hb2.cell (p := ⟨b, off + j * 2 + 1, none⟩) hbB).trans n1⟩)
        ((go_at_call 10; refine (add_any B x qx (mid rs 0 (j - 0)) _ hstd hlen).mono ?_; rintro e w5 ⟨rfl, hst2, hb2⟩))
      go_wp2
      go_roundw
      case rel => exact ⟨j + 1, by omega, by go_num, hb.drew.trans (hb2.mono hBw), by rw [HQ.out]; exact hst2⟩
      case measure => simp [intOf]; omega
    · obtain rfl : j = k := by omega
      go_wp2_with fail
      refine (add_any B nm q _ _ hst (by have := mid_length rs 0 (j - 0); omega)).mono ?_
      rintro e w5 ⟨rfl, st5, b5⟩
      have b5' := hb.trans (b5.mono hBw)
      clear hst hb b5
      go_wp2_with fail
      go_loopw [12] (fun i wr => ∃ m : Nat, j ≤ m ∧ m ≤ rs.length ∧ i = .int .i64 m ∧ Below w.heap.size w wr ∧ St B wr (mid rs 0 (j - 0) ++ [(nm, q)] ++ mid rs j (m - j))) (fun i _ => rs.length - (intOf i).toNat)
      case atStart => exact ⟨j, Nat.le_refl _, hk, rfl, b5', by simpa [mid] using st5⟩
      case round =>
        clear st5 b5'
        obtain ⟨m, hm1, hm2, rfl, hb, hst⟩ := hrel
        by_cases hltm : m < rs.length
        · obtain ⟨b, off, rfl, hbw, c0, c1⟩ := hv m hltm
          obtain ⟨x, qx, hxq⟩ : ∃ x q, rs[m] = (x, q) := ⟨_, _, rfl⟩
          rw [hxq] at c0 c1
          have HQ : Hid (mid rs j (m + 1 - j) = mid rs j (m - j) ++ [(x, qx)]) := mid_step rs j m hm1 hltm x qx hxq
          have n0 : wr.cell? ⟨b, off + m * 2, none⟩ = some (.int .i64 x) := (hb.cell (p := ⟨b, off + m * 2, none⟩) hbw).trans c0
          have n1 : wr.cell? ⟨b, off + m * 2 + 1, none⟩ = some (.bool qx) := (hb.cell (p := ⟨b, off + m * 2 + 1, none⟩) hbw).trans c1
          have i0 : (0 : Int) ≤ (m : Int) := by omega
          have i1 : (m : Int) < (rs.length : Int) := by omega
          have hlen : (mid rs 0 (j - 0) ++ [(nm, q)] ++ mid rs j (m - j)).length ≤ 1048576 := by
            have := mid_length rs 0 (j - 0); have := mid_length rs j (m - j)
            simp only [List.length_append, List.length_cons, List.length_nil]; omega
          have hstd : St B wr.drew (mid rs 0 (j - 0) ++ [(nm, q)] ++ mid rs j (m - j)) := hst
          have hbB : b < B := Nat.lt_of_lt_of_le hbw hBw
          clear c0 c1 hxq hv
          go_wp2_with fail
          go_region_held3 (fun w' => w'.cell? ⟨b, off + m * 2, none⟩ = some (.int .i64 x) ∧ w'.cell? ⟨b, off + m * 2 + 1, none⟩ = some (.bool qx))
            (first | go_keep | exact ⟨(hb2.cell (p := ⟨b, off + m * 2, none⟩) hbB).trans n0, (hb2.cell (p := ⟨b, off + m * 2 + 1, none⟩) hbB).trans n1⟩)
            ((go_at_call 10; refine (add_any B x qx (mid rs 0 (j - 0) ++ [(nm, q)] ++ mid rs j (m - j)) _ hstd hlen).mono ?_; rintro e w7 ⟨rfl, hst2, hb2⟩))
          go_wp2
          go_roundw
          case rel => exact ⟨m + 1, by omega, by omega, by go_num, hb.drew.trans (hb2.mono hBw), by rw [HQ.out, ← List.append_assoc]; exact hst2⟩
          case measure => simp [intOf]; omega
        · obtain rfl : m = rs.length := by omega
          go_wp2_with fail
          refine (unq_bool B _ (bw || !q) HA.out _ hst (by
            have := mid_length rs 0 (j - 0); have := mid_length rs j (rs.length - j)
            simp only [List.length_append, List.length_cons, List.length_nil]; omega)).mono ?_
          rintro e w8 ⟨rfl, b8⟩
          have b9 := hb.trans (b8.mono hb.size)
          clear hst hb b8
          cases bw <;> cases q
          all_goals
            go_wp2
            go_ret
            exact ⟨rfl, b9⟩

end Go.Proofs.Qxb6625634a
