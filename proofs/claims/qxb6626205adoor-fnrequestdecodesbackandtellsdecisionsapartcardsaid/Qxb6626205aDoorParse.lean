/-
  Seat b6626205aD: function 15, 'parseDecimal', by the digits of its argument.
-/
import Derived.Test.Qxb6626205aDoorReq
namespace Go.Proofs.Qxb6626205aDoor
open Go.RowKit

set_option maxHeartbeats 4000000 in
set_option maxRecDepth 100000 in
theorem parse_pos (S : ByteArray) (n : Nat) (hn : S.size = n) (h1 : 1 ≤ n) (h2 : n ≤ 19) (d m : Nat → Nat) (hc' : d 0 ≠ 0) (hd : ∀ j, 0 ≤ j → j < n → d j ≤ 9) (hm0 : m 0 = 0) (hms : ∀ j, 0 ≤ j → j < n → m (j + 1) = m j * 10 + d j) (hmb : ∀ j, j ≤ n → m j ≤ 9223372036854775807) (w : World)
   (hi0 : ∀ (w : World) (j : Nat), 0 ≤ j → j < n → (Instr.index 9 (.string S) (.int .i64 j)).run Tryd.prog w = .ok (.int .u8 (48 + d j : Int)) w) :
    Calls Tryd.prog 15 #[.string S] w fun e w' => e = .returned (.tuple #[.int .i64 (m n), .bool true]) ∧ w' = w := by
  have g0 : ∀ w : World, (Instr.index 9 (.string S) (.int .i64 0)).run Tryd.prog w = .ok (.int .u8 (48 + d 0 : Int)) w := fun w => hi0 w 0 (by omega) (by omega)
  have q0 := hd 0 (by omega) (by omega)
  obtain ⟨c, hc⟩ : ∃ c : Int, (48 + d 0 : Int) = c := ⟨_, rfl⟩
  rw [hc] at g0
  have c0 : c ≠ 45 := by omega
  have c2 : c ≠ 48 := by omega
  clear hc
  go_enter Tryd.func15, Tryd.ntmps15
  go_wp2
  clear g0
  go_loop [2, 3, 7, 8] (fun _ _ mag i => ∃ k : Nat, 0 ≤ k ∧ k ≤ n ∧ i = .int .i64 k ∧ mag = .int .u64 (m k)) (fun _ _ _ i => n - (intOf i).toNat)
  case atStart => exact ⟨0, Nat.le_refl _, by omega, rfl, by rw [hm0]; rfl⟩
  case round =>
    obtain ⟨k, hk0, hk, rfl, rfl⟩ := hrel
    by_cases hlt : k < n
    · have gk := fun w => hi0 w k hk0 hlt
      have b1 := hmb k (by omega)
      have b2 := hmb (k + 1) (by omega)
      have b3 := hd k hk0 hlt
      have b4 := hms k hk0 hlt
      clear hi0 hd hmb hms hm0 hc'
      obtain ⟨mk, hmk⟩ : ∃ mk : Int, (m k : Int) = mk := ⟨_, rfl⟩
      obtain ⟨dk, hdk⟩ : ∃ dk : Int, (48 + d k : Int) = dk := ⟨_, rfl⟩
      have b5 : Hid ((m (k + 1) : Int) = mk * 10 + (dk - 48)) := by
        show _ = _
        omega
      rw [hmk]
      rw [hdk] at gk
      have d0 : 48 ≤ dk := by omega
      have d1 : dk ≤ 57 := by omega
      have m0 : 0 ≤ mk := by omega
      have m1 : mk * 10 + (dk - 48) ≤ 9223372036854775807 := by omega
      clear hmk hdk b4 b1 b3 b2
      go_wp2
      go_round
      case rel => exact ⟨_, _, .int .u64 ((m (k + 1) : Nat) : Int), .int .i64 ((k + 1 : Nat) : Int), ⟨k + 1, by omega, rfl, rfl⟩, rfl, rfl, by rw [b5.out], by go_num⟩
      case measure => simp [intOf]; omega
    · obtain rfl : k = n := by omega
      have b1 := hmb k (Nat.le_refl _)
      clear hi0 hd hmb hms hm0 hc'
      obtain ⟨mk, hmk⟩ : ∃ mk : Int, (m k : Int) = mk := ⟨_, rfl⟩
      rw [hmk]
      have m0 : 0 ≤ mk := by omega
      have m1 : mk ≤ 9223372036854775807 := by omega
      have hH : Hid ((m k : Int) = mk) := hmk
      clear hmk b1
      go_wp2
      all_goals go_ret2
      refine ⟨?_, rfl⟩
      rw [hH.out]
      
      
      rfl

set_option maxHeartbeats 4000000 in
set_option maxRecDepth 100000 in
theorem parse_neg (S : ByteArray) (n : Nat) (hn : S.size = n) (h1 : 2 ≤ n) (h2 : n ≤ 20) (d m : Nat → Nat) (hc' : d 1 ≠ 0) (hd : ∀ j, 1 ≤ j → j < n → d j ≤ 9) (hm0 : m 1 = 0) (hms : ∀ j, 1 ≤ j → j < n → m (j + 1) = m j * 10 + d j) (hmb : ∀ j, j ≤ n → m j ≤ 9223372036854775808) (hm1 : 1 ≤ m n) (w : World)
   (hs : ∀ w : World, (Instr.index 9 (.string S) (.int .i64 0)).run Tryd.prog w = .ok (.int .u8 45) w)
   (hi0 : ∀ (w : World) (j : Nat), 1 ≤ j → j < n → (Instr.index 9 (.string S) (.int .i64 j)).run Tryd.prog w = .ok (.int .u8 (48 + d j : Int)) w) :
    Calls Tryd.prog 15 #[.string S] w fun e w' => e = .returned (.tuple #[.int .i64 (-(m n : Int)), .bool true]) ∧ w' = w := by
  have g0 : ∀ w : World, (Instr.index 9 (.string S) (.int .i64 1)).run Tryd.prog w = .ok (.int .u8 (48 + d 1 : Int)) w := fun w => hi0 w 1 (by omega) (by omega)
  have q0 := hd 1 (by omega) (by omega)
  obtain ⟨c, hc⟩ : ∃ c : Int, (48 + d 1 : Int) = c := ⟨_, rfl⟩
  rw [hc] at g0
  have c2 : c ≠ 48 := by omega
  clear hc
  have n1 : ((n : Int) == 1) = false := by simp; omega
  have n0 : ((n : Int) == 0) = false := by simp; omega
  have nw : IntKind.i64.wrap ((n : Int) - 1) = (n : Int) - 1 := by
    have e : IntKind.i64.bits = 64 := rfl
    have es : IntKind.i64.signed = true := rfl
    have e2 : (2:Int)^64 = 18446744073709551616 := by decide
    have e3 : (2:Int)^(64-1) = 9223372036854775808 := by decide
    simp only [IntKind.wrap, e, es, e2, e3, Bool.true_and, decide_eq_true_eq]
    split <;> omega
  go_enter Tryd.func15, Tryd.ntmps15
  go_wp2
  clear g0 hs
  go_loop [2, 3, 7, 8] (fun _ _ mag i => ∃ k : Nat, 1 ≤ k ∧ k ≤ n ∧ i = .int .i64 k ∧ mag = .int .u64 (m k)) (fun _ _ _ i => n - (intOf i).toNat)
  case atStart => exact ⟨1, Nat.le_refl _, by omega, rfl, by rw [hm0]; rfl⟩
  case round =>
    obtain ⟨k, hk0, hk, rfl, rfl⟩ := hrel
    by_cases hlt : k < n
    · have gk := fun w => hi0 w k hk0 hlt
      have b1 := hmb k (by omega)
      have b2 := hmb (k + 1) (by omega)
      have b3 := hd k hk0 hlt
      have b4 := hms k hk0 hlt
      clear hi0 hd hmb hms hm0 hc' hm1
      obtain ⟨mk, hmk⟩ : ∃ mk : Int, (m k : Int) = mk := ⟨_, rfl⟩
      obtain ⟨dk, hdk⟩ : ∃ dk : Int, (48 + d k : Int) = dk := ⟨_, rfl⟩
      have b5 : Hid ((m (k + 1) : Int) = mk * 10 + (dk - 48)) := by
        show _ = _
        omega
      rw [hmk]
      rw [hdk] at gk
      have d0 : 48 ≤ dk := by omega
      have d1 : dk ≤ 57 := by omega
      have m0 : 0 ≤ mk := by omega
      have m1 : mk * 10 + (dk - 48) ≤ 9223372036854775808 := by omega
      clear hmk hdk b4 b1 b3 b2
      go_wp2
      go_round
      case rel => exact ⟨_, _, .int .u64 ((m (k + 1) : Nat) : Int), .int .i64 ((k + 1 : Nat) : Int), ⟨k + 1, by omega, by omega, rfl, rfl⟩, rfl, rfl, by rw [b5.out], by go_num⟩
      case measure => simp [intOf]; omega
    · obtain rfl : k = n := by omega
      have b1 := hmb k (Nat.le_refl _)
      clear hi0 hd hmb hms hm0 hc'
      obtain ⟨mk, hmk⟩ : ∃ mk : Int, (m k : Int) = mk := ⟨_, rfl⟩
      rw [hmk]
      have m0 : 1 ≤ mk := by omega
      have m1 : mk ≤ 9223372036854775808 := by omega
      have hH : Hid ((m k : Int) = mk) := hmk
      clear hmk b1
      go_wp2
      all_goals go_ret2
      refine ⟨?_, rfl⟩
      rw [hH.out]
      have e : -(mk - 1) - 1 = -mk := by omega
      rw [← e]
      rfl

end Go.Proofs.Qxb6626205aDoor
