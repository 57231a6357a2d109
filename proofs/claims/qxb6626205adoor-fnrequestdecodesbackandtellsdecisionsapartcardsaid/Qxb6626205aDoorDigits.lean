/-
  Seat b6626205aD: 'parseDecimal' reads back what 'FormatInt(n, 10)' writes.
-/
import Derived.Test.Qxb6626205aDoorParse
namespace Go.Proofs.Qxb6626205aDoor
open Go.RowKit

theorem idx_run (L : Bytes) (j : Nat) (b : UInt8) (h : L[j]? = some b) (w : World) : (Instr.index 9 (.string ⟨L.toArray⟩) (.int .i64 j)).run Tryd.prog w = .ok (.int .u8 (b.toNat : Int)) w := by
  obtain ⟨hj, hb⟩ := List.getElem?_eq_some_iff.1 h
  have hsz : (⟨L.toArray⟩ : ByteArray).size = L.length := by simp [ByteArray.size]
  rw [run_index_string w 9 _ .i64 (j : Int) Tryd.underlying9, dif_pos (by rw [hsz]; omega)]
  have : ((⟨L.toArray⟩ : ByteArray)[(j : Int).toNat]'(by rw [hsz]; omega)) = b := by
    show (L.toArray)[(j : Int).toNat]'(by simpa using hj) = b
    simpa using hb
  rw [this]

/-- the digit at place j, and the number that the first j digits spell -/
def dAt (u j : Nat) : Nat := u / 10 ^ (Lib.nDigits u - 1 - j) % 10
def mAt (u j : Nat) : Nat := u / 10 ^ (Lib.nDigits u - j)

theorem dAt_le (u j : Nat) : dAt u j ≤ 9 := by unfold dAt; omega

theorem digit_at (u j : Nat) (hj : j < Lib.nDigits u) : (Lib.decDigits u)[j]? = some (UInt8.ofNat (48 + dAt u j)) := by
  rw [Lib.decDigits_eq]
  simp [hj, Lib.dg, dAt]

theorem digit_nat (u j : Nat) : ((UInt8.ofNat (48 + dAt u j)).toNat : Int) = 48 + (dAt u j : Int) := by
  have := dAt_le u j
  have h : (UInt8.ofNat (48 + dAt u j)).toNat = 48 + dAt u j := by
    rw [UInt8.toNat_ofNat']
    exact Nat.mod_eq_of_lt (by omega)
  rw [h]; omega

theorem mAt_zero (u : Nat) : mAt u 0 = 0 := Nat.div_eq_of_lt (Lib.lt_pow_nDigits u)
theorem mAt_end (u : Nat) : mAt u (Lib.nDigits u) = u := by simp [mAt]
theorem mAt_step (u j : Nat) (hj : j < Lib.nDigits u) : mAt u (j + 1) = mAt u j * 10 + dAt u j := by
  unfold mAt dAt
  obtain ⟨e, he⟩ : ∃ e, Lib.nDigits u - j = e + 1 := ⟨Lib.nDigits u - j - 1, by omega⟩
  have e1 : Lib.nDigits u - (j + 1) = e := by omega
  have e2 : Lib.nDigits u - 1 - j = e := by omega
  rw [he, e1, e2, Nat.pow_succ, ← Nat.div_div_eq_div_mul]
  omega
theorem mAt_le (u j : Nat) : mAt u j ≤ u := Nat.div_le_self _ _

theorem pow_le_of (u : Nat) (h : 1 ≤ u) : 10 ^ (Lib.nDigits u - 1) ≤ u := by
  induction u using Nat.strongRecOn with
  | _ u ih =>
    by_cases h10 : u < 10
    · rw [Lib.nDigits_small h10]; simpa using h
    · rw [Lib.nDigits_big h10]
      have h1 := ih (u / 10) (by omega) (by omega)
      have h2 := Lib.nDigits_pos (u / 10)
      obtain ⟨e, he⟩ : ∃ e, Lib.nDigits (u / 10) = e + 1 := ⟨Lib.nDigits (u / 10) - 1, by omega⟩
      rw [he] at h1 ⊢
      simp only [Nat.add_sub_cancel] at h1 ⊢
      rw [Nat.pow_succ]
      omega

theorem first_ne (u : Nat) (h : 1 ≤ u) : dAt u 0 ≠ 0 := by
  have h0 := mAt_step u 0 (Lib.nDigits_pos u)
  rw [mAt_zero] at h0
  have h1 : 1 ≤ mAt u (0 + 1) := by
    unfold mAt
    exact Nat.div_pos (pow_le_of u h) (Nat.pow_pos (by decide))
  omega

theorem nDigits_le19 (u : Nat) (h : u ≤ 9223372036854775808) : Lib.nDigits u ≤ 19 := by
  by_cases h0 : u = 0
  · subst h0; rw [Lib.nDigits_small (by decide)]; decide
  · have h1 := pow_le_of u (by omega)
    by_cases h2 : Lib.nDigits u ≤ 19
    · exact h2
    · exfalso
      have h3 : 10 ^ 19 ≤ 10 ^ (Lib.nDigits u - 1) := Nat.pow_le_pow_right (by decide) (by omega)
      have h4 : (10 : Nat) ^ 19 = 10000000000000000000 := by decide
      omega

theorem parse_itoa_pos (u : Nat) (h1 : 1 ≤ u) (h2 : u ≤ 9223372036854775807) (w : World) :
    Calls Tryd.prog 15 #[.string ⟨(Lib.decDigits u).toArray⟩] w fun e w' => e = .returned (.tuple #[.int .i64 u, .bool true]) ∧ w' = w := by
  have hsz : (⟨(Lib.decDigits u).toArray⟩ : ByteArray).size = Lib.nDigits u := by simp [ByteArray.size, Lib.decDigits_length]
  have h := parse_pos ⟨(Lib.decDigits u).toArray⟩ (Lib.nDigits u) hsz (Lib.nDigits_pos u) (nDigits_le19 u (by omega)) (dAt u) (mAt u) (first_ne u h1) (fun j _ _ => dAt_le u j) (mAt_zero u)
    (fun j _ hj => mAt_step u j hj) (fun j _ => Nat.le_trans (mAt_le u j) h2) w (fun w j _ hj => by rw [← digit_nat]; exact idx_run _ j _ (digit_at u j hj) w)
  rw [mAt_end] at h
  exact h

theorem parse_itoa_neg (u : Nat) (h1 : 1 ≤ u) (h2 : u ≤ 9223372036854775808) (w : World) :
    Calls Tryd.prog 15 #[.string ⟨(45 :: Lib.decDigits u).toArray⟩] w fun e w' => e = .returned (.tuple #[.int .i64 (-(u : Int)), .bool true]) ∧ w' = w := by
  have hsz : (⟨(45 :: Lib.decDigits u).toArray⟩ : ByteArray).size = Lib.nDigits u + 1 := by simp [ByteArray.size, Lib.decDigits_length]
  have hp := Lib.nDigits_pos u
  have h := parse_neg ⟨(45 :: Lib.decDigits u).toArray⟩ (Lib.nDigits u + 1) hsz (by omega) (by have := nDigits_le19 u h2; omega) (fun j => dAt u (j - 1)) (fun j => mAt u (j - 1)) (first_ne u h1) (fun j _ _ => dAt_le u _) (mAt_zero u)
    (fun j h0 hj => by
      have := mAt_step u (j - 1) (by omega)
      rw [show j - 1 + 1 = j + 1 - 1 by omega] at this
      exact this)
    (fun j _ => Nat.le_trans (mAt_le u _) h2) (by simp only [Nat.add_sub_cancel]; rw [mAt_end]; exact h1) w (fun w => idx_run _ 0 45 rfl w)
    (fun w j h0 hj => by
      obtain ⟨i, rfl⟩ : ∃ i, j = i + 1 := ⟨j - 1, by omega⟩
      simp only [Nat.add_sub_cancel]
      rw [← digit_nat]
      exact idx_run _ (i + 1) _ (by simpa using digit_at u i (by omega)) w)
  simp only [Nat.add_sub_cancel, mAt_end] at h
  exact h

set_option maxHeartbeats 2000000 in
set_option maxRecDepth 100000 in
theorem parse_zero (w : World) : Calls Tryd.prog 15 #[.string ⟨#[48]⟩] w fun e w' => e = .returned (.tuple #[.int .i64 0, .bool true]) ∧ w' = w := by
  have g0 : ∀ w : World, (Instr.index 9 (.string ⟨#[48]⟩) (.int .i64 0)).run Tryd.prog w = .ok (.int .u8 48) w := fun w => idx_run [48] 0 48 rfl w
  have hl : (⟨#[48]⟩ : ByteArray).size = 1 := rfl
  go_enter Tryd.func15, Tryd.ntmps15
  go_wp2
  all_goals go_ret2
  exact ⟨rfl, rfl⟩

theorem parse_itoa (n : Int) (h0 : -9223372036854775808 ≤ n) (h1 : n ≤ 9223372036854775807) (w : World) :
    Calls Tryd.prog 15 #[.string ⟨(Lib.itoa n).toArray⟩] w fun e w' => e = .returned (.tuple #[.int .i64 n, .bool true]) ∧ w' = w := by
  by_cases hz : n = 0
  · subst hz
    have e : Lib.itoa 0 = [48] := by
      have := Lib.itoa_nonneg 0
      rw [Lib.decDigits, dif_pos (by decide)] at this
      simpa using this
    rw [e]
    exact parse_zero w
  by_cases hneg : n < 0
  · obtain ⟨u, rfl⟩ : ∃ u : Nat, n = -(u : Int) := ⟨n.natAbs, by omega⟩
    rw [Lib.itoa_neg u (by omega)]
    exact parse_itoa_neg u (by omega) (by omega) w
  · obtain ⟨u, rfl⟩ : ∃ u : Nat, n = (u : Int) := ⟨n.toNat, by omega⟩
    rw [Lib.itoa_nonneg]
    exact parse_itoa_pos u (by omega) (by omega) w

end Go.Proofs.Qxb6626205aDoor
