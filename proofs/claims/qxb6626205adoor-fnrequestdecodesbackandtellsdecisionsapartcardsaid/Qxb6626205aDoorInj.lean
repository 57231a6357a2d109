/-
  Seat b6626205aD: the texts of two decisions agree only where the decisions do.
-/
import Derived.Test.Qxb6626205aDoorSame
namespace Go.Proofs.Qxb6626205aDoor

def val (l : Bytes) : Nat := l.foldl (fun a c => a * 10 + (c.toNat - 48)) 0

theorem val_snoc (l : Bytes) (c : UInt8) : val (l ++ [c]) = val l * 10 + (c.toNat - 48) := by simp [val]

theorem dig_toNat (r : Nat) (h : r < 10) : (UInt8.ofNat (48 + r)).toNat = 48 + r := by
  rw [UInt8.toNat_ofNat']
  exact Nat.mod_eq_of_lt (by omega)

theorem val_dec (u : Nat) : val (Lib.decDigits u) = u := by
  induction u using Nat.strongRecOn with
  | _ u ih =>
    by_cases h : u < 10
    · rw [Lib.decDigits, dif_pos h]
      have := dig_toNat u h
      simp only [val, List.foldl_cons, List.foldl_nil, this]
      omega
    · rw [Lib.decDigits, dif_neg h, val_snoc, ih (u / 10) (by omega), dig_toNat _ (by omega)]
      omega

theorem dec_inj {u v : Nat} (h : Lib.decDigits u = Lib.decDigits v) : u = v := by
  rw [← val_dec u, ← val_dec v, h]

theorem dec_head (v : Nat) (l : Bytes) : (45 :: l) ≠ Lib.decDigits v := by
  intro h
  have h0 := digit_at v 0 (Lib.nDigits_pos v)
  rw [← h] at h0
  simp only [List.getElem?_cons_zero, Option.some.injEq] at h0
  have h1 := congrArg UInt8.toNat h0
  rw [dig_toNat _ (by have := dAt_le v 0; omega)] at h1
  have h2 : (45 : UInt8).toNat = 45 := rfl
  omega

theorem itoa_inj {a b : Int} (h : Lib.itoa a = Lib.itoa b) : a = b := by
  unfold Lib.itoa at h
  by_cases ha : a < 0 <;> by_cases hb : b < 0
  · rw [if_pos ha, if_pos hb] at h
    have := dec_inj (List.cons.inj h).2
    omega
  · rw [if_pos ha, if_neg hb] at h
    exact absurd h (dec_head _ _)
  · rw [if_neg ha, if_pos hb] at h
    exact absurd h.symm (dec_head _ _)
  · rw [if_neg ha, if_neg hb] at h
    have := dec_inj h
    omega

theorem itoa_beq (a b : Int) : (Lib.itoa a == Lib.itoa b) = (a == b) := by
  by_cases h : a = b
  · subst h; simp
  · rw [beq_eq_false_iff_ne.2 h, beq_eq_false_iff_ne.2 (fun e => h (itoa_inj e))]

theorem bool_beq (a b : Bool) : (boolBytes a == boolBytes b) = (a == b) := by cases a <;> cases b <;> rfl

theorem same_is_eq (x y : Fields) : ((x.g == y.g) && (Lib.itoa x.p == Lib.itoa y.p) && (Lib.itoa x.o == Lib.itoa y.o) && (Lib.itoa x.st == Lib.itoa y.st) && (boolBytes x.fc == boolBytes y.fc) && (x.m == y.m) && (x.t == y.t)) = eqF x y := by
  rw [itoa_beq, itoa_beq, itoa_beq, bool_beq, eqF]
  cases (x.g == y.g) <;> cases (x.p == y.p) <;> cases (x.o == y.o) <;> cases (x.st == y.st) <;> cases (x.fc == y.fc) <;> cases (x.m == y.m) <;> cases (x.t == y.t) <;> rfl

end Go.Proofs.Qxb6626205aDoor
