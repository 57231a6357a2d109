/-
  Seat b6625816a: the rows of tools as they came in ('View'); the measuring functions' contracts (12 zzBytes_.., 14 b1RowsBytes, 13 b1Bytes2).
-/
import Derived.Test.Qxb6625816aRows
import Derived.WalkKit
import Derived.WalkLawsBesides
import Derived.Deep.RegionHeld3
import Derived.Deep.QuietTactic
import Derived.BigQuiet
namespace Go.Proofs.Qxb6625816a
open Go.RowKit

/-- One tool's plain data: name, description, schema. -/
abbrev T3 : Type := ByteArray × ByteArray × ByteArray

/-- What the walks are told of a slice of tool rows: its elements are 'rs', three string cells each. -/
def View (w : World) (ao : Option Addr) (rs : List T3) : Prop :=
  ∀ k (h : k < rs.length), ∃ b off, ao = some ⟨b, off, none⟩ ∧ b < w.heap.size ∧ w.cell? ⟨b, off + k * 3, none⟩ = some (.string (rs[k]).1) ∧ w.cell? ⟨b, off + k * 3 + 1, none⟩ = some (.string (rs[k]).2.1) ∧ w.cell? ⟨b, off + k * 3 + 2, none⟩ = some (.string (rs[k]).2.2)

theorem View.below {w w' : World} {ao : Option Addr} {rs : List T3} (h : View w ao rs) (hb : Below w.heap.size w w') : View w' ao rs := fun k hk => by
  obtain ⟨b, off, e, hlt, c0, c1, c2⟩ := h k hk
  exact ⟨b, off, e, Nat.lt_of_lt_of_le hlt hb.size, (hb.cell (p := ⟨b, off + k * 3, none⟩) hlt).trans c0, (hb.cell (p := ⟨b, off + k * 3 + 1, none⟩) hlt).trans c1, (hb.cell (p := ⟨b, off + k * 3 + 2, none⟩) hlt).trans c2⟩

theorem View.drewN {w : World} {ao : Option Addr} {rs : List T3} (h : View w ao rs) (n : Nat) : View (w.drewN n) ao rs := by
  intro k hk
  obtain ⟨b, off, e, hlt, c0, c1, c2⟩ := h k hk
  exact ⟨b, off, e, by simpa using hlt, by simpa using c0, by simpa using c1, by simpa using c2⟩

/-- Some number is answered, and the world has at most drawn. -/
def SomeInt (w : World) (e : Ending) (w' : World) : Prop := ∃ t', e = .returned (.int .i64 t') ∧ ∃ n, w' = w.drewN n

set_option maxHeartbeats 400000 in
set_option maxRecDepth 100000 in
/-- b1RowsBytes: some number; nothing written. -/
theorem rowsBytes_any (ao : Option Addr) (cap : Nat) (rs : List T3) (t : Int) (w : World) (hv : View w ao rs) (hl : rs.length ≤ maxLen) :
    Calls Try.prog 14 #[.int .i64 t, .slice ao rs.length cap] w fun e w' => SomeInt w e w' := by
  unfold maxLen at hl
  go_enter Try.func14, Try.ntmps14
  go_wp2
  go_loopw [0, 5] (fun t i wr => ∃ k : Nat, k ≤ rs.length ∧ i = .int .i64 k ∧ (∃ z, t = .int .i64 z) ∧ ∃ n, wr = w.drewN n) (fun _ i _ => rs.length - (intOf i).toNat)
  case atStart => exact ⟨0, Nat.zero_le _, rfl, ⟨_, rfl⟩, 0, rfl⟩
  case round =>
    obtain ⟨k, hk, rfl, ⟨z, rfl⟩, n, rfl⟩ := hrel
    by_cases hlt : k < rs.length
    · obtain ⟨b, off, rfl, hbw, c0, c1, c2⟩ := hv k hlt
      obtain ⟨x0, x1, x2, hx⟩ : ∃ x0 x1 x2, rs[k] = (x0, x1, x2) := ⟨_, _, _, rfl⟩
      rw [hx] at c0 c1 c2
      have i0 : (0 : Int) ≤ (k : Int) := by omega
      have i1 : (k : Int) < (rs.length : Int) := by omega
      clear hx hv
      by_cases hz : 1048576 < z
      · go_wp2
        go_ret
        exact ⟨_, rfl, n, rfl⟩
      · go_wp2
        go_quiet (fail)
        go_wp2
        go_roundw
        case rel => exact ⟨k + 1, by omega, by go_num, ⟨_, rfl⟩, n + nq, by simp⟩
        case measure => simp [intOf]; omega
    · go_wp2
      go_ret
      exact ⟨_, rfl, n, rfl⟩

set_option maxHeartbeats 400000 in
set_option maxRecDepth 100000 in
/-- b1Bytes2: some number; nothing written. -/
theorem bytes2_any (ao bo : Option Addr) (ca cb : Nat) (xs ys : List T3) (w : World) (ha : View w ao xs) (hb : View w bo ys) (hl : xs.length ≤ maxLen) (hm : ys.length ≤ maxLen) :
    Calls Try.prog 13 #[.slice ao xs.length ca, .slice bo ys.length cb] w fun e w' => SomeInt w e w' := by
  go_enter Try.func13, Try.ntmps13
  go_wp2_with fail
  refine (rowsBytes_any ao ca xs 0 _ ha hl).mono ?_
  rintro e w1 ⟨t1, rfl, n1, rfl⟩
  go_wp2_with fail
  refine (rowsBytes_any bo cb ys t1 _ (hb.drewN n1) hm).mono ?_
  rintro e w2 ⟨t2, rfl, n2, rfl⟩
  go_wp2
  go_ret
  exact ⟨_, rfl, n1 + n2, by simp⟩

/-- What a measuring function answers: true only within the bound. -/
def Measured (p : Prop) (w : World) (e : Ending) (w' : World) : Prop := ∃ b : Bool, e = .returned (.bool b) ∧ w' = w ∧ (b = true → p)

set_option maxHeartbeats 2000000 in
set_option maxRecDepth 100000 in
/-- zzBytes_FnListToolsSplitsAtAnyCut: where it says yes both slices are short. -/
theorem zz2_any (ao bo : Option Addr) (ca cb : Nat) (xs ys : List T3) (w : World) (ha : View w ao xs) (hb : View w bo ys) (hl : xs.length ≤ maxLen) (hm : ys.length ≤ maxLen) :
    Calls Try.prog 12 #[.slice ao xs.length ca, .slice bo ys.length cb] w fun e w' => Measured (xs.length ≤ 1048576 ∧ ys.length ≤ 1048576) w e w' := by
  unfold maxLen at hl hm
  by_cases h1 : 1048576 < xs.length
  · go_enter Try.func12, Try.ntmps12
    go_wp2
    go_ret
    exact ⟨false, rfl, rfl, by simp⟩
  · go_enter Try.func12, Try.ntmps12
    go_wp2
    go_loop [5, 6] (fun t i => ∃ (k : Nat) (z : Int), k ≤ xs.length ∧ i = .int .i64 k ∧ t = .int .i64 z ∧ 0 ≤ z ∧ z ≤ 1048576) (fun _ i => xs.length - (intOf i).toNat)
    case atStart => exact ⟨0, _, Nat.zero_le _, rfl, rfl, by omega, by omega⟩
    case round =>
      obtain ⟨k, z, hk, rfl, rfl, hz0, hz1⟩ := hrel
      by_cases hlt : k < xs.length
      · obtain ⟨b, off, rfl, hbw, c0, c1, c2⟩ := ha k hlt
        obtain ⟨x0, x1, x2, hx⟩ : ∃ x0 x1 x2, xs[k] = (x0, x1, x2) := ⟨_, _, _, rfl⟩
        rw [hx] at c0 c1 c2
        have i0 : (0 : Int) ≤ (k : Int) := by omega
        have i1 : (k : Int) < (xs.length : Int) := by omega
        clear hx ha hb
        go_wp2
        all_goals first
          | (go_ret; exact ⟨false, rfl, rfl, by simp⟩)
          | (go_round
             case rel => exact ⟨k + 1, _, by omega, by go_num, rfl, by omega, by omega⟩
             case measure => simp [intOf]; omega)
      · by_cases h2 : 1048576 < ys.length
        · go_wp2
          go_ret
          exact ⟨false, rfl, rfl, by simp⟩
        · by_cases h3 : 1048576 < z + ys.length
          · go_wp2
            go_ret
            exact ⟨false, rfl, rfl, by simp⟩
          · go_wp2
            go_loop [5, 7] (fun t i => ∃ (k : Nat) (z : Int), k ≤ ys.length ∧ i = .int .i64 k ∧ t = .int .i64 z ∧ 0 ≤ z ∧ z ≤ 1048576) (fun _ i => ys.length - (intOf i).toNat)
            case atStart => exact ⟨0, _, Nat.zero_le _, rfl, rfl, by omega, by omega⟩
            case round =>
              obtain ⟨k', z', hk', rfl, rfl, hz0', hz1'⟩ := hrel
              by_cases hlt' : k' < ys.length
              · obtain ⟨b, off, rfl, hbw, c0, c1, c2⟩ := hb k' hlt'
                obtain ⟨x0, x1, x2, hx⟩ : ∃ x0 x1 x2, ys[k'] = (x0, x1, x2) := ⟨_, _, _, rfl⟩
                rw [hx] at c0 c1 c2
                have i0 : (0 : Int) ≤ (k' : Int) := by omega
                have i1 : (k' : Int) < (ys.length : Int) := by omega
                clear hx ha hb
                go_wp2
                all_goals first
                  | (go_ret; exact ⟨false, rfl, rfl, by simp⟩)
                  | (go_round
                     case rel => exact ⟨k' + 1, _, by omega, by go_num, rfl, by omega, by omega⟩
                     case measure => simp [intOf]; omega)
              · go_wp2
                go_ret
                exact ⟨true, rfl, rfl, fun _ => ⟨by omega, by omega⟩⟩

end Go.Proofs.Qxb6625816a
