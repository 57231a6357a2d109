/-
  Seat b6625867a: what came in ('FView': a slice of slices of strings); the measuring functions' contracts (5, 9 zzBytes_.., 6 zzBytesOver).
-/
import Derived.Test.Qxb6625867aRows
import Derived.WalkKit
import Derived.WalkLawsBesides
import Derived.WalkSpells
import Derived.Deep.RegionHeld3
import Derived.Deep.QuietTactic
import Derived.BigQuiet
namespace Go.Proofs.Qxb6625867a
open Go.RowKit

/-- What the walks are told of a slice of strings. -/
def PView (w : World) (ao : Option Addr) (ps : List ByteArray) : Prop :=
  ∀ k (h : k < ps.length), ∃ b off, ao = some ⟨b, off, none⟩ ∧ b < w.heap.size ∧ w.cell? ⟨b, off + k, none⟩ = some (.string (ps[k]))

/-- One row: its address, its capacity, its strings. -/
abbrev Rw : Type := Option Addr × Nat × List ByteArray

/-- What the walks are told of a slice of slices of strings. -/
def FView (w : World) (fo : Option Addr) (fs : List Rw) : Prop :=
  ∀ k (h : k < fs.length), ∃ b off, fo = some ⟨b, off, none⟩ ∧ b < w.heap.size ∧ w.cell? ⟨b, off + k, none⟩ = some (.slice (fs[k]).1 (fs[k]).2.2.length (fs[k]).2.1) ∧ PView w (fs[k]).1 (fs[k]).2.2 ∧ (fs[k]).2.2.length ≤ maxLen

/-- What a measuring function answers: true only within the bound; nothing is written. -/
def Measured (p : Prop) (w : World) (e : Ending) (w' : World) : Prop := ∃ b : Bool, e = .returned (.bool b) ∧ w' = w ∧ (b = true → p)

set_option maxHeartbeats 2000000 in
set_option maxRecDepth 100000 in
theorem zz5_any (fo g1 g2 g3 : Option Addr) (cf c1 c2 c3 n1 n2 n3 : Nat) (cut : Int) (fs : List Rw) (w : World) (hf : FView w fo fs) (hl : fs.length ≤ maxLen) (h1 : n1 ≤ maxLen) (h2 : n2 ≤ maxLen) (h3 : n3 ≤ maxLen) :
    Calls Try.prog 5 #[.slice fo fs.length cf, .slice g1 n1 c1, .slice g2 n2 c2, .slice g3 n3 c3, .int .i64 cut] w fun e w' => Measured (fs.length ≤ 1048576 ∧ n1 ≤ 1048576 ∧ n2 ≤ 1048576 ∧ n3 ≤ 1048576) w e w' := by
  unfold maxLen at hl h1 h2 h3
  by_cases g0 : 1048576 < fs.length
  · go_enter Try.func5, Try.ntmps5
    go_wp2
    go_ret
    exact ⟨false, rfl, rfl, by simp⟩
  go_enter Try.func5, Try.ntmps5
  go_wp2
  go_loop [11, 12] (fun t i => ∃ (k : Nat) (z : Int), k ≤ fs.length ∧ i = .int .i64 k ∧ t = .int .i64 z ∧ 0 ≤ z ∧ z ≤ 1048576) (fun _ i => fs.length - (intOf i).toNat)
  case atStart => exact ⟨0, _, Nat.zero_le _, rfl, rfl, by omega, by omega⟩
  case round =>
    obtain ⟨k, z, hk, rfl, rfl, hz0, hz1⟩ := hrel
    by_cases hlt : k < fs.length
    · obtain ⟨b, off, rfl, hbw, c0, hp, hpl⟩ := hf k hlt
      obtain ⟨sa, sc, ss, hx⟩ : ∃ sa sc ss, fs[k] = (sa, sc, ss) := ⟨_, _, _, rfl⟩
      rw [hx] at c0 hp hpl
      simp only at c0 hp hpl
      unfold maxLen at hpl
      have i0 : (0 : Int) ≤ (k : Int) := by omega
      have i1 : (k : Int) < (fs.length : Int) := by omega
      clear hx hf
      by_cases p1 : 1048576 < ss.length
      · go_wp2
        go_ret
        exact ⟨false, rfl, rfl, by simp⟩
      by_cases p2 : 1048576 < z + ss.length
      · go_wp2
        go_ret
        exact ⟨false, rfl, rfl, by simp⟩
      go_wp2
      go_loop [11, 13] (fun t i => ∃ (j : Nat) (y : Int), j ≤ ss.length ∧ i = .int .i64 j ∧ t = .int .i64 y ∧ 0 ≤ y ∧ y ≤ 1048576) (fun _ i => ss.length - (intOf i).toNat)
      case atStart => exact ⟨0, _, Nat.zero_le _, rfl, rfl, by omega, by omega⟩
      case round =>
        obtain ⟨j, y, hj, rfl, rfl, hy0, hy1⟩ := hrel
        by_cases hltj : j < ss.length
        · obtain ⟨b2, off2, rfl, hbw2, c2'⟩ := hp j hltj
          obtain ⟨x, hxe⟩ : ∃ x, ss[j] = x := ⟨_, rfl⟩
          rw [hxe] at c2'
          have j0 : (0 : Int) ≤ (j : Int) := by omega
          have j1 : (j : Int) < (ss.length : Int) := by omega
          clear hxe hp
          go_wp2
          all_goals first
            | (go_ret; exact ⟨false, rfl, rfl, by simp⟩)
            | (go_round
               case rel => exact ⟨j + 1, _, by omega, by go_num, rfl, by omega, by omega⟩
               case measure => simp [intOf]; omega)
        · clear hp
          go_wp2
          go_round
          case rel => exact ⟨k + 1, _, by omega, by go_num, rfl, by omega, by omega⟩
          case measure => simp [intOf]; omega
    · clear hf
      go_wp2
      all_goals go_ret
      all_goals first
        | exact ⟨false, rfl, rfl, by simp⟩
        | exact ⟨true, rfl, rfl, fun _ => ⟨by omega, by omega, by omega, by omega⟩⟩

set_option maxHeartbeats 2000000 in
set_option maxRecDepth 100000 in
theorem zz9_any (fo g1 g2 g3 : Option Addr) (cf c1 c2 c3 n1 n2 n3 : Nat) (fs : List Rw) (w : World) (hf : FView w fo fs) (hl : fs.length ≤ maxLen) (h1 : n1 ≤ maxLen) (h2 : n2 ≤ maxLen) (h3 : n3 ≤ maxLen) :
    Calls Try.prog 9 #[.slice fo fs.length cf, .slice g1 n1 c1, .slice g2 n2 c2, .slice g3 n3 c3] w fun e w' => Measured (fs.length ≤ 1048576 ∧ n1 ≤ 1048576 ∧ n2 ≤ 1048576 ∧ n3 ≤ 1048576) w e w' := by
  unfold maxLen at hl h1 h2 h3
  by_cases g0 : 1048576 < fs.length
  · go_enter Try.func9, Try.ntmps9
    go_wp2
    go_ret
    exact ⟨false, rfl, rfl, by simp⟩
  go_enter Try.func9, Try.ntmps9
  go_wp2
  go_loop [9, 10] (fun t i => ∃ (k : Nat) (z : Int), k ≤ fs.length ∧ i = .int .i64 k ∧ t = .int .i64 z ∧ 0 ≤ z ∧ z ≤ 1048576) (fun _ i => fs.length - (intOf i).toNat)
  case atStart => exact ⟨0, _, Nat.zero_le _, rfl, rfl, by omega, by omega⟩
  case round =>
    obtain ⟨k, z, hk, rfl, rfl, hz0, hz1⟩ := hrel
    by_cases hlt : k < fs.length
    · obtain ⟨b, off, rfl, hbw, c0, hp, hpl⟩ := hf k hlt
      obtain ⟨sa, sc, ss, hx⟩ : ∃ sa sc ss, fs[k] = (sa, sc, ss) := ⟨_, _, _, rfl⟩
      rw [hx] at c0 hp hpl
      simp only at c0 hp hpl
      unfold maxLen at hpl
      have i0 : (0 : Int) ≤ (k : Int) := by omega
      have i1 : (k : Int) < (fs.length : Int) := by omega
      clear hx hf
      by_cases p1 : 1048576 < ss.length
      · go_wp2
        go_ret
        exact ⟨false, rfl, rfl, by simp⟩
      by_cases p2 : 1048576 < z + ss.length
      · go_wp2
        go_ret
        exact ⟨false, rfl, rfl, by simp⟩
      go_wp2
      go_loop [9, 11] (fun t i => ∃ (j : Nat) (y : Int), j ≤ ss.length ∧ i = .int .i64 j ∧ t = .int .i64 y ∧ 0 ≤ y ∧ y ≤ 1048576) (fun _ i => ss.length - (intOf i).toNat)
      case atStart => exact ⟨0, _, Nat.zero_le _, rfl, rfl, by omega, by omega⟩
      case round =>
        obtain ⟨j, y, hj, rfl, rfl, hy0, hy1⟩ := hrel
        by_cases hltj : j < ss.length
        · obtain ⟨b2, off2, rfl, hbw2, c2'⟩ := hp j hltj
          obtain ⟨x, hxe⟩ : ∃ x, ss[j] = x := ⟨_, rfl⟩
          rw [hxe] at c2'
          have j0 : (0 : Int) ≤ (j : Int) := by omega
          have j1 : (j : Int) < (ss.length : Int) := by omega
          clear hxe hp
          go_wp2
          all_goals first
            | (go_ret; exact ⟨false, rfl, rfl, by simp⟩)
            | (go_round
               case rel => exact ⟨j + 1, _, by omega, by go_num, rfl, by omega, by omega⟩
               case measure => simp [intOf]; omega)
        · clear hp
          go_wp2
          go_round
          case rel => exact ⟨k + 1, _, by omega, by go_num, rfl, by omega, by omega⟩
          case measure => simp [intOf]; omega
    · clear hf
      go_wp2
      all_goals go_ret
      all_goals first
        | exact ⟨false, rfl, rfl, by simp⟩
        | exact ⟨true, rfl, rfl, fun _ => ⟨by omega, by omega, by omega, by omega⟩⟩

set_option maxHeartbeats 2000000 in
set_option maxRecDepth 100000 in
/-- zzBytesOver: yes or no; nothing is written. -/
theorem over_any (fo g1 g2 g3 : Option Addr) (cf c1 c2 c3 n1 n2 n3 : Nat) (fs : List Rw) (w : World) (hf : FView w fo fs) (hl : fs.length ≤ 1048576) (h1 : n1 ≤ 1048576) (h2 : n2 ≤ 1048576) (h3 : n3 ≤ 1048576) :
    Calls Try.prog 6 #[.slice fo fs.length cf, .slice g1 n1 c1, .slice g2 n2 c2, .slice g3 n3 c3] w fun e w' => Measured True w e w' := by
  by_cases g0 : (1048576 : Int) < 8 * fs.length + 8 * n1 + 8 * n2 + 8 * n3
  · go_enter Try.func6, Try.ntmps6
    go_wp2
    go_ret
    exact ⟨true, rfl, rfl, by simp⟩
  go_enter Try.func6, Try.ntmps6
  go_wp2
  go_loop [9, 10] (fun t i => ∃ (k : Nat) (z : Int), k ≤ fs.length ∧ i = .int .i64 k ∧ t = .int .i64 z ∧ 0 ≤ z ∧ z ≤ 1048576) (fun _ i => fs.length - (intOf i).toNat)
  case atStart => exact ⟨0, _, Nat.zero_le _, rfl, rfl, by omega, by omega⟩
  case round =>
    obtain ⟨k, z, hk, rfl, rfl, hz0, hz1⟩ := hrel
    by_cases hlt : k < fs.length
    · obtain ⟨b, off, rfl, hbw, c0, hp, hpl⟩ := hf k hlt
      obtain ⟨sa, sc, ss, hx⟩ : ∃ sa sc ss, fs[k] = (sa, sc, ss) := ⟨_, _, _, rfl⟩
      rw [hx] at c0 hp hpl
      simp only at c0 hp hpl
      unfold maxLen at hpl
      have i0 : (0 : Int) ≤ (k : Int) := by omega
      have i1 : (k : Int) < (fs.length : Int) := by omega
      clear hx hf
      by_cases p1 : 1048576 < ss.length
      · go_wp2
        go_ret
        exact ⟨true, rfl, rfl, by simp⟩
      by_cases p2 : 1048576 < z + 8 * ss.length
      · go_wp2
        go_ret
        exact ⟨true, rfl, rfl, by simp⟩
      go_wp2
      go_loop [9, 11] (fun t i => ∃ (j : Nat) (y : Int), j ≤ ss.length ∧ i = .int .i64 j ∧ t = .int .i64 y ∧ 0 ≤ y ∧ y ≤ 1048576) (fun _ i => ss.length - (intOf i).toNat)
      case atStart => exact ⟨0, _, Nat.zero_le _, rfl, rfl, by omega, by omega⟩
      case round =>
        obtain ⟨j, y, hj, rfl, rfl, hy0, hy1⟩ := hrel
        by_cases hltj : j < ss.length
        · obtain ⟨b2, off2, rfl, hbw2, c2'⟩ := hp j hltj
          obtain ⟨x, hxe⟩ : ∃ x, ss[j] = x := ⟨_, rfl⟩
          rw [hxe] at c2'
          have j0 : (0 : Int) ≤ (j : Int) := by omega
          have j1 : (j : Int) < (ss.length : Int) := by omega
          clear hxe hp
          go_wp2
          all_goals first
            | (go_ret; exact ⟨true, rfl, rfl, by simp⟩)
            | (go_round
               case rel => exact ⟨j + 1, _, by omega, by go_num, rfl, by omega, by omega⟩
               case measure => simp [intOf]; omega)
        · clear hp
          go_wp2
          go_round
          case rel => exact ⟨k + 1, _, by omega, by go_num, rfl, by omega, by omega⟩
          case measure => simp [intOf]; omega
    · clear hf
      go_wp2
      go_ret
      exact ⟨false, rfl, rfl, by simp⟩

end Go.Proofs.Qxb6625867a
