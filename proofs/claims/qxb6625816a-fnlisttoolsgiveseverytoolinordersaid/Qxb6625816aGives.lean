/-
  Seat b6625816a: FnListToolsGivesEveryToolInOrder: its measuring functions (5, 15, 6) and the walk (3).
-/
import Derived.Test.Qxb6625816aList
namespace Go.Proofs.Qxb6625816a
open Go.RowKit

set_option maxHeartbeats 400000 in
set_option maxRecDepth 100000 in
/-- b1StringsBytes: some number; nothing written. -/
theorem stringsBytes_any (ao : Option Addr) (cap : Nat) (ps : List ByteArray) (t : Int) (w : World) (hv : PView w ao ps) (hl : ps.length ≤ maxLen) :
    Calls Try.prog 15 #[.int .i64 t, .slice ao ps.length cap] w fun e w' => SomeInt w e w' := by
  unfold maxLen at hl
  go_enter Try.func15, Try.ntmps15
  go_wp2
  go_loop [0, 5] (fun t i => ∃ k : Nat, k ≤ ps.length ∧ i = .int .i64 k ∧ ∃ z, t = .int .i64 z) (fun _ i => ps.length - (intOf i).toNat)
  case atStart => exact ⟨0, Nat.zero_le _, rfl, ⟨_, rfl⟩⟩
  case round =>
    obtain ⟨k, hk, rfl, ⟨z, rfl⟩⟩ := hrel
    by_cases hlt : k < ps.length
    · obtain ⟨b, off, rfl, hbw, c0⟩ := hv k hlt
      obtain ⟨x0, hx⟩ : ∃ x0, ps[k] = x0 := ⟨_, rfl⟩
      rw [hx] at c0
      have i0 : (0 : Int) ≤ (k : Int) := by omega
      have i1 : (k : Int) < (ps.length : Int) := by omega
      clear hx hv
      by_cases hz : 1048576 < z
      · go_wp2
        go_ret
        exact ⟨_, rfl, 0, rfl⟩
      · go_wp2
        go_round
        case rel => exact ⟨k + 1, by omega, by go_num, ⟨_, rfl⟩⟩
        case measure => simp [intOf]; omega
    · go_wp2
      go_ret
      exact ⟨_, rfl, 0, rfl⟩

theorem PView.drewN {w : World} {ao : Option Addr} {ps : List ByteArray} (h : PView w ao ps) (n : Nat) : PView (w.drewN n) ao ps := by
  intro k hk
  obtain ⟨b, off, e, hlt, c0⟩ := h k hk
  exact ⟨b, off, e, by simpa using hlt, by simpa using c0⟩

set_option maxHeartbeats 400000 in
set_option maxRecDepth 100000 in
/-- b1Bytes1: some number; nothing written. -/
theorem bytes1_any (s0 s1 s2 : ByteArray) (ao po : Option Addr) (ca cp : Nat) (rs : List T3) (ps : List ByteArray) (w : World) (ha : View w ao rs) (hp : PView w po ps) (hl : rs.length ≤ maxLen) (hm : ps.length ≤ maxLen) :
    Calls Try.prog 6 #[.string s0, .string s1, .string s2, .slice ao rs.length ca, .slice po ps.length cp] w fun e w' => SomeInt w e w' := by
  go_enter Try.func6, Try.ntmps6
  go_wp2_with fail
  refine (rowsBytes_any ao ca rs _ _ ha hl).mono ?_
  rintro e w1 ⟨t1, rfl, n1, rfl⟩
  go_wp2_with fail
  refine (stringsBytes_any po cp ps t1 _ (hp.drewN n1) hm).mono ?_
  rintro e w2 ⟨t2, rfl, n2, rfl⟩
  go_wp2
  go_ret
  exact ⟨_, rfl, n1 + n2, by simp⟩

set_option maxHeartbeats 2000000 in
set_option maxRecDepth 100000 in
/-- zzBytes_FnListToolsGivesEveryToolInOrder: where it says yes both slices are short. -/
theorem zz1_any (s0 s1 s2 : ByteArray) (ao bo : Option Addr) (ca cb : Nat) (xs : List T3) (ys : List ByteArray) (w : World) (ha : View w ao xs) (hb : PView w bo ys) (hl : xs.length ≤ maxLen) (hm : ys.length ≤ maxLen) :
    Calls Try.prog 5 #[.string s0, .string s1, .string s2, .slice ao xs.length ca, .slice bo ys.length cb] w fun e w' => Measured (xs.length ≤ 1048576 ∧ ys.length ≤ 1048576) w e w' := by
  unfold maxLen at hl hm
  by_cases g0 : 1048576 < s0.size
  · go_enter Try.func5, Try.ntmps5
    go_wp2
    go_ret
    exact ⟨false, rfl, rfl, by simp⟩
  by_cases g1 : 1048576 < s1.size
  · go_enter Try.func5, Try.ntmps5
    go_wp2
    go_ret
    exact ⟨false, rfl, rfl, by simp⟩
  by_cases g2 : 1048576 < s0.size + s1.size
  · go_enter Try.func5, Try.ntmps5
    go_wp2
    go_ret
    exact ⟨false, rfl, rfl, by simp⟩
  by_cases g3 : 1048576 < s2.size
  · go_enter Try.func5, Try.ntmps5
    go_wp2
    go_ret
    exact ⟨false, rfl, rfl, by simp⟩
  by_cases g4 : 1048576 < s0.size + s1.size + s2.size
  · go_enter Try.func5, Try.ntmps5
    go_wp2
    go_ret
    exact ⟨false, rfl, rfl, by simp⟩
  by_cases g5 : 1048576 < xs.length
  · go_enter Try.func5, Try.ntmps5
    go_wp2
    go_ret
    exact ⟨false, rfl, rfl, by simp⟩
  by_cases g6 : 1048576 < s0.size + s1.size + s2.size + xs.length
  · go_enter Try.func5, Try.ntmps5
    go_wp2
    go_ret
    exact ⟨false, rfl, rfl, by simp⟩
  go_enter Try.func5, Try.ntmps5
  go_wp2
  go_loop [11, 12] (fun t i => ∃ (k : Nat) (z : Int), k ≤ xs.length ∧ i = .int .i64 k ∧ t = .int .i64 z ∧ 0 ≤ z ∧ z ≤ 1048576) (fun _ i => xs.length - (intOf i).toNat)
  case atStart => exact ⟨0, _, Nat.zero_le _, rfl, rfl, by omega, by omega⟩
  case round =>
    obtain ⟨k, z, hk, rfl, rfl, hz0, hz1⟩ := hrel
    by_cases hlt : k < xs.length
    · obtain ⟨b, off, rfl, hbw, c0, c1, c2⟩ := ha k hlt
      obtain ⟨x0, x1, x2, hx⟩ : ∃ x0 x1 x2, xs[k] = (x0, x1, x2) := ⟨_, _, _, rfl⟩
      rw [hx] at c0 c1 c2
      have i0 : (0 : Int) ≤ (k : Int) := by omega
      have i1 : (k : Int) < (xs.length : Int) := by omega
      clear hx ha hb
      go_wp2
      all_goals first
        | (go_ret; exact ⟨false, rfl, rfl, by simp⟩)
        | (go_round
           case rel => exact ⟨k + 1, _, by omega, by go_num, rfl, by omega, by omega⟩
           case measure => simp [intOf]; omega)
    · by_cases h2 : 1048576 < ys.length
      · go_wp2
        go_ret
        exact ⟨false, rfl, rfl, by simp⟩
      · by_cases h3 : 1048576 < z + ys.length
        · go_wp2
          go_ret
          exact ⟨false, rfl, rfl, by simp⟩
        · go_wp2
          go_loop [11, 13] (fun t i => ∃ (k : Nat) (z : Int), k ≤ ys.length ∧ i = .int .i64 k ∧ t = .int .i64 z ∧ 0 ≤ z ∧ z ≤ 1048576) (fun _ i => ys.length - (intOf i).toNat)
          case atStart => exact ⟨0, _, Nat.zero_le _, rfl, rfl, by omega, by omega⟩
          case round =>
            obtain ⟨k', z', hk', rfl, rfl, hz0', hz1'⟩ := hrel
            by_cases hlt' : k' < ys.length
            · obtain ⟨b, off, rfl, hbw, c0⟩ := hb k' hlt'
              obtain ⟨x0, hx⟩ : ∃ x0, ys[k'] = x0 := ⟨_, rfl⟩
              rw [hx] at c0
              have i0 : (0 : Int) ≤ (k' : Int) := by omega
              have i1 : (k' : Int) < (ys.length : Int) := by omega
              clear hx ha hb
              go_wp2
              all_goals first
                | (go_ret; exact ⟨false, rfl, rfl, by simp⟩)
                | (go_round
                   case rel => exact ⟨k' + 1, _, by omega, by go_num, rfl, by omega, by omega⟩
                   case measure => simp [intOf]; omega)
            · go_wp2
              go_ret
              exact ⟨true, rfl, rfl, fun _ => ⟨by omega, by omega⟩⟩

set_option maxHeartbeats 2000000 in
set_option maxRecDepth 100000 in
theorem gives_any (s0 s1 s2 : ByteArray) (ao po : Option Addr) (ca cp : Nat) (xs : List T3) (ps : List ByteArray) (w : World) (ha : View w ao xs) (hp : PView w po ps) (hl : xs.length ≤ maxLen) (hm : ps.length ≤ maxLen) :
    Calls Try.prog 3 #[.string s0, .string s1, .string s2, .slice ao xs.length ca, .slice po ps.length cp] w fun e w' => e = .returned (.bool true) ∧ Below w.heap.size w w' := by
  go_enter Try.func3, Try.ntmps3
  go_wp2_with fail
  refine (zz1_any s0 s1 s2 ao po ca cp xs ps w ha hp hl hm).mono ?_
  rintro e w' ⟨bz, rfl, hw', hbz⟩
  subst hw'
  cases bz with
  | false =>
    go_wp2
    go_ret
    exact ⟨rfl, Below.refl _ _⟩
  | true =>
    obtain ⟨hx, hy⟩ := hbz rfl
    clear hbz
    go_wp2_with fail
    refine (bytes1_any s0 s1 s2 ao po ca cp xs ps _ ha hp hl hm).mono ?_
    rintro e w0 ⟨t, rfl, nd, hw0⟩
    have b0 : Below w'.heap.size w' w0 := by rw [hw0]; exact below_drewN (Below.refl _ _) nd
    have ha0 := ha.below b0
    have hp0 := hp.below b0
    have hxl : xs.length ≤ 2097152 := by omega
    have hpl : ps.length ≤ 2097152 := by omega
    clear hw0 ha hp hl hm
    by_cases ht : 1048576 < t
    · go_wp2
      go_ret
      exact ⟨rfl, b0⟩
    · go_wp2_with fail
      refine (server_any s0 s1 s2 ao ca xs po cp ps _ ha0 hxl hp0 hpl).mono ?_
      rintro e w2 ⟨B2, rfl, srv2, b2⟩
      go_wp2_with fail
      refine (zzlist_any B2 xs _ srv2 hxl).mono ?_
      rintro e w3 ⟨v, rfl, ⟨g, cg, _, hv, hkk⟩, b3⟩
      subst hv
      have inl : Infos 0 w3 (.slice (some ⟨g, 0, none⟩) xs.length cg) xs := ⟨g, cg, Nat.zero_le _, rfl, hkk⟩
      have ha3 := (ha0.below b2).below b3
      have bw3 := b0.trans ((b2.mono b0.size).trans (b3.mono (Nat.le_trans b0.size b2.size)))
      clear hkk srv2 b2 b3 ha0 hp0 b0
      obtain ⟨W, hW⟩ : ∃ x, x = w3.alloc (.cells #[.slice (some ⟨g, 0, none⟩) xs.length cg] 30) := ⟨_, rfl⟩
      have alW : Below w3.heap.size w3 W := by rw [hW]; exact (Below.refl _ _).alloc (Nat.le_refl _) _
      have cW : W.cell? ⟨w3.heap.size, 0, none⟩ = some (.slice (some ⟨g, 0, none⟩) xs.length cg) := by rw [hW, World.cell?_alloc_at _ _ _ _ rfl]; rfl
      go_wp2_with fail
      rw [← hW]
      clear hW
      have haW := ha3.below alW
      have inW := inl.below alW
      have bwW := bw3.trans (alW.mono bw3.size)
      have ltL := World.block_lt_of_cell? W ⟨w3.heap.size, 0, none⟩ cW
      obtain ⟨J, hJ⟩ : ∃ x, x = w3.heap.size := ⟨_, rfl⟩
      rw [← hJ] at cW ltL ⊢
      clear hJ ha3 inl bw3 alW
      refine (isNil_any 0 _ xs _ inW).mono ?_
      rintro e v1 ⟨rfl, d1⟩
      have c1 := (d1.cell (p := ⟨J, 0, none⟩) ltL).trans cW
      go_wp2_with fail
      refine (len_any 0 _ xs _ (inW.below d1)).mono ?_
      rintro e v2 ⟨rfl, d2⟩
      have d12 := d1.trans (d2.mono d1.size)
      clear d1 d2 c1
      go_wp2_with fail
      go_loopw [13] (fun i wr => ∃ k : Nat, k ≤ xs.length ∧ i = .int .i64 k ∧ Below W.heap.size W wr) (fun i _ => xs.length - (intOf i).toNat)
      case atStart => exact ⟨0, Nat.zero_le _, rfl, d12⟩
      case round =>
        clear d12
        obtain ⟨k, hk, rfl, d⟩ := hrel
        by_cases hlt : k < xs.length
        · have cj0 := (d.cell (p := ⟨J, 0, none⟩) ltL).trans cW
          obtain ⟨b, off, rfl, hbw, q0, q1, q2⟩ := haW k hlt
          obtain ⟨x0, x1, x2, hxe⟩ : ∃ x0 x1 x2, xs[k] = (x0, x1, x2) := ⟨_, _, _, rfl⟩
          rw [hxe] at q0 q1 q2
          have HX : Hid (xs[k]? = some (x0, x1, x2)) := by rw [List.getElem?_eq_getElem hlt, hxe]; rfl
          have i0 : (0 : Int) ≤ (k : Int) := by omega
          have i1 : (k : Int) < (xs.length : Int) := by omega
          clear hxe haW
          go_wp2_with fail
          refine (info_any 0 _ xs k k rfl (x0, x1, x2) HX.out _ (inW.below d)).mono ?_
          rintro e v4 ⟨rfl, d4⟩
          have dd := d.trans (d4.mono d.size)
          have n0 := (dd.cell (p := ⟨b, off + k * 3, none⟩) hbw).trans q0
          have n1 := (dd.cell (p := ⟨b, off + k * 3 + 1, none⟩) hbw).trans q1
          have n2 := (dd.cell (p := ⟨b, off + k * 3 + 2, none⟩) hbw).trans q2
          clear d d4 cj0 q0 q1 q2
          go_wp2
          go_roundw
          case rel => exact ⟨k + 1, by omega, by go_num, dd⟩
          case measure => simp [intOf]; omega
        · go_wp2
          go_ret
          exact ⟨rfl, bwW.trans (d.mono bwW.size)⟩

end Go.Proofs.Qxb6625816a
