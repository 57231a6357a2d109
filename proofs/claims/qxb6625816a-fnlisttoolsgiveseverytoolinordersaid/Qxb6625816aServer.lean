/-
  Seat b6625816a: the contracts of ZZtool (16) and b1Server (7).
-/
import Derived.Test.Qxb6625816aParts
import Derived.Laws.EntriesVeiled
import Derived.WalkSpells
namespace Go.Proofs.Qxb6625816a
open Go.RowKit

theorem store_iface (P : Program) (w : World) (a : Addr) (m : Mode) (t : TypeId) (v : Value) : (store a (.iface t v) m).run P w = stored P w a (.iface t v) m := run_store P w a _ m rfl
attribute [local go_sem] store_iface

set_option maxHeartbeats 400000 in
set_option maxRecDepth 100000 in
theorem tool_any (x0 x1 x2 : ByteArray) (w : World) :
    Calls Try.prog 16 #[.string x0, .string x1, .string x2] w fun e w' => e = .returned (.agg #[.string x0, .string x1, .iface 9 (.string x2), .nilFunc]) ∧ Below w.heap.size w w' := by
  go_enter Try.func16, Try.ntmps16
  go_wp2
  exact bodyPost_ret (v := .agg #[.string x0, .string x1, .iface 9 (.string x2), .nilFunc]) (by simp [results, Try.results16, go_sem]) rfl ⟨rfl, (Below.refl _ _).alloc (Nat.le_refl _) _⟩

/-- Four cells lie at o in block N, and may be written. -/
def Room4 (w : World) (N o : Nat) (u0 u1 u2 u3 : Value) : Prop :=
  w.cell? ⟨N, o, none⟩ = some u0 ∧ w.cell? ⟨N, o + 1, none⟩ = some u1 ∧ w.cell? ⟨N, o + 2, none⟩ = some u2 ∧ w.cell? ⟨N, o + 3, none⟩ = some u3 ∧
  w.frozen? ⟨N, o, none⟩ = false ∧ w.frozen? ⟨N, o + 1, none⟩ = false ∧ w.frozen? ⟨N, o + 2, none⟩ = false ∧ w.frozen? ⟨N, o + 3, none⟩ = false

theorem Room4.below {w w' : World} {N o : Nat} {u0 u1 u2 u3 : Value} (h : Room4 w N o u0 u1 u2 u3) (hb : Below w.heap.size w w') : Room4 w' N o u0 u1 u2 u3 := by
  have hN := World.block_lt_of_cell? w ⟨N, o, none⟩ h.1
  obtain ⟨a, b, c, d, e, f, g, i⟩ := h
  exact ⟨(hb.cell (p := ⟨N, o, none⟩) hN).trans a, (hb.cell (p := ⟨N, o + 1, none⟩) hN).trans b, (hb.cell (p := ⟨N, o + 2, none⟩) hN).trans c, (hb.cell (p := ⟨N, o + 3, none⟩) hN).trans d,
    (hb.frozen (p := ⟨N, o, none⟩) hN).trans e, (hb.frozen (p := ⟨N, o + 1, none⟩) hN).trans f, (hb.frozen (p := ⟨N, o + 2, none⟩) hN).trans g, (hb.frozen (p := ⟨N, o + 3, none⟩) hN).trans i⟩

/-- ZZtool, with four cells kept in sight. -/
theorem tool_in (x0 x1 x2 : ByteArray) (w : World) (N o : Nat) (u0 u1 u2 u3 : Value) (h : Room4 w N o u0 u1 u2 u3) :
    Calls Try.prog 16 #[.string x0, .string x1, .string x2] w fun e w' => e = .returned (.agg #[.string x0, .string x1, .iface 9 (.string x2), .nilFunc]) ∧ Below w.heap.size w w' ∧ Room4 w' N o u0 u1 u2 u3 :=
  (tool_any x0 x1 x2 w).mono fun _ _ ⟨he, hb⟩ => ⟨he, hb, h.below hb⟩

/-- Three string cells in a row. -/
def Three (w : World) (b o : Nat) (x0 x1 x2 : ByteArray) : Prop :=
  w.cell? ⟨b, o, none⟩ = some (.string x0) ∧ w.cell? ⟨b, o + 1, none⟩ = some (.string x1) ∧ w.cell? ⟨b, o + 2, none⟩ = some (.string x2)

theorem Three.below {B : Nat} {w w' : World} {b o : Nat} {x0 x1 x2 : ByteArray} (h : Three w b o x0 x1 x2) (hb : Below B w w') (hlt : b < B) : Three w' b o x0 x1 x2 :=
  ⟨(hb.cell (p := ⟨b, o, none⟩) hlt).trans h.1, (hb.cell (p := ⟨b, o + 1, none⟩) hlt).trans h.2.1, (hb.cell (p := ⟨b, o + 2, none⟩) hlt).trans h.2.2⟩

theorem below_set4 {B N : Nat} {w : World} (hN : B ≤ N) (o : Nat) (a b c d : Value) : Below B w ((((w.setCell ⟨N, o, none⟩ a).setCell ⟨N, o + 1, none⟩ b).setCell ⟨N, o + 2, none⟩ c).setCell ⟨N, o + 3, none⟩ d) :=
  ((((Below.refl B w).setCell hN a).setCell hN b).setCell hN c).setCell hN d

/-! ### The server -/
/-- What the walks are told of a slice of strings. -/
def PView (w : World) (ao : Option Addr) (ps : List ByteArray) : Prop :=
  ∀ k (h : k < ps.length), ∃ b off, ao = some ⟨b, off, none⟩ ∧ b < w.heap.size ∧ w.cell? ⟨b, off + k, none⟩ = some (.string (ps[k]))

theorem PView.below {w w' : World} {ao : Option Addr} {ps : List ByteArray} (h : PView w ao ps) (hb : Below w.heap.size w w') : PView w' ao ps := fun k hk => by
  obtain ⟨b, off, e, hlt, c0⟩ := h k hk
  exact ⟨b, off, e, Nat.lt_of_lt_of_le hlt hb.size, (hb.cell (p := ⟨b, off + k, none⟩) hlt).trans c0⟩

/-- The tool's four cells lie at 4k in block g. -/
def ToolAt (w : World) (g k : Nat) (x : T3) : Prop :=
  w.cell? ⟨g, k * 4, none⟩ = some (.string x.1) ∧ w.cell? ⟨g, k * 4 + 1, none⟩ = some (.string x.2.1) ∧ w.cell? ⟨g, k * 4 + 2, none⟩ = some (.iface 9 (.string x.2.2)) ∧ w.cell? ⟨g, k * 4 + 3, none⟩ = some .nilFunc

theorem ToolAt.lt {w : World} {g k : Nat} {x : T3} (h : ToolAt w g k x) : g < w.heap.size := World.block_lt_of_cell? w ⟨g, k * 4, none⟩ h.1

theorem ToolAt.below {B : Nat} {w w' : World} {g k : Nat} {x : T3} (h : ToolAt w g k x) (hb : Below B w w') (hg : g < B) : ToolAt w' g k x :=
  ⟨(hb.cell (p := ⟨g, k * 4, none⟩) hg).trans h.1, (hb.cell (p := ⟨g, k * 4 + 1, none⟩) hg).trans h.2.1, (hb.cell (p := ⟨g, k * 4 + 2, none⟩) hg).trans h.2.2.1, (hb.cell (p := ⟨g, k * 4 + 3, none⟩) hg).trans h.2.2.2⟩

/-- A slice value whose elements are the tools rs. -/
def Tools (w : World) (v : Value) (rs : List T3) : Prop :=
  ∃ ao cap, v = .slice ao rs.length cap ∧ ∀ k (h : k < rs.length), ∃ g, ao = some ⟨g, 0, none⟩ ∧ ToolAt w g k rs[k]

theorem Tools.below {w w' : World} {v : Value} {rs : List T3} (h : Tools w v rs) (hb : Below w.heap.size w w') : Tools w' v rs := by
  obtain ⟨ao, cap, e, hk⟩ := h
  refine ⟨ao, cap, e, fun k h => ?_⟩
  obtain ⟨g, e, ht⟩ := hk k h
  exact ⟨g, e, ht.below hb ht.lt⟩

/-- Block B holds a Server whose Tools (its fourth cell) are rs. -/
def Srv (w : World) (B : Nat) (rs : List T3) : Prop := ∃ v, w.cell? ⟨B, 3, none⟩ = some v ∧ Tools w v rs

theorem Srv.below {w w' : World} {B : Nat} {rs : List T3} (h : Srv w B rs) (hb : Below w.heap.size w w') : Srv w' B rs := by
  obtain ⟨v, c, t⟩ := h
  exact ⟨v, (hb.cell (p := ⟨B, 3, none⟩) (World.block_lt_of_cell? w ⟨B, 3, none⟩ c)).trans c, t.below hb⟩

theorem grown_of_below {w w' : World} (h : Below w.heap.size w w') : w.grownBy w' none :=
  ⟨h.os, h.tape, h.output, h.size, fun k hk _ => h.block k hk⟩

/-! ### The array of tools while it is filled -/
/-- The first k tools of rs lie in these cells. -/
def Filled (cells : List Value) (rs : List T3) (k : Nat) : Prop :=
  ∀ j (h : j < rs.length), j < k → cells[j * 4]? = some (.string (rs[j]).1) ∧ cells[j * 4 + 1]? = some (.string (rs[j]).2.1) ∧ cells[j * 4 + 2]? = some (.iface 9 (.string (rs[j]).2.2)) ∧ cells[j * 4 + 3]? = some .nilFunc

def set4 (cells : List Value) (o : Nat) (a b c d : Value) : List Value := (((cells.set o a).set (o + 1) b).set (o + 2) c).set (o + 3) d

theorem set4_length (cells : List Value) (o : Nat) (a b c d : Value) : (set4 cells o a b c d).length = cells.length := by simp [set4]

theorem set4_other (cells : List Value) (o j : Nat) (a b c d : Value) (h : j < o ∨ o + 3 < j) : (set4 cells o a b c d)[j]? = cells[j]? := by
  unfold set4
  rw [List.getElem?_set_ne (by omega), List.getElem?_set_ne (by omega), List.getElem?_set_ne (by omega), List.getElem?_set_ne (by omega)]

theorem set4_same (cells : List Value) (o : Nat) (a b c d : Value) (h : o + 3 < cells.length) :
    (set4 cells o a b c d)[o]? = some a ∧ (set4 cells o a b c d)[o + 1]? = some b ∧ (set4 cells o a b c d)[o + 2]? = some c ∧ (set4 cells o a b c d)[o + 3]? = some d := by
  unfold set4
  refine ⟨?_, ?_, ?_, ?_⟩
  · rw [List.getElem?_set_ne (by omega), List.getElem?_set_ne (by omega), List.getElem?_set_ne (by omega), List.getElem?_set_self (by omega)]
  · rw [List.getElem?_set_ne (by omega), List.getElem?_set_ne (by omega), List.getElem?_set_self (by simp; omega)]
  · rw [List.getElem?_set_ne (by omega), List.getElem?_set_self (by simp; omega)]
  · rw [List.getElem?_set_self (by simp; omega)]

theorem Filled.next {cells : List Value} {rs : List T3} {k : Nat} (h : Filled cells rs k) (hk : k < rs.length) (hl : cells.length = rs.length * 4) :
    Filled (set4 cells (k * 4) (.string (rs[k]).1) (.string (rs[k]).2.1) (.iface 9 (.string (rs[k]).2.2)) .nilFunc) rs (k + 1) := by
  intro j hj hjk
  by_cases e : j = k
  · subst e
    exact set4_same _ _ _ _ _ _ (by omega)
  · have := h j hj (by omega)
    rw [set4_other _ _ _ _ _ _ _ (by omega), set4_other _ _ _ _ _ _ _ (by omega), set4_other _ _ _ _ _ _ _ (by omega), set4_other _ _ _ _ _ _ _ (by omega)]
    exact this

theorem owns_set4 {w : World} {base : Nat} {e : TypeId} {size g n cap : Nat} {xs : List Value} (h : w.ownsRow base e size (.slice (some ⟨g, 0, none⟩) n cap) n xs) (o : Nat) (a b c d : Value) :
    ((((w.setCell ⟨g, o, none⟩ a).setCell ⟨g, o + 1, none⟩ b).setCell ⟨g, o + 2, none⟩ c).setCell ⟨g, o + 3, none⟩ d).ownsRow base e size (.slice (some ⟨g, 0, none⟩) n cap) n (set4 xs o a b c d) :=
  ((((h.stored o a).1.stored (o + 1) b).1.stored (o + 2) c).1.stored (o + 3) d).1

theorem Try.info45 : (Try.prog.info? 45).map (fun i => (i.zero, i.size, i.bytes)) = some (some (.agg #[.string ⟨#[]⟩, .string ⟨#[]⟩, .nilIface, .nilFunc]), 4, 56) := by kernel_rfl
theorem Try.info51 : (Try.prog.info? 51).map (fun i => (i.zero, i.size, i.bytes)) = some (some (.agg #[.string ⟨#[]⟩, .string ⟨#[]⟩, .slice none 0 0, .nilFunc]), 4, 64) := by kernel_rfl

set_option maxHeartbeats 1000000 in
set_option maxRecDepth 100000 in
/-- b1Server, the rows nil. -/
theorem server_nil (s0 s1 s2 : ByteArray) (cap : Nat) (po : Option Addr) (cp : Nat) (ps : List ByteArray) (w : World) (hpv : PView w po ps) (hlp : ps.length ≤ 2097152) :
    Calls Try.prog 7 #[.string s0, .string s1, .string s2, .slice none 0 cap, .slice po ps.length cp] w fun e w' => ∃ B, e = .returned (.pointer (some ⟨B, 0, none⟩)) ∧ Srv w' B [] ∧ Below w.heap.size w w' := by
  have q22 : ∀ (w : World) (a : Option Addr) (n c n' c' : Nat), (binOp .neq 22 (.slice a n c) (.slice none n' c')).run Try.prog w = .ok (.bool a.isSome) w := fun w a n c n' c' => by
    have := run_neq_slice_nil_any (P := Try.prog) w 22 37 a n c n' c' Try.underlying22
    simpa using this
  have q23 : ∀ (w : World) (a : Option Addr) (n c n' c' : Nat), (binOp .neq 23 (.slice a n c) (.slice none n' c')).run Try.prog w = .ok (.bool a.isSome) w := fun w a n c n' c' => by
    have := run_neq_slice_nil_any (P := Try.prog) w 23 9 a n c n' c' Try.underlying23
    simpa using this
  obtain ⟨i2, hi2, hy0, hy1, hy2⟩ := info_parts Try.info51
  have hbel : Below w.heap.size w w := Below.refl _ _
  have ht : Tools w (.slice none 0 0) [] := ⟨none, 0, rfl, fun k h => by simp at h⟩
  go_enter Try.func7, Try.ntmps7
  cases po with
  | none =>
    go_wp2
    go_ret
    exact ⟨_, rfl, ⟨_, by simp, (ht).below ((Below.refl _ _).alloc (Nat.le_refl _) _)⟩, hbel.alloc hbel.size _⟩
  | some pa =>
    obtain ⟨M, hM⟩ : ∃ M, M = w.heap.size := ⟨_, rfl⟩
    have hMle : M ≤ w.heap.size := by omega
    have hMge : w.heap.size ≤ M := by omega
    clear hM
    go_wp2_with (at_make; refine wpList_make_full _ rfl (.tmp 48) (.tmp 48) 47 rfl M 51 i2 (.agg #[.string ⟨#[]⟩, .string ⟨#[]⟩, .slice none 0 0, .nilFunc]) 4 Try.underlying47 hi2 hy0 hy1 .i64 .i64 _ _ ps.length rfl rfl rfl rfl (by rw [hy2]; omega) (by unfold maxLen; omega) hMle ?_)
    intro w3 hown3 hgrow3
    obtain ⟨R, hR⟩ : ∃ R, R = w.heap.size := ⟨_, rfl⟩
    rw [← hR] at hown3 ⊢
    have hRM : M ≤ R := by omega
    have hbel3 : Below M w w3 := (Below.refl M w).grown hgrow3 hMle (fun k hk => by cases hk)
    clear hgrow3 hR
    go_wp2_with fail
    go_loopw [14] (fun i wr => ∃ (k : Nat) (cells : List Value), k ≤ ps.length ∧ i = .int .i64 k ∧ Below M w wr ∧ wr.ownsRow M 51 4 (.slice (some ⟨R, 0, none⟩) ps.length ps.length) ps.length cells) (fun i _ => ps.length - (intOf i).toNat)
    case atStart => exact ⟨0, _, Nat.zero_le _, rfl, hbel3, hown3⟩
    case round =>
      clear hown3 hbel3
      obtain ⟨k, cells, hk, rfl, hb, hown⟩ := hrel
      have hlc : cells.length = ps.length * 4 := hown.1
      by_cases hlt : k < ps.length
      · obtain ⟨b, off, e, hbw, c0⟩ := hpv k hlt
        obtain rfl : pa = ⟨b, off, none⟩ := by simpa using e
        have hbM : b < M := by have := hbel.size; omega
        obtain ⟨x0, hx⟩ : ∃ x0, ps[k] = x0 := ⟨_, rfl⟩
        rw [hx] at c0
        have n0 : wr.cell? ⟨b, off + k, none⟩ = some (.string x0) := (hb.cell (p := ⟨b, off + k, none⟩) hbM).trans ((hbel.cell (p := ⟨b, off + k, none⟩) hbw).trans c0)
        have i0 : (0 : Int) ≤ (k : Int) := by omega
        have i1 : (k : Int) < (ps.length : Int) := by omega
        obtain ⟨u0, hu0⟩ : ∃ u, wr.cell? ⟨R, k * 4, none⟩ = some u := ⟨_, (hown.cellAt (k * 4) (by omega)).trans (List.getElem?_eq_getElem (by omega))⟩
        obtain ⟨u1, hu1⟩ : ∃ u, wr.cell? ⟨R, k * 4 + 1, none⟩ = some u := ⟨_, (hown.cellAt (k * 4 + 1) (by omega)).trans (List.getElem?_eq_getElem (by omega))⟩
        obtain ⟨u2, hu2⟩ : ∃ u, wr.cell? ⟨R, k * 4 + 2, none⟩ = some u := ⟨_, (hown.cellAt (k * 4 + 2) (by omega)).trans (List.getElem?_eq_getElem (by omega))⟩
        obtain ⟨u3, hu3⟩ : ∃ u, wr.cell? ⟨R, k * 4 + 3, none⟩ = some u := ⟨_, (hown.cellAt (k * 4 + 3) (by omega)).trans (List.getElem?_eq_getElem (by omega))⟩
        have f0 := hown.frozenAt (k * 4)
        have f1 := hown.frozenAt (k * 4 + 1)
        have f2 := hown.frozenAt (k * 4 + 2)
        have f3 := hown.frozenAt (k * 4 + 3)
        clear c0 hx e hpv
        go_wp2
        go_roundw
        case rel => exact ⟨k + 1, _, by omega, by go_num, hb.trans (below_set4 hRM (k * 4) _ _ _ _), owns_set4 hown (k * 4) _ _ _ _⟩
        case measure => simp [intOf]; omega
      · go_wp2
        go_ret
        have hb' : Below w.heap.size w wr := hb.mono hMge
        have hb2 := hbel.trans (hb'.mono hbel.size)
        exact ⟨_, rfl, ⟨_, by simp, ((ht).below hb').below ((Below.refl _ _).alloc (Nat.le_refl _) _)⟩, hb2.alloc hb2.size _⟩

set_option maxHeartbeats 1000000 in
set_option maxRecDepth 100000 in
/-- b1Server, the rows not nil. -/
theorem server_some (s0 s1 s2 : ByteArray) (a : Addr) (cap : Nat) (rs : List T3) (po : Option Addr) (cp : Nat) (ps : List ByteArray) (w : World) (hv : View w (some a) rs) (hl : rs.length ≤ 2097152) (hpv : PView w po ps) (hlp : ps.length ≤ 2097152) :
    Calls Try.prog 7 #[.string s0, .string s1, .string s2, .slice (some a) rs.length cap, .slice po ps.length cp] w fun e w' => ∃ B, e = .returned (.pointer (some ⟨B, 0, none⟩)) ∧ Srv w' B rs ∧ Below w.heap.size w w' := by
  have q22 : ∀ (w : World) (a : Option Addr) (n c n' c' : Nat), (binOp .neq 22 (.slice a n c) (.slice none n' c')).run Try.prog w = .ok (.bool a.isSome) w := fun w a n c n' c' => by
    have := run_neq_slice_nil_any (P := Try.prog) w 22 37 a n c n' c' Try.underlying22
    simpa using this
  have q23 : ∀ (w : World) (a : Option Addr) (n c n' c' : Nat), (binOp .neq 23 (.slice a n c) (.slice none n' c')).run Try.prog w = .ok (.bool a.isSome) w := fun w a n c n' c' => by
    have := run_neq_slice_nil_any (P := Try.prog) w 23 9 a n c n' c' Try.underlying23
    simpa using this
  obtain ⟨i, hi, hz0, hz1, hz2⟩ := info_parts Try.info45
  obtain ⟨i2, hi2, hy0, hy1, hy2⟩ := info_parts Try.info51
  go_enter Try.func7, Try.ntmps7
  go_wp2_with (at_make; refine wpList_make_full _ rfl (.tmp 18) (.tmp 18) 42 rfl w.heap.size 45 i (.agg #[.string ⟨#[]⟩, .string ⟨#[]⟩, .nilIface, .nilFunc]) 4 Try.underlying42 hi hz0 hz1 .i64 .i64 _ _ rs.length rfl rfl rfl rfl (by rw [hz2]; omega) (by unfold maxLen; omega) (Nat.le_refl _) ?_)
  intro w1 hown hgrow
  obtain ⟨N, hN⟩ : ∃ N, N = w.heap.size := ⟨_, rfl⟩
  rw [← hN] at hown ⊢
  have hlt1 : N < w1.heap.size := (hown.lt N rfl).2
  have hbel1 : Below N w w1 := (Below.refl N w).grown hgrow (by omega) (fun k hk => by cases hk)
  have hcl : (madeCells (Value.agg #[.string ⟨#[]⟩, .string ⟨#[]⟩, .nilIface, .nilFunc]).cells (rs.length * 4)).toList.length = rs.length * 4 := hown.1
  have hNle : N ≤ w.heap.size := by omega
  have hNge : w.heap.size ≤ N := by omega
  clear hgrow hN
  go_wp2_with fail
  go_loopw [12] (fun i wr => ∃ (k : Nat) (cells : List Value), k ≤ rs.length ∧ i = .int .i64 k ∧ Below N w wr ∧ wr.ownsRow N 45 4 (.slice (some ⟨N, 0, none⟩) rs.length rs.length) rs.length cells ∧ Filled cells rs k) (fun i _ => rs.length - (intOf i).toNat)
  case atStart => exact ⟨0, _, Nat.zero_le _, rfl, hbel1, hown, fun j _ h => by omega⟩
  case round =>
    clear hcl hown hbel1 hlt1
    obtain ⟨k, cells, hk, rfl, hb, hown, hfill⟩ := hrel
    have hlc : cells.length = rs.length * 4 := hown.1
    have hNw : N < wr.heap.size := (hown.lt N rfl).2
    by_cases hlt : k < rs.length
    · obtain ⟨b, off, e, hbw, c0, c1, c2⟩ := hv k hlt
      obtain rfl : a = ⟨b, off, none⟩ := by simpa using e
      have hbN : b < N := by omega
      have hne : b ≠ N := by omega
      have hfn := hfill.next hlt hlc
      obtain ⟨x0, x1, x2, hx⟩ : ∃ x0 x1 x2, rs[k] = (x0, x1, x2) := ⟨_, _, _, rfl⟩
      rw [hx] at c0 c1 c2 hfn
      have HF : Hid (Filled (set4 cells (k * 4) (.string x0) (.string x1) (.iface 9 (.string x2)) .nilFunc) rs (k + 1)) := hfn
      have n0 : wr.cell? ⟨b, off + k * 3, none⟩ = some (.string x0) := (hb.cell (p := ⟨b, off + k * 3, none⟩) hbN).trans c0
      have n1 : wr.cell? ⟨b, off + k * 3 + 1, none⟩ = some (.string x1) := (hb.cell (p := ⟨b, off + k * 3 + 1, none⟩) hbN).trans c1
      have n2 : wr.cell? ⟨b, off + k * 3 + 2, none⟩ = some (.string x2) := (hb.cell (p := ⟨b, off + k * 3 + 2, none⟩) hbN).trans c2
      have i0 : (0 : Int) ≤ (k : Int) := by omega
      have i1 : (k : Int) < (rs.length : Int) := by omega
      obtain ⟨u0, hu0⟩ : ∃ u, wr.cell? ⟨N, k * 4, none⟩ = some u := ⟨_, (hown.cellAt (k * 4) (by omega)).trans (List.getElem?_eq_getElem (by omega))⟩
      obtain ⟨u1, hu1⟩ : ∃ u, wr.cell? ⟨N, k * 4 + 1, none⟩ = some u := ⟨_, (hown.cellAt (k * 4 + 1) (by omega)).trans (List.getElem?_eq_getElem (by omega))⟩
      obtain ⟨u2, hu2⟩ : ∃ u, wr.cell? ⟨N, k * 4 + 2, none⟩ = some u := ⟨_, (hown.cellAt (k * 4 + 2) (by omega)).trans (List.getElem?_eq_getElem (by omega))⟩
      obtain ⟨u3, hu3⟩ : ∃ u, wr.cell? ⟨N, k * 4 + 3, none⟩ = some u := ⟨_, (hown.cellAt (k * 4 + 3) (by omega)).trans (List.getElem?_eq_getElem (by omega))⟩
      have f0 := hown.frozenAt (k * 4)
      have f1 := hown.frozenAt (k * 4 + 1)
      have f2 := hown.frozenAt (k * 4 + 2)
      have f3 := hown.frozenAt (k * 4 + 3)
      have hthree : Three wr.drew b (off + k * 3) x0 x1 x2 := ⟨n0, n1, n2⟩
      have hbw5 : b < wr.heap.size := by omega
      have hroom : Room4 wr.drew N (k * 4) u0 u1 u2 u3 := ⟨hu0, hu1, hu2, hu3, f0, f1, f2, f3⟩
      clear c0 c1 c2 hx hv hfn hfill e hu0 hu1 hu2 hu3 f0 f1 f2 f3
      go_wp2_with fail
      go_region_held3 (fun w' => w'.cell? ⟨b, off + k * 3, none⟩ = some (.string x0) ∧ w'.cell? ⟨b, off + k * 3 + 1, none⟩ = some (.string x1) ∧ w'.cell? ⟨b, off + k * 3 + 2, none⟩ = some (.string x2))
        (first | go_keep | exact hthree.below hb5 hbw5 | exact (hthree.below hb5 hbw5).below (below_set4 (Nat.le_refl N) (k * 4) _ _ _ _) hbN)
        ((go_at_call 16; refine (tool_in x0 x1 x2 _ N (k * 4) u0 u1 u2 u3 hroom).mono ?_; rintro e w5 ⟨rfl, hb5, g0, g1, g2, g3, p0, p1, p2, p3⟩))
      go_wp2
      go_roundw
      case rel => exact ⟨k + 1, _, by omega, by go_num, (hb.trans ((Below.drew (Below.refl N wr)).trans (hb5.mono (by simp; omega)))).trans (below_set4 (Nat.le_refl N) (k * 4) _ _ _ _), owns_set4 (((World.ownsRow.drew hown).kept (grown_of_below hb5) (Or.inr (by simp [Value.ownBlock])))) (k * 4) _ _ _ _, HF.out⟩
      case measure => simp [intOf]; omega
    · have hbel : Below w.heap.size w wr := hb.mono hNge
      have ht : Tools wr (.slice (some ⟨N, 0, none⟩) rs.length rs.length) rs := by
        refine ⟨_, _, rfl, fun j hj => ⟨N, rfl, ?_⟩⟩
        obtain ⟨t0, t1, t2, t3⟩ := hfill j hj (by omega)
        exact ⟨(hown.cellAt (j * 4) (by omega)).trans t0, (hown.cellAt (j * 4 + 1) (by omega)).trans t1, (hown.cellAt (j * 4 + 2) (by omega)).trans t2, (hown.cellAt (j * 4 + 3) (by omega)).trans t3⟩
      clear hb hown hfill hlc hNw hv
      obtain ⟨w2, hw2⟩ : ∃ w2, w2 = wr := ⟨_, rfl⟩
      subst hw2
      cases po with
      | none =>
        go_wp2
        go_ret
        exact ⟨_, rfl, ⟨_, by simp, (ht).below ((Below.refl _ _).alloc (Nat.le_refl _) _)⟩, hbel.alloc hbel.size _⟩
      | some pa =>
        obtain ⟨M, hM⟩ : ∃ M, M = w2.heap.size := ⟨_, rfl⟩
        have hMle : M ≤ w2.heap.size := by omega
        have hMge : w2.heap.size ≤ M := by omega
        clear hM
        go_wp2_with (at_make; refine wpList_make_full _ rfl (.tmp 48) (.tmp 48) 47 rfl M 51 i2 (.agg #[.string ⟨#[]⟩, .string ⟨#[]⟩, .slice none 0 0, .nilFunc]) 4 Try.underlying47 hi2 hy0 hy1 .i64 .i64 _ _ ps.length rfl rfl rfl rfl (by rw [hy2]; omega) (by unfold maxLen; omega) hMle ?_)
        intro w3 hown3 hgrow3
        obtain ⟨R, hR⟩ : ∃ R, R = w2.heap.size := ⟨_, rfl⟩
        rw [← hR] at hown3 ⊢
        have hRM : M ≤ R := by omega
        have hbel3 : Below M w2 w3 := (Below.refl M w2).grown hgrow3 hMle (fun k hk => by cases hk)
        clear hgrow3 hR
        go_wp2_with fail
        go_loopw [14] (fun i wr => ∃ (k : Nat) (cells : List Value), k ≤ ps.length ∧ i = .int .i64 k ∧ Below M w2 wr ∧ wr.ownsRow M 51 4 (.slice (some ⟨R, 0, none⟩) ps.length ps.length) ps.length cells) (fun i _ => ps.length - (intOf i).toNat)
        case atStart => exact ⟨0, _, Nat.zero_le _, rfl, hbel3, hown3⟩
        case round =>
          clear hown3 hbel3
          obtain ⟨k, cells, hk, rfl, hb, hown⟩ := hrel
          have hlc : cells.length = ps.length * 4 := hown.1
          by_cases hlt : k < ps.length
          · obtain ⟨b, off, e, hbw, c0⟩ := hpv k hlt
            obtain rfl : pa = ⟨b, off, none⟩ := by simpa using e
            have hbM : b < M := by have := hbel.size; omega
            obtain ⟨x0, hx⟩ : ∃ x0, ps[k] = x0 := ⟨_, rfl⟩
            rw [hx] at c0
            have n0 : wr.cell? ⟨b, off + k, none⟩ = some (.string x0) := (hb.cell (p := ⟨b, off + k, none⟩) hbM).trans ((hbel.cell (p := ⟨b, off + k, none⟩) hbw).trans c0)
            have i0 : (0 : Int) ≤ (k : Int) := by omega
            have i1 : (k : Int) < (ps.length : Int) := by omega
            obtain ⟨u0, hu0⟩ : ∃ u, wr.cell? ⟨R, k * 4, none⟩ = some u := ⟨_, (hown.cellAt (k * 4) (by omega)).trans (List.getElem?_eq_getElem (by omega))⟩
            obtain ⟨u1, hu1⟩ : ∃ u, wr.cell? ⟨R, k * 4 + 1, none⟩ = some u := ⟨_, (hown.cellAt (k * 4 + 1) (by omega)).trans (List.getElem?_eq_getElem (by omega))⟩
            obtain ⟨u2, hu2⟩ : ∃ u, wr.cell? ⟨R, k * 4 + 2, none⟩ = some u := ⟨_, (hown.cellAt (k * 4 + 2) (by omega)).trans (List.getElem?_eq_getElem (by omega))⟩
            obtain ⟨u3, hu3⟩ : ∃ u, wr.cell? ⟨R, k * 4 + 3, none⟩ = some u := ⟨_, (hown.cellAt (k * 4 + 3) (by omega)).trans (List.getElem?_eq_getElem (by omega))⟩
            have f0 := hown.frozenAt (k * 4)
            have f1 := hown.frozenAt (k * 4 + 1)
            have f2 := hown.frozenAt (k * 4 + 2)
            have f3 := hown.frozenAt (k * 4 + 3)
            clear c0 hx e hpv
            go_wp2
            go_roundw
            case rel => exact ⟨k + 1, _, by omega, by go_num, hb.trans (below_set4 hRM (k * 4) _ _ _ _), owns_set4 hown (k * 4) _ _ _ _⟩
            case measure => simp [intOf]; omega
          · go_wp2
            go_ret
            have hb' : Below w2.heap.size w2 wr := hb.mono hMge
            have hb2 := hbel.trans (hb'.mono hbel.size)
            exact ⟨_, rfl, ⟨_, by simp, ((ht).below hb').below ((Below.refl _ _).alloc (Nat.le_refl _) _)⟩, hb2.alloc hb2.size _⟩

end Go.Proofs.Qxb6625816a
