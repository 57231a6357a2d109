/-
  Seat b6625816a: the contracts of listTools (17), ZZlistTools (8), ZZlistLen (10), ZZlistIsNil (9), ZZinfo (11).
-/
import Derived.Test.Qxb6625816aServer
import Derived.Deep.AppendLies
namespace Go.Proofs.Qxb6625816a
open Go.RowKit
attribute [local go_sem] store_iface

/-- b1Server. -/
theorem server_any (s0 s1 s2 : ByteArray) (ao : Option Addr) (cap : Nat) (rs : List T3) (po : Option Addr) (cp : Nat) (ps : List ByteArray) (w : World) (hv : View w ao rs) (hl : rs.length ≤ 2097152) (hpv : PView w po ps) (hlp : ps.length ≤ 2097152) :
    Calls Try.prog 7 #[.string s0, .string s1, .string s2, .slice ao rs.length cap, .slice po ps.length cp] w fun e w' => ∃ B, e = .returned (.pointer (some ⟨B, 0, none⟩)) ∧ Srv w' B rs ∧ Below w.heap.size w w' := by
  cases ao with
  | none =>
    have hnil : rs = [] := by
      cases rs with
      | nil => rfl
      | cons x r => obtain ⟨b, off, e, _⟩ := hv 0 (by simp); cases e
    subst hnil
    exact server_nil s0 s1 s2 cap po cp ps w hpv hlp
  | some a => exact server_some s0 s1 s2 a cap rs po cp ps w hv hl hpv hlp

/-! ### The answer -/
/-- The cells of a list of infos, three each. -/
def flat3 : List T3 → List Value
  | [] => []
  | x :: r => .string x.1 :: .string x.2.1 :: .iface 9 (.string x.2.2) :: flat3 r

theorem flat3_length (l : List T3) : (flat3 l).length = l.length * 3 := by
  induction l with
  | nil => rfl
  | cons p r ih => simp [flat3, ih]; omega

theorem flat3_append (l m : List T3) : flat3 (l ++ m) = flat3 l ++ flat3 m := by
  induction l with
  | nil => rfl
  | cons p r ih => simp [flat3, ih]

theorem flat3_get (l : List T3) : ∀ k (h : k < l.length), (flat3 l)[k * 3]? = some (.string (l[k]).1) ∧ (flat3 l)[k * 3 + 1]? = some (.string (l[k]).2.1) ∧ (flat3 l)[k * 3 + 2]? = some (.iface 9 (.string (l[k]).2.2)) := by
  induction l with
  | nil => intro k h; simp at h
  | cons p r ih =>
    intro k h
    cases k with
    | zero => simp [flat3]
    | succ k =>
      have h' : k < r.length := by simpa using h
      have := ih k h'
      rw [show (k + 1) * 3 = k * 3 + 1 + 1 + 1 by omega]
      simpa [flat3] using this

/-- A slice value, not nil, whose elements are the infos of rs, in a block from lo on. -/
def Infos (lo : Nat) (w : World) (v : Value) (rs : List T3) : Prop :=
  ∃ g cap, lo ≤ g ∧ v = .slice (some ⟨g, 0, none⟩) rs.length cap ∧ ∀ k (h : k < rs.length), w.cell? ⟨g, k * 3, none⟩ = some (.string (rs[k]).1) ∧ w.cell? ⟨g, k * 3 + 1, none⟩ = some (.string (rs[k]).2.1) ∧ w.cell? ⟨g, k * 3 + 2, none⟩ = some (.iface 9 (.string (rs[k]).2.2))

theorem Infos.below {lo : Nat} {w w' : World} {v : Value} {rs : List T3} (h : Infos lo w v rs) (hb : Below w.heap.size w w') : Infos lo w' v rs := by
  obtain ⟨g, cap, hlo, e, hk⟩ := h
  refine ⟨g, cap, hlo, e, fun k h => ?_⟩
  obtain ⟨c0, c1, c2⟩ := hk k h
  have hg := World.block_lt_of_cell? w ⟨g, k * 3, none⟩ c0
  exact ⟨(hb.cell (p := ⟨g, k * 3, none⟩) hg).trans c0, (hb.cell (p := ⟨g, k * 3 + 1, none⟩) hg).trans c1, (hb.cell (p := ⟨g, k * 3 + 2, none⟩) hg).trans c2⟩

/-- The list under construction: block H the result's variable, block H + 1 + 1 'list', which owns the infos xs. -/
def LSt (H : Nat) (w wr : World) (xs : List T3) (k : Nat) : Prop :=
  ∃ g cap, Below H w wr ∧ wr.heap[H + 1 + 1]? = some (.cells #[.slice (some ⟨g, 0, none⟩) k cap] 30 (0, 0)) ∧ wr.heap[H]? = some (.cells #[.slice none 0 0] 30 (0, 0)) ∧ wr.ownsRow (H + 1) 58 3 (.slice (some ⟨g, 0, none⟩) k cap) k (flat3 xs)

/-- A row of one type does not lie in a block of another. -/
theorem own_ne {w : World} {base : Nat} {e : TypeId} {size : Nat} {v : Value} {n : Nat} {xs : List Value} (h : w.ownsRow base e size v n xs) {b : Nat} {cs : Array Value} {t : TypeId} {fr : Nat × Nat} (hb : w.heap[b]? = some (.cells cs t fr)) (hne : e ≠ t) : v.ownBlock ≠ some b := by
  intro hv
  rcases h.2 with ⟨rfl, _⟩ | ⟨g, cap, cur, rfl, _, hg, _⟩
  · simp [Value.ownBlock] at hv
  · simp [Value.ownBlock] at hv
    subst hv
    rw [hg] at hb
    simp at hb
    exact hne hb.2.1

theorem LSt.step {H : Nat} {w wr w1 : World} {xs : List T3} {k g cap g2 cap2 : Nat} {x : T3} {X Y : Obj} (hHw : H + 1 + 1 < wr.heap.size)
    (hb : Below H w wr) (hL : wr.heap[H + 1 + 1]? = some (.cells #[.slice (some ⟨g, 0, none⟩) k cap] 30 (0, 0))) (hR : wr.heap[H]? = some (.cells #[.slice none 0 0] 30 (0, 0)))
    (hown : wr.ownsRow (H + 1) 58 3 (.slice (some ⟨g, 0, none⟩) k cap) k (flat3 xs))
    (hown' : w1.ownsRow (H + 1) 58 3 (.slice (some ⟨g2, 0, none⟩) (k + 1) cap2) (k + 1) (flat3 xs ++ [.string x.1, .string x.2.1, .iface 9 (.string x.2.2)]))
    (hgrow : ((wr.alloc X).alloc Y).grownBy w1 (Value.slice (some ⟨g, 0, none⟩) k cap).ownBlock) :
    w1.heap[H + 1 + 1]? = some (.cells #[.slice (some ⟨g, 0, none⟩) k cap] 30 (0, 0)) ∧ LSt H w (w1.setCell ⟨H + 1 + 1, 0, none⟩ (.slice (some ⟨g2, 0, none⟩) (k + 1) cap2)) (xs ++ [x]) (k + 1) := by
  have old : ∀ b, b < wr.heap.size → ((wr.alloc X).alloc Y).heap[b]? = wr.heap[b]? := fun b h => by
    rw [Below.heap_alloc _ _ _ (by simp; omega), Below.heap_alloc _ _ _ h]
  have neL : some (H + 1 + 1) ≠ (Value.slice (some ⟨g, 0, none⟩) k cap).ownBlock := fun e => own_ne hown hL (by decide) e.symm
  have neR : some H ≠ (Value.slice (some ⟨g, 0, none⟩) k cap).ownBlock := fun e => own_ne hown hR (by decide) e.symm
  have hL1 : w1.heap[H + 1 + 1]? = some (.cells #[.slice (some ⟨g, 0, none⟩) k cap] 30 (0, 0)) := (hgrow.block _ (by simp; omega) neL).trans ((old _ hHw).trans hL)
  have hR1 : w1.heap[H]? = some (.cells #[.slice none 0 0] 30 (0, 0)) := (hgrow.block _ (by simp; omega) neR).trans ((old _ (by omega)).trans hR)
  have hlo : H + 1 ≤ g := (hown.lt g rfl).1
  refine ⟨hL1, g2, cap2, ?_, one_setCell hL1, ?_, ?_⟩
  · exact (((hb.alloc (by omega) X).alloc (by simp; omega) Y).grown hgrow (by simp; omega) (fun k hk => by simp [Value.ownBlock] at hk; omega)).setCell (by simp; omega) _
  · rw [Below.heap_setCell _ _ _ _ (by simp; omega)]; exact hR1
  · have := ownsRow_setCell_other hown' (a := ⟨H + 1 + 1, 0, none⟩) (own_ne hown' hL1 (by decide)) (.slice (some ⟨g2, 0, none⟩) (k + 1) cap2)
    rw [flat3_append]
    exact this

theorem Try.info58 : (Try.prog.info? 58).map (fun i => (i.zero, i.size, i.bytes)) = some (some (.agg #[.string ⟨#[]⟩, .string ⟨#[]⟩, .nilIface]), 3, 48) := by kernel_rfl

set_option maxHeartbeats 1000000 in
set_option maxRecDepth 100000 in
theorem list_any (B : Nat) (rs : List T3) (w : World) (hs : Srv w B rs) (hl : rs.length ≤ 2097152) :
    Calls Try.prog 17 #[.pointer (some ⟨B, 0, none⟩)] w fun e w' => ∃ v, e = .returned (.agg #[v]) ∧ Infos w.heap.size w' v rs ∧ Below w.heap.size w w' := by
  obtain ⟨v, hc, ao, cap, rfl, ht⟩ := hs
  obtain ⟨i, hi, hz0, hz1, hz2⟩ := info_parts Try.info58
  have hB : B < w.heap.size := World.block_lt_of_cell? w ⟨B, 3, none⟩ hc
  have hc3 : ∀ o1 o2 o3, (((w.alloc o1).alloc o2).alloc o3).cell? ⟨B, 3, none⟩ = some (.slice ao rs.length cap) := fun o1 o2 o3 => by
    rw [World.cell?_alloc_past _ _ _ (by simp; omega), World.cell?_alloc_past _ _ _ (by simp; omega), World.cell?_alloc_past _ _ _ hB]; exact hc
  go_enter Try.func17, Try.ntmps17
  go_wp2
  obtain ⟨H, hH⟩ : ∃ H, H = w.heap.size := ⟨_, rfl⟩
  have hst : LSt H w (((w.alloc (.cells #[.slice none 0 0] 30)).alloc (.cells #[] 58)).alloc (.cells #[.slice (some ⟨w.heap.size + 1, 0, none⟩) 0 0] 30)) [] 0 := by
    subst hH
    refine ⟨w.heap.size + 1, 0, (((Below.refl _ _).alloc (Nat.le_refl _) _).alloc (by simp) _).alloc (by simp; omega) _, ?_, ?_, ?_⟩
    · have := heap_alloc_new ((w.alloc (.cells #[.slice none 0 0] 30)).alloc (.cells #[] 58)) (.cells #[.slice (some ⟨w.heap.size + 1, 0, none⟩) 0 0] 30)
      simpa using this
    · rw [Below.heap_alloc _ _ _ (by simp; omega), Below.heap_alloc _ _ _ (by simp)]
      exact heap_alloc_new w _
    · refine World.ownsRow.alloc ?_ _
      have := World.ownsRow_made (base := w.heap.size + 1) (e := 58) (size := 3) (w.alloc (.cells #[.slice none 0 0] 30)) #[] 0 (by simp) (Nat.zero_le _) (by simp)
      simpa [flat3] using this
  rw [← hH] at hst ⊢
  have hHle : H ≤ w.heap.size := by omega
  have hHge : w.heap.size ≤ H := by omega
  clear hH hc3
  go_loopw [13] (fun i wr => ∃ k : Nat, k ≤ rs.length ∧ i = .int .i64 k ∧ LSt H w wr (rs.take k) k) (fun i _ => rs.length - (intOf i).toNat)
  case atStart => exact ⟨0, Nat.zero_le _, rfl, hst⟩
  case round =>
    clear hst
    obtain ⟨k, hk, rfl, g, cg, hb, hL, hR, hown⟩ := hrel
    have hHw : H + 1 + 1 < wr.heap.size := lt_of_block hL
    have cL := cell_of_one hL
    have fL := free_of_one hL
    by_cases hlt : k < rs.length
    · obtain ⟨gt, rfl, ht0⟩ := ht k hlt
      have ht1 := ht0.below hb (Nat.lt_of_lt_of_le ht0.lt hHge)
      obtain ⟨x, hx⟩ : ∃ x, rs[k] = x := ⟨_, rfl⟩
      obtain ⟨x0, x1, x2⟩ := x
      rw [hx] at ht1
      obtain ⟨t0, t1, t2, t3⟩ := ht1
      simp only at t0 t1 t2
      have HX : Hid (rs.take (k + 1) = rs.take k ++ [(x0, x1, x2)]) := by rw [List.take_succ_eq_append_getElem hlt, hx]; rfl
      have i0 : (0 : Int) ≤ (k : Int) := by omega
      have i1 : (k : Int) < (rs.length : Int) := by omega
      have cL1 : ∀ o, (wr.alloc o).cell? ⟨H + 1 + 1, 0, none⟩ = some (.slice (some ⟨g, 0, none⟩) k cg) := fun o => (World.cell?_alloc_past _ _ _ hHw).trans cL
      clear hx ht ht0 hc
      go_wp2_with (at_builtin; refine wpList_append_lies _ rfl (.tmp 18) (.tmp 26) 28 rfl (H + 1) 58 i (.agg #[.string ⟨#[]⟩, .string ⟨#[]⟩, .nilIface]) 3 48 Try.underlying28 hi hz0 hz1 hz2 rfl (by decide) (.slice (some ⟨g, 0, none⟩) k cg) k _ rfl ((hown.alloc _).alloc _) ⟨wr.heap.size + 1, 0, none⟩ 1 1 [.string x0, .string x1, .iface 9 (.string x2)] rfl rfl ?c1 ?c2 (by decide) (by unfold maxLen; omega) (by omega) (by simp; omega) _ rfl ?_)
      case c1 =>
        intro j u hj
        match j, hj with
        | 0, hj => simp at hj; subst hj; simp [Addr.add]
        | 1, hj => simp at hj; subst hj; simp [Addr.add]
        | 2, hj => simp at hj; subst hj; simp [Addr.add]
      case c2 => intro u hu; simp at hu; rcases hu with rfl | rfl | rfl <;> rfl
      intro g2 cap2 w1 hown' hgrow _ _
      have S := LSt.step (x := (x0, x1, x2)) hHw hb hL hR hown hown' hgrow
      have cL2 := cell_of_one S.1
      have fL2 := free_of_one S.1
      have S2 : Hid (LSt H w (w1.setCell ⟨H + 1 + 1, 0, none⟩ (.slice (some ⟨g2, 0, none⟩) (k + 1) cap2)) (rs.take k ++ [(x0, x1, x2)]) (k + 1)) := S.2
      clear S hown' hgrow hown hL hR hb cL fL cL1
      go_wp2
      go_roundw
      case rel => exact ⟨k + 1, by omega, by go_num, by rw [HX.out]; exact S2.out⟩
      case measure => simp [intOf]; omega
    · obtain rfl : k = rs.length := by omega
      have cR := cell_of_one hR
      have fR := free_of_one hR
      have hne : H + 1 + 1 ≠ H := by omega
      have hown2 := ownsRow_setCell_below hown (a := ⟨H, 0, none⟩) (by show H < H + 1; omega) (.slice (some ⟨g, 0, none⟩) rs.length cg)
      have c5 := World.cell?_setCell_same wr ⟨H, 0, none⟩ (.slice (some ⟨g, 0, none⟩) rs.length cg) cR
      have hin : Infos w.heap.size (wr.setCell ⟨H, 0, none⟩ (.slice (some ⟨g, 0, none⟩) rs.length cg)) (.slice (some ⟨g, 0, none⟩) rs.length cg) rs := by
        refine ⟨g, cg, by have := (hown2.lt g rfl).1; omega, rfl, fun j hj => ?_⟩
        obtain ⟨t0, t1, t2⟩ := flat3_get rs j hj
        rw [List.take_length] at hown2
        exact ⟨(hown2.cellAt (j * 3) (by omega)).trans t0, (hown2.cellAt (j * 3 + 1) (by omega)).trans t1, (hown2.cellAt (j * 3 + 2) (by omega)).trans t2⟩
      have HI := hin
      clear hin hown2 hown
      go_wp2
      exact bodyPost_ret (v := .agg #[.slice (some ⟨g, 0, none⟩) rs.length cg]) (by simp [results, Try.results17, go_sem, c5]) rfl ⟨_, rfl, HI, (hb.mono hHge).setCell hHge _⟩

set_option maxHeartbeats 400000 in
set_option maxRecDepth 100000 in
theorem zzlist_any (B : Nat) (rs : List T3) (w : World) (hs : Srv w B rs) (hl : rs.length ≤ 2097152) :
    Calls Try.prog 8 #[.pointer (some ⟨B, 0, none⟩)] w fun e w' => ∃ v, e = .returned (.agg #[v]) ∧ Infos w.heap.size w' v rs ∧ Below w.heap.size w w' := by
  have hs1 := hs.below ((Below.refl w.heap.size w).alloc (Nat.le_refl _) (.cells #[.slice none 0 0] 30))
  go_enter Try.func8, Try.ntmps8
  go_wp2_with fail
  refine (list_any B rs _ hs1 hl).mono ?_
  rintro e w1 ⟨v, rfl, hin, hb⟩
  have hHw : w.heap.size < w1.heap.size := by have := hb.size; simp at this; omega
  have c1 : w1.cell? ⟨w.heap.size, 0, none⟩ = some (.slice none 0 0) := (hb.cell (p := ⟨w.heap.size, 0, none⟩) (by simp)).trans (by rw [World.cell?_alloc_at _ _ _ _ rfl]; rfl)
  have f1 : w1.frozen? ⟨w.heap.size, 0, none⟩ = false := (hb.frozen (p := ⟨w.heap.size, 0, none⟩) (by simp)).trans (World.frozen?_alloc_at _ _ _ _ rfl)
  obtain ⟨g, cg, hlo, rfl, hk⟩ := hin
  have hlo' : w.heap.size < g := by simp at hlo; omega
  have c5 := World.cell?_setCell_same w1 ⟨w.heap.size, 0, none⟩ (.slice (some ⟨g, 0, none⟩) rs.length cg) c1
  have HI : Infos w.heap.size (w1.setCell ⟨w.heap.size, 0, none⟩ (.slice (some ⟨g, 0, none⟩) rs.length cg)) (.slice (some ⟨g, 0, none⟩) rs.length cg) rs := by
    refine ⟨g, cg, by omega, rfl, fun j hj => ?_⟩
    obtain ⟨t0, t1, t2⟩ := hk j hj
    have hne : ∀ o, (w1.setCell ⟨w.heap.size, 0, none⟩ (.slice (some ⟨g, 0, none⟩) rs.length cg)).cell? ⟨g, o, none⟩ = w1.cell? ⟨g, o, none⟩ := fun o =>
      World.cell?_of_block (Below.heap_setCell _ _ _ _ (by simp; omega))
    exact ⟨(hne _).trans t0, (hne _).trans t1, (hne _).trans t2⟩
  have hb0 : Below w.heap.size w w1 := ((Below.refl w.heap.size w).alloc (Nat.le_refl _) _).trans (hb.mono (by simp))
  clear hk hs hs1 hb
  go_wp2
  exact bodyPost_ret (v := .agg #[.slice (some ⟨g, 0, none⟩) rs.length cg]) (by simp [results, Try.results8, go_sem, c5]) rfl ⟨_, rfl, HI, hb0.setCell (Nat.le_refl _) _⟩

set_option maxHeartbeats 400000 in
set_option maxRecDepth 100000 in
theorem len_any (lo : Nat) (v : Value) (rs : List T3) (w : World) (h : Infos lo w v rs) :
    Calls Try.prog 10 #[.agg #[v]] w fun e w' => e = .returned (.int .i64 rs.length) ∧ Below w.heap.size w w' := by
  obtain ⟨g, cg, hlo, rfl, hk⟩ := h
  clear hk
  go_enter Try.func10, Try.ntmps10
  go_wp2
  go_ret
  exact ⟨rfl, (Below.refl _ _).alloc (Nat.le_refl _) _⟩

set_option maxHeartbeats 400000 in
set_option maxRecDepth 100000 in
theorem isNil_any (lo : Nat) (v : Value) (rs : List T3) (w : World) (h : Infos lo w v rs) :
    Calls Try.prog 9 #[.agg #[v]] w fun e w' => e = .returned (.bool false) ∧ Below w.heap.size w w' := by
  obtain ⟨g, cg, hlo, rfl, hk⟩ := h
  clear hk
  have q28 : ∀ (w : World) (a : Option Addr) (n c n' c' : Nat), (binOp .eql 28 (.slice a n c) (.slice none n' c')).run Try.prog w = .ok (.bool a.isNone) w := fun w a n c n' c' => Lib.run_eql_slice_nil w _ _ a n c n' c' Try.underlying28
  go_enter Try.func9, Try.ntmps9
  go_wp2
  go_ret
  exact ⟨rfl, (Below.refl _ _).alloc (Nat.le_refl _) _⟩

set_option maxHeartbeats 400000 in
set_option maxRecDepth 100000 in
/-- ZZinfo at an index in range. -/
theorem info_any (lo : Nat) (v : Value) (rs : List T3) (i : Int) (k : Nat) (hik : i = k) (x : T3) (hx : rs[k]? = some x) (w : World) (h : Infos lo w v rs) :
    Calls Try.prog 11 #[.agg #[v], .int .i64 i] w fun e w' => e = .returned (.tuple #[.string x.1, .string x.2.1, .string x.2.2, .bool true]) ∧ Below w.heap.size w w' := by
  obtain ⟨g, cg, hlo, rfl, hk⟩ := h
  obtain ⟨hlt, hxe⟩ := List.getElem?_eq_some_iff.1 hx
  obtain ⟨t0, t1, t2⟩ := hk k hlt
  obtain ⟨x0, x1, x2⟩ := x
  rw [hxe] at t0 t1 t2
  simp only at t0 t1 t2
  subst hik
  have hg : g < w.heap.size := World.block_lt_of_cell? w ⟨g, k * 3, none⟩ t0
  have n0 : ∀ o, (w.alloc o).cell? ⟨g, k * 3, none⟩ = some (.string x0) := fun o => (World.cell?_alloc_past _ _ _ hg).trans t0
  have n1 : ∀ o, (w.alloc o).cell? ⟨g, k * 3 + 1, none⟩ = some (.string x1) := fun o => (World.cell?_alloc_past _ _ _ hg).trans t1
  have n2 : ∀ o, (w.alloc o).cell? ⟨g, k * 3 + 2, none⟩ = some (.iface 9 (.string x2)) := fun o => (World.cell?_alloc_past _ _ _ hg).trans t2
  have i0 : (0 : Int) ≤ (k : Int) := by omega
  have i1 : (k : Int) < (rs.length : Int) := by omega
  clear hk hx hxe t0 t1 t2 hlo
  have hta : ∀ (w : World) (s : ByteArray), (Instr.typeAssert (.iface 9 (.string s)) 20 9 true).run Try.prog w = .ok (.tuple #[.string s, .bool true]) w := fun w s => by kernel_rfl
  go_enter Try.func11, Try.ntmps11
  go_wp2
  go_quiet (fail)
  go_wp2
  exact bodyPost_ret (v := .tuple #[.string x0, .string x1, .string x2, .bool true]) (by simp [results, Try.results11, go_sem]) rfl ⟨rfl, below_drewN ((Below.refl _ _).alloc (Nat.le_refl _) _) nq⟩

end Go.Proofs.Qxb6625816a
