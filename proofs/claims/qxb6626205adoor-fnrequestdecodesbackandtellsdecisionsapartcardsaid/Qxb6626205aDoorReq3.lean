/-
  Seat b6626205aD: function 7, 'Decision.Request': the walk.
-/
import Derived.Test.Qxb6626205aDoorReq2
namespace Go.Proofs.Qxb6626205aDoor
open Go.RowKit

theorem wrap_fit (n : Int) (h0 : -9223372036854775808 ≤ n) (h1 : n ≤ 9223372036854775807) : IntKind.i64.wrap n = n := by
  have e : IntKind.i64.bits = 64 := rfl
  have es : IntKind.i64.signed = true := rfl
  have e2 : (2:Int)^64 = 18446744073709551616 := by decide
  have e3 : (2:Int)^(64-1) = 9223372036854775808 := by decide
  simp only [IntKind.wrap, e, es, e2, e3, Bool.true_and, decide_eq_true_eq]
  split <;> omega

theorem boxed_size (w : World) (o : Obj) : (w.alloc o).drew.heap.size = w.heap.size + 1 := by simp

theorem cells7_boxed (x : Fields) (w : World) : Cells7 x w.heap.size (w.alloc (.cells #[.string ⟨x.g.toArray⟩, .int .i64 x.p, .int .i64 x.o, .string ⟨x.m.toArray⟩, .string ⟨x.t.toArray⟩, .int .i32 x.st, .bool x.fc] 26)).drew := by
  have hb : ∀ o : Obj, (w.alloc o).drew.heap[w.heap.size]? = some o := fun o => (MapKept.heap_alloc w o).1
  refine ⟨?_, ?_, ?_, ?_, ?_, ?_, ?_⟩ <;> simp only [World.cell?, hb] <;> rfl

/-- What a call of 'Request' has done: a new frame in block F with its own new map in block M. -/
structure FrameIs (x : Fields) (N F M : Nat) (w : World) : Prop where
  nF : N ≤ F
  nM : N ≤ M
  ne : F ≠ M
  ltF : F < w.heap.size
  map : MapIs w M 7 (look7 x fun _ => true)
  fz : ∀ i, w.frozen? ⟨F, i, none⟩ = false
  blk : ∃ cs, w.heap[F]? = some (.cells cs 35)
  c0 : w.cell? ⟨F, 0, none⟩ = some (.int .i32 37)
  c1 : w.cell? ⟨F, 1, none⟩ = some (.string ⟨#[]⟩)
  c2 : w.cell? ⟨F, 2, none⟩ = some (.int .i32 0)
  c3 : w.cell? ⟨F, 3, none⟩ = some (.int .i32 0)
  c4 : w.cell? ⟨F, 4, none⟩ = some (.int .i32 0)
  c5 : w.cell? ⟨F, 5, none⟩ = some (.string ⟨#[]⟩)
  c6 : w.cell? ⟨F, 6, none⟩ = some (.map (some M))
  c7 : w.cell? ⟨F, 7, none⟩ = some (.string ⟨#[]⟩)
  c8 : w.cell? ⟨F, 8, none⟩ = some (.slice none 0 0)

theorem FrameIs.move {x : Fields} {N F M : Nat} {w w' : World} (h : FrameIs x N F M w) (hF : w'.heap[F]? = w.heap[F]?) (hM : w'.heap[M]? = w.heap[M]?) (hs : w.heap.size ≤ w'.heap.size) : FrameIs x N F M w' := by
  have hc : ∀ i, w'.cell? ⟨F, i, none⟩ = w.cell? ⟨F, i, none⟩ := fun i => World.cell?_of_block (w := w) (a := ⟨F, i, none⟩) hF
  have hz : ∀ i, w'.frozen? ⟨F, i, none⟩ = w.frozen? ⟨F, i, none⟩ := fun i => World.frozen?_of_block (w := w) (a := ⟨F, i, none⟩) hF
  exact ⟨h.nF, h.nM, h.ne, Nat.lt_of_lt_of_le h.ltF hs, h.map.block hM, fun i => (hz i).trans (h.fz i), by rw [hF]; exact h.blk, (hc 0).trans h.c0, (hc 1).trans h.c1, (hc 2).trans h.c2, (hc 3).trans h.c3, (hc 4).trans h.c4, (hc 5).trans h.c5, (hc 6).trans h.c6, (hc 7).trans h.c7, (hc 8).trans h.c8⟩

theorem FrameIs.below {x : Fields} {N F M B : Nat} {w w' : World} (h : FrameIs x N F M w) (hb : Below B w w') (hF : F < B) (hM : M < B) : FrameIs x N F M w' := h.move (hb.block F hF) (hb.block M hM) hb.size

theorem frameIs_boxed (x : Fields) (N M : Nat) (w : World) (hM : N ≤ M) (hN : N ≤ w.heap.size) (hm : MapIs w M 7 (look7 x fun _ => true)) :
    FrameIs x N w.heap.size M (w.alloc (.cells #[.int .i32 37, .string ⟨#[]⟩, .int .i32 0, .int .i32 0, .int .i32 0, .string ⟨#[]⟩, .map (some M), .string ⟨#[]⟩, .slice none 0 0] 35)) := by
  have hb : ∀ o : Obj, (w.alloc o).heap[w.heap.size]? = some o := fun o => (MapKept.heap_alloc w o).1
  have hl := hm.lt
  refine ⟨hN, hM, by omega, by simp, hm.block ((MapKept.heap_alloc w _).2 M hl), fun i => by simp only [World.frozen?, hb]; simp, ⟨_, hb _⟩, ?_, ?_, ?_, ?_, ?_, ?_, ?_, ?_, ?_⟩ <;> simp only [World.cell?, hb] <;> rfl

set_option maxHeartbeats 4000000 in
set_option maxRecDepth 100000 in
theorem request (x : Fields) (hx : x.Ok) (w : World) (htab : Lib.TabIs Tryd.prog w tabName .u64 Lib.pow10Tab) :
    Calls Tryd.prog 7 #[x.agg] w fun e w' => ∃ F M, e = .returned (.pointer (some ⟨F, 0, none⟩)) ∧ FrameIs x w.heap.size F M w' ∧ Below w.heap.size w w' := by
  have hwrap : IntKind.i64.wrap x.st = x.st := by
    have h0 := hx.s0; have h1 := hx.s1
    exact wrap_fit _ (by omega) (by omega)
  have htb := Lib.tabBelow_of_tabIs htab
  go_enter Tryd.func7, Tryd.ntmps7
  go_wp2_with fail
  obtain ⟨b, hb⟩ : ∃ b, w.heap.size = b := ⟨_, rfl⟩
  rw [hb] at htb ⊢
  obtain ⟨w0, hw0⟩ : ∃ w0, (w.alloc (.cells #[.string ⟨x.g.toArray⟩, .int .i64 x.p, .int .i64 x.o, .string ⟨x.m.toArray⟩, .string ⟨x.t.toArray⟩, .int .i32 x.st, .bool x.fc] 26)) = w0 := ⟨_, rfl⟩
  have hbel : Below b w w0.drew := by
    subst hw0; subst hb; exact ((Below.refl _ w).alloc (Nat.le_refl _) _).drew
  have hsz : w0.drew.heap.size = b + 1 := by subst hw0; subst hb; exact boxed_size w _
  have hcells : Cells7 x b w0.drew := by
    subst hw0; subst hb
    exact cells7_boxed x w
  rw [hw0]
  refine wp_region_held_drew (S := Cells7 x b) (by kernel_rfl) hcells (fun hS => ?_)
  change wpAnyH _ _ _ _ _ 32 (Array.replicate 32 false) _ _
  refine wpAnyH_take (i := 1) (v := (.pointer (some ⟨b, 0, none⟩))) rfl (by kernel_rfl) (by kernel_rfl) (by kernel_rfl) (fun _ _ _ h => h) (Or.inl ⟨by rfl, (fun w1 hS1 => by obtain ⟨c0, c1, c2, c3, c4, c5, c6⟩ := hS1; go_simp)⟩) hS ?_
  simp only [Act.put, List.getElem_toArray, List.getElem_cons_zero, List.getElem_cons_succ, List.setIfInBounds_toArray, List.set_cons_zero, List.set_cons_succ]
  refine wpAnyH_take (i := 2) (v := (.string ⟨x.g.toArray⟩)) rfl (by kernel_rfl) (by kernel_rfl) (by kernel_rfl) (fun _ _ _ h => h) (Or.inl ⟨by rfl, (fun w1 hS1 => by obtain ⟨c0, c1, c2, c3, c4, c5, c6⟩ := hS1; go_simp)⟩) hS ?_
  simp only [Act.put, List.getElem_toArray, List.getElem_cons_zero, List.getElem_cons_succ, List.setIfInBounds_toArray, List.set_cons_zero, List.set_cons_succ]
  refine wpAnyH_take (i := 4) (v := (.pointer (some ⟨b, 1, none⟩))) rfl (by kernel_rfl) (by kernel_rfl) (by kernel_rfl) (fun _ _ _ h => h) (Or.inl ⟨by rfl, (fun w1 hS1 => by obtain ⟨c0, c1, c2, c3, c4, c5, c6⟩ := hS1; go_simp)⟩) hS ?_
  simp only [Act.put, List.getElem_toArray, List.getElem_cons_zero, List.getElem_cons_succ, List.setIfInBounds_toArray, List.set_cons_zero, List.set_cons_succ]
  refine wpAnyH_take (i := 5) (v := (.int .i64 x.p)) rfl (by kernel_rfl) (by kernel_rfl) (by kernel_rfl) (fun _ _ _ h => h) (Or.inl ⟨by rfl, (fun w1 hS1 => by obtain ⟨c0, c1, c2, c3, c4, c5, c6⟩ := hS1; go_simp)⟩) hS ?_
  simp only [Act.put, List.getElem_toArray, List.getElem_cons_zero, List.getElem_cons_succ, List.setIfInBounds_toArray, List.set_cons_zero, List.set_cons_succ]
  refine wpAnyH_take (i := 8) (v := (.pointer (some ⟨b, 2, none⟩))) rfl (by kernel_rfl) (by kernel_rfl) (by kernel_rfl) (fun _ _ _ h => h) (Or.inl ⟨by rfl, (fun w1 hS1 => by obtain ⟨c0, c1, c2, c3, c4, c5, c6⟩ := hS1; go_simp)⟩) hS ?_
  simp only [Act.put, List.getElem_toArray, List.getElem_cons_zero, List.getElem_cons_succ, List.setIfInBounds_toArray, List.set_cons_zero, List.set_cons_succ]
  refine wpAnyH_take (i := 9) (v := (.int .i64 x.o)) rfl (by kernel_rfl) (by kernel_rfl) (by kernel_rfl) (fun _ _ _ h => h) (Or.inl ⟨by rfl, (fun w1 hS1 => by obtain ⟨c0, c1, c2, c3, c4, c5, c6⟩ := hS1; go_simp)⟩) hS ?_
  simp only [Act.put, List.getElem_toArray, List.getElem_cons_zero, List.getElem_cons_succ, List.setIfInBounds_toArray, List.set_cons_zero, List.set_cons_succ]
  refine wpAnyH_take (i := 12) (v := (.pointer (some ⟨b, 5, none⟩))) rfl (by kernel_rfl) (by kernel_rfl) (by kernel_rfl) (fun _ _ _ h => h) (Or.inl ⟨by rfl, (fun w1 hS1 => by obtain ⟨c0, c1, c2, c3, c4, c5, c6⟩ := hS1; go_simp)⟩) hS ?_
  simp only [Act.put, List.getElem_toArray, List.getElem_cons_zero, List.getElem_cons_succ, List.setIfInBounds_toArray, List.set_cons_zero, List.set_cons_succ]
  refine wpAnyH_take (i := 13) (v := (.int .i32 x.st)) rfl (by kernel_rfl) (by kernel_rfl) (by kernel_rfl) (fun _ _ _ h => h) (Or.inl ⟨by rfl, (fun w1 hS1 => by obtain ⟨c0, c1, c2, c3, c4, c5, c6⟩ := hS1; go_simp)⟩) hS ?_
  simp only [Act.put, List.getElem_toArray, List.getElem_cons_zero, List.getElem_cons_succ, List.setIfInBounds_toArray, List.set_cons_zero, List.set_cons_succ]
  refine wpAnyH_take (i := 14) (v := (.int .i64 x.st)) rfl (by kernel_rfl) (by kernel_rfl) (by kernel_rfl) (fun _ _ _ h => h) (Or.inl ⟨by rfl, (fun w1 hS1 => by obtain ⟨c0, c1, c2, c3, c4, c5, c6⟩ := hS1; go_simp)⟩) hS ?_
  simp only [Act.put, List.getElem_toArray, List.getElem_cons_zero, List.getElem_cons_succ, List.setIfInBounds_toArray, List.set_cons_zero, List.set_cons_succ]
  refine wpAnyH_take (i := 17) (v := (.pointer (some ⟨b, 6, none⟩))) rfl (by kernel_rfl) (by kernel_rfl) (by kernel_rfl) (fun _ _ _ h => h) (Or.inl ⟨by rfl, (fun w1 hS1 => by obtain ⟨c0, c1, c2, c3, c4, c5, c6⟩ := hS1; go_simp)⟩) hS ?_
  simp only [Act.put, List.getElem_toArray, List.getElem_cons_zero, List.getElem_cons_succ, List.setIfInBounds_toArray, List.set_cons_zero, List.set_cons_succ]
  refine wpAnyH_take (i := 18) (v := (.bool x.fc)) rfl (by kernel_rfl) (by kernel_rfl) (by kernel_rfl) (fun _ _ _ h => h) (Or.inl ⟨by rfl, (fun w1 hS1 => by obtain ⟨c0, c1, c2, c3, c4, c5, c6⟩ := hS1; go_simp)⟩) hS ?_
  simp only [Act.put, List.getElem_toArray, List.getElem_cons_zero, List.getElem_cons_succ, List.setIfInBounds_toArray, List.set_cons_zero, List.set_cons_succ]
  refine wpAnyH_take (i := 21) (v := (.pointer (some ⟨b, 3, none⟩))) rfl (by kernel_rfl) (by kernel_rfl) (by kernel_rfl) (fun _ _ _ h => h) (Or.inl ⟨by rfl, (fun w1 hS1 => by obtain ⟨c0, c1, c2, c3, c4, c5, c6⟩ := hS1; go_simp)⟩) hS ?_
  simp only [Act.put, List.getElem_toArray, List.getElem_cons_zero, List.getElem_cons_succ, List.setIfInBounds_toArray, List.set_cons_zero, List.set_cons_succ]
  refine wpAnyH_take (i := 22) (v := (.string ⟨x.m.toArray⟩)) rfl (by kernel_rfl) (by kernel_rfl) (by kernel_rfl) (fun _ _ _ h => h) (Or.inl ⟨by rfl, (fun w1 hS1 => by obtain ⟨c0, c1, c2, c3, c4, c5, c6⟩ := hS1; go_simp)⟩) hS ?_
  simp only [Act.put, List.getElem_toArray, List.getElem_cons_zero, List.getElem_cons_succ, List.setIfInBounds_toArray, List.set_cons_zero, List.set_cons_succ]
  refine wpAnyH_take (i := 24) (v := (.pointer (some ⟨b, 4, none⟩))) rfl (by kernel_rfl) (by kernel_rfl) (by kernel_rfl) (fun _ _ _ h => h) (Or.inl ⟨by rfl, (fun w1 hS1 => by obtain ⟨c0, c1, c2, c3, c4, c5, c6⟩ := hS1; go_simp)⟩) hS ?_
  simp only [Act.put, List.getElem_toArray, List.getElem_cons_zero, List.getElem_cons_succ, List.setIfInBounds_toArray, List.set_cons_zero, List.set_cons_succ]
  refine wpAnyH_take (i := 25) (v := (.string ⟨x.t.toArray⟩)) rfl (by kernel_rfl) (by kernel_rfl) (by kernel_rfl) (fun _ _ _ h => h) (Or.inl ⟨by rfl, (fun w1 hS1 => by obtain ⟨c0, c1, c2, c3, c4, c5, c6⟩ := hS1; go_simp)⟩) hS ?_
  simp only [Act.put, List.getElem_toArray, List.getElem_cons_zero, List.getElem_cons_succ, List.setIfInBounds_toArray, List.set_cons_zero, List.set_cons_succ]
  change wpAnyH _ _ _ _ _ 17 (lit7 fun _ => false) ⟨frame7 x b undef undef undef undef undef, []⟩ _
  refine wpAnyH_inv (Inv7 x b w0.drew) ?_ 17 _ _ _ ⟨fun _ => false, undef, undef, undef, undef, undef, rfl, rfl, rfl, Below.refl _ _, (fun h => nomatch h), (fun h => nomatch h), (fun h => nomatch h), (fun h => nomatch h), Or.inl ⟨rfl, rfl⟩⟩
  rintro fuel listed a w1 ⟨B, u3, u8, u11, u15, u18, rfl, hfuel, rfl, hB1, h8, h11, h15, h18, hmap⟩
  have htw : Lib.TabIs Tryd.prog w1 tabName .u64 Lib.pow10Tab := htb w1 (hbel.trans (Joins.below_le hB1 (Nat.le_succ b)))
  by_cases hc : cnt7 B = 12
  · left
    obtain ⟨t0, t3, t6, t7, t10, t11, t15, t16, t19, t20, t23, t26⟩ := all_of_cnt B hc
    obtain rfl : fuel = 5 := by omega
    obtain ⟨M, rfl, hM, hmm⟩ : ∃ M, u3 = .map (some M) ∧ b < M ∧ MapIs w1 M (sz7 B) (look7 x B) := by
      rcases hmap with h | h
      · rw [t0] at h; exact absurd h.1 (by decide)
      · exact h.2
    clear hmap
    have hz : sz7 B = 7 := by simp [sz7, t3, t7, t11, t16, t20, t23, t26]
    have hl : look7 x B = look7 x (fun _ => true) := by funext k; simp [look7, t3, t7, t11, t16, t20, t23, t26]
    have hlit : lit7 B = lit7 (fun _ => true) := by simp [lit7, t0, t3, t6, t7, t10, t11, t15, t16, t19, t20, t23, t26]
    rw [hz, hl] at hmm
    rw [hlit]
    have hS1 : Cells7 x b w1 := cells7_below hS hB1
    have hlt1 : M < w1.heap.size := hmm.lt
    unfold frame7
    clear hc t0 t3 t6 t7 t10 t11 t15 t16 t19 t20 t23 t26 h8 h11 h15 h18 hfuel hz hl hlit
    refine wpAnyH_take (i := 27) (v := (.map (some M))) rfl (by kernel_rfl) (by kernel_rfl) (by kernel_rfl) (fun _ _ _ h => h) (Or.inl ⟨by rfl, (fun w1 hS1 => by go_simp)⟩) hS1 ?_
    simp only [Act.put, List.getElem_toArray, List.getElem_cons_zero, List.getElem_cons_succ, List.setIfInBounds_toArray, List.set_cons_zero, List.set_cons_succ]
    refine wpAnyH_take (i := 28) (v := (.agg #[.int .i32 37, .string ⟨#[]⟩, .int .i32 0, .int .i32 0, .int .i32 0, .string ⟨#[]⟩, .map (some M), .string ⟨#[]⟩])) rfl (by kernel_rfl) (by kernel_rfl) (by kernel_rfl) (fun _ _ _ h => h) (Or.inl ⟨by rfl, (fun w1 hS1 => by go_simp)⟩) hS1 ?_
    simp only [Act.put, List.getElem_toArray, List.getElem_cons_zero, List.getElem_cons_succ, List.setIfInBounds_toArray, List.set_cons_zero, List.set_cons_succ]
    refine wpAnyH_take (i := 29) (v := (.agg #[.int .i32 37, .string ⟨#[]⟩, .int .i32 0, .int .i32 0, .int .i32 0, .string ⟨#[]⟩, .map (some M), .string ⟨#[]⟩, .slice none 0 0])) rfl (by kernel_rfl) (by kernel_rfl) (by kernel_rfl) (fun _ _ _ h => h) (Or.inl ⟨by rfl, (fun w1 hS1 => by go_simp)⟩) hS1 ?_
    simp only [Act.put, List.getElem_toArray, List.getElem_cons_zero, List.getElem_cons_succ, List.setIfInBounds_toArray, List.set_cons_zero, List.set_cons_succ]
    refine wpAnyH_all (rs := [30]) (by kernel_rfl) (by simp) (fun i hi => ?_)
    obtain rfl : i = 30 := by simpa using hi
    refine step_plain rfl rfl (fun K' hK' => ?_)
    simp only [List.getElem_toArray, List.getElem_cons_zero, List.getElem_cons_succ]
    go_simp
    have hbn : Below (b + 1) w1 (w1.alloc (.cells #[.int .i32 37, .string ⟨#[]⟩, .int .i32 0, .int .i32 0, .int .i32 0, .string ⟨#[]⟩, .map (some M), .string ⟨#[]⟩, .slice none 0 0] 35)) := (Below.refl _ _).alloc (by omega) _
    refine hK' _ _ ⟨cells7_below hS1 hbn, ?_⟩
    refine wpAnyH_take (i := 31) (v := .pointer (some ⟨w1.heap.size, 0, none⟩)) rfl (by kernel_rfl) (by kernel_rfl) (by kernel_rfl) (fun _ _ _ h => h) (Or.inl ⟨by rfl, (fun w1 hS1 => by go_simp)⟩) (cells7_below hS1 hbn) ?_
    refine wpAnyH_done (by kernel_rfl) ?_ _
    have hend : FrameIs x b w1.heap.size M (w1.alloc (.cells #[.int .i32 37, .string ⟨#[]⟩, .int .i32 0, .int .i32 0, .int .i32 0, .string ⟨#[]⟩, .map (some M), .string ⟨#[]⟩, .slice none 0 0] 35)) := frameIs_boxed x b M w1 (by omega) (by omega) hmm
    have hbe := (hbel.trans (Joins.below_le hB1 (Nat.le_succ b))).trans (Joins.below_le hbn (Nat.le_succ b))
    simp only [Act.put, List.getElem_toArray, List.getElem_cons_zero, List.getElem_cons_succ, List.setIfInBounds_toArray, List.set_cons_zero, List.set_cons_succ]
    rename_i hback
    refine hback _ _ ?_
    go_wp2
    go_ret
    exact ⟨_, M, rfl, by rw [hb]; exact hend, by rw [hb]; exact hbe⟩
  · right
    have hc12 : cnt7 B < 12 := by
      have hbn : ∀ b : Bool, b.toNat ≤ 1 := fun b => by cases b <;> decide
      have l0 := hbn (B 0)
      have l3 := hbn (B 3)
      have l6 := hbn (B 6)
      have l7 := hbn (B 7)
      have l10 := hbn (B 10)
      have l11 := hbn (B 11)
      have l15 := hbn (B 15)
      have l16 := hbn (B 16)
      have l19 := hbn (B 19)
      have l20 := hbn (B 20)
      have l23 := hbn (B 23)
      have l26 := hbn (B 26)
      simp only [cnt7, sz7] at hc ⊢
      omega
    refine ⟨by omega, ?_, ?_⟩
    · by_cases g0 : B 0 = false
      · exact mem_ready_none (i := 0) g0 rfl rfl
      have g0 : B 0 = true := by simpa using g0
      by_cases g6 : B 6 = false
      · exact mem_ready_one (i := 6) g6 rfl rfl rfl
      have g6 : B 6 = true := by simpa using g6
      by_cases g10 : B 10 = false
      · exact mem_ready_two (i := 10) g10 rfl rfl rfl g6
      have g10 : B 10 = true := by simpa using g10
      by_cases g15 : B 15 = false
      · exact mem_ready_two (i := 15) g15 rfl rfl rfl g10
      have g15 : B 15 = true := by simpa using g15
      by_cases g19 : B 19 = false
      · exact mem_ready_two (i := 19) g19 rfl rfl rfl g15
      have g19 : B 19 = true := by simpa using g19
      by_cases g3 : B 3 = false
      · exact mem_ready_two (i := 3) g3 rfl rfl g0 rfl
      have g3 : B 3 = true := by simpa using g3
      by_cases g7 : B 7 = false
      · exact mem_ready_two (i := 7) g7 rfl rfl g0 g6
      have g7 : B 7 = true := by simpa using g7
      by_cases g11 : B 11 = false
      · exact mem_ready_two (i := 11) g11 rfl rfl g0 g10
      have g11 : B 11 = true := by simpa using g11
      by_cases g16 : B 16 = false
      · exact mem_ready_two (i := 16) g16 rfl rfl g0 g15
      have g16 : B 16 = true := by simpa using g16
      by_cases g20 : B 20 = false
      · exact mem_ready_two (i := 20) g20 rfl rfl g0 g19
      have g20 : B 20 = true := by simpa using g20
      by_cases g23 : B 23 = false
      · exact mem_ready_two (i := 23) g23 rfl rfl g0 rfl
      have g23 : B 23 = true := by simpa using g23
      by_cases g26 : B 26 = false
      · exact mem_ready_two (i := 26) g26 rfl rfl g0 rfl
      have g26 : B 26 = true := by simpa using g26
      exact absurd (by simp [cnt7, sz7, g0, g3, g6, g7, g10, g11, g15, g16, g19, g20, g23, g26]) hc
    · intro i hi
      obtain ⟨h0, o, ho, -⟩ := mem_ready.1 hi
      have hlt : i < 32 := (Array.getElem?_eq_some_iff.1 ho).1
      clear ho o
      have n1 : i ≠ 1 := fun e => by subst e; exact absurd (show true = false from h0) (by decide)
      have n2 : i ≠ 2 := fun e => by subst e; exact absurd (show true = false from h0) (by decide)
      have n4 : i ≠ 4 := fun e => by subst e; exact absurd (show true = false from h0) (by decide)
      have n5 : i ≠ 5 := fun e => by subst e; exact absurd (show true = false from h0) (by decide)
      have n8 : i ≠ 8 := fun e => by subst e; exact absurd (show true = false from h0) (by decide)
      have n9 : i ≠ 9 := fun e => by subst e; exact absurd (show true = false from h0) (by decide)
      have n12 : i ≠ 12 := fun e => by subst e; exact absurd (show true = false from h0) (by decide)
      have n13 : i ≠ 13 := fun e => by subst e; exact absurd (show true = false from h0) (by decide)
      have n14 : i ≠ 14 := fun e => by subst e; exact absurd (show true = false from h0) (by decide)
      have n17 : i ≠ 17 := fun e => by subst e; exact absurd (show true = false from h0) (by decide)
      have n18 : i ≠ 18 := fun e => by subst e; exact absurd (show true = false from h0) (by decide)
      have n21 : i ≠ 21 := fun e => by subst e; exact absurd (show true = false from h0) (by decide)
      have n22 : i ≠ 22 := fun e => by subst e; exact absurd (show true = false from h0) (by decide)
      have n24 : i ≠ 24 := fun e => by subst e; exact absurd (show true = false from h0) (by decide)
      have n25 : i ≠ 25 := fun e => by subst e; exact absurd (show true = false from h0) (by decide)
      have n27 : i ≠ 27 := fun e => by
        subst e
        have t0 : B 0 = true := ready_edge hi rfl 0 rfl rfl
        have t3 : B 3 = true := ready_edge hi rfl 3 rfl rfl
        have t6 : B 6 = true := ready_edge hi rfl 6 rfl rfl
        have t7 : B 7 = true := ready_edge hi rfl 7 rfl rfl
        have t10 : B 10 = true := ready_edge hi rfl 10 rfl rfl
        have t11 : B 11 = true := ready_edge hi rfl 11 rfl rfl
        have t15 : B 15 = true := ready_edge hi rfl 15 rfl rfl
        have t16 : B 16 = true := ready_edge hi rfl 16 rfl rfl
        have t19 : B 19 = true := ready_edge hi rfl 19 rfl rfl
        have t20 : B 20 = true := ready_edge hi rfl 20 rfl rfl
        have t23 : B 23 = true := ready_edge hi rfl 23 rfl rfl
        have t26 : B 26 = true := ready_edge hi rfl 26 rfl rfl
        exact hc (by simp [cnt7, sz7, t0, t3, t6, t7, t10, t11, t15, t16, t19, t20, t23, t26])
      have n28 : i ≠ 28 := fun e => by subst e; have t := ready_edge hi rfl 0 rfl rfl; exact absurd (show false = true from t) (by decide)
      have n29 : i ≠ 29 := fun e => by subst e; have t := ready_edge hi rfl 0 rfl rfl; exact absurd (show false = true from t) (by decide)
      have n30 : i ≠ 30 := fun e => by subst e; have t := ready_edge hi rfl 0 rfl rfl; exact absurd (show false = true from t) (by decide)
      have n31 : i ≠ 31 := fun e => by subst e; have t := ready_edge hi rfl 0 rfl rfl; exact absurd (show false = true from t) (by decide)
      have hcase : i = 0 ∨ i = 3 ∨ i = 6 ∨ i = 7 ∨ i = 10 ∨ i = 11 ∨ i = 15 ∨ i = 16 ∨ i = 19 ∨ i = 20 ∨ i = 23 ∨ i = 26 := by omega
      clear n1 n2 n4 n5 n8 n9 n12 n13 n14 n17 n18 n21 n22 n24 n25 n27 n28 n29 n30 n31 hlt
      rcases hcase with rfl | rfl | rfl | rfl | rfl | rfl | rfl | rfl | rfl | rfl | rfl | rfl
      · have hBi : B 0 = false := h0
        have hcu := cnt_0 B hBi
        refine step_makeMap (d := 3) rfl rfl rfl rfl ⟨cells7_below hS (hB1.alloc (by have := hB1.size; omega) _), upd B 0, .map (some w1.heap.size), u8, u11, u15, u18, rfl, by omega, rfl, hB1.alloc (by have := hB1.size; omega) _, h8, h11, h15, h18, Or.inr ⟨rfl, w1.heap.size, rfl, by have := hB1.size; omega, ?_⟩⟩
        have hz : sz7 B = 0 := by
          rcases hmap with h | h
          · exact h.2
          · rw [hBi] at h; exact absurd h.1 (by decide)
        rw [size_0, look_0, hz, look7_none x B hz]
        exact mapIs_made w1
      · have hBi : B 3 = false := h0
        have hcu := cnt_3 B hBi
        have t0 : B 0 = true := ready_edge hi rfl 0 rfl rfl
        obtain ⟨M, rfl, hM, hmm⟩ : ∃ M, u3 = .map (some M) ∧ b < M ∧ MapIs w1 M (sz7 B) (look7 x B) := by
          rcases hmap with h | h
          · rw [t0] at h; exact absurd h.1 (by decide)
          · exact h.2
        clear hmap
        have hle : sz7 B ≤ cnt7 B := by unfold cnt7; omega
        obtain ⟨w2, hrun, hm2, ht2⟩ := hmm.put (k := kG) (v := x.g) (by simp +decide [look7, opt, hBi]) (by unfold maxLen; omega) (by decide) (by have := hx.g; unfold maxLen; omega)
        have hb2 := turned_below ht2 (N := b + 1) hM
        refine step_insert rfl rfl rfl rfl hrun ⟨cells7_below hS (hB1.trans hb2), upd B 3, .map (some M), u8, u11, u15, u18, rfl, by omega, rfl, hB1.trans hb2, h8, h11, h15, h18, Or.inr ⟨t0, M, rfl, hM, ?_⟩⟩
        rw [size_3 B hBi, ← look7_3]
        exact hm2
      · have hBi : B 6 = false := h0
        have hcu := cnt_6 B hBi
        refine step_callTo (d := 8) rfl rfl rfl rfl (by simp [Act.eval, frame7]) rfl ((Tryd.strconv_FormatInt_10 x.p hx.p0 hx.p1 w1 htw).mono ?_)
        rintro e w2 ⟨rfl, k, os, rfl⟩
        have hb2 := Lib.below_grow (b + 1) w1 (by have := hB1.size; omega) k os
        refine ⟨_, rfl, cells7_below hS (hB1.trans hb2), upd B 6, u3, (.string ⟨(Lib.itoa x.p).toArray⟩), (u11), (u15), (u18), rfl, by omega, rfl, hB1.trans hb2, (fun _ => rfl), h11, h15, h18, ?_⟩
        rcases hmap with h | ⟨t0, M, rfl, hM, hmm⟩
        · exact Or.inl ⟨h.1, (size_6 B).trans h.2⟩
        · refine Or.inr ⟨t0, M, rfl, hM, ?_⟩
          rw [size_6, look_6]
          exact hmm.block ((Lib.below_grow w1.heap.size w1 (Nat.le_refl _) k os).block M hmm.lt)
      · have hBi : B 7 = false := h0
        have hcu := cnt_7 B hBi
        have t0 : B 0 = true := ready_edge hi rfl 0 rfl rfl
        obtain ⟨M, rfl, hM, hmm⟩ : ∃ M, u3 = .map (some M) ∧ b < M ∧ MapIs w1 M (sz7 B) (look7 x B) := by
          rcases hmap with h | h
          · rw [t0] at h; exact absurd h.1 (by decide)
          · exact h.2
        clear hmap
        have tn : B 6 = true := ready_edge hi rfl 1 rfl rfl
        obtain rfl := h8 tn
        have hle : sz7 B ≤ cnt7 B := by unfold cnt7; omega
        obtain ⟨w2, hrun, hm2, ht2⟩ := hmm.put (k := kP) (v := (Lib.itoa x.p)) (by simp +decide [look7, opt, hBi]) (by unfold maxLen; omega) (by decide) (by have := Lib.itoa_length_le x.p hx.p0 hx.p1; unfold maxLen; omega)
        have hb2 := turned_below ht2 (N := b + 1) hM
        refine step_insert rfl rfl rfl rfl hrun ⟨cells7_below hS (hB1.trans hb2), upd B 7, .map (some M), _, u11, u15, u18, rfl, by omega, rfl, hB1.trans hb2, (fun _ => rfl), h11, h15, h18, Or.inr ⟨t0, M, rfl, hM, ?_⟩⟩
        rw [size_7 B hBi, ← look7_7]
        exact hm2
      · have hBi : B 10 = false := h0
        have hcu := cnt_10 B hBi
        refine step_callTo (d := 11) rfl rfl rfl rfl (by simp [Act.eval, frame7]) rfl ((Tryd.strconv_FormatInt_10 x.o hx.o0 hx.o1 w1 htw).mono ?_)
        rintro e w2 ⟨rfl, k, os, rfl⟩
        have hb2 := Lib.below_grow (b + 1) w1 (by have := hB1.size; omega) k os
        refine ⟨_, rfl, cells7_below hS (hB1.trans hb2), upd B 10, u3, (u8), (.string ⟨(Lib.itoa x.o).toArray⟩), (u15), (u18), rfl, by omega, rfl, hB1.trans hb2, h8, (fun _ => rfl), h15, h18, ?_⟩
        rcases hmap with h | ⟨t0, M, rfl, hM, hmm⟩
        · exact Or.inl ⟨h.1, (size_10 B).trans h.2⟩
        · refine Or.inr ⟨t0, M, rfl, hM, ?_⟩
          rw [size_10, look_10]
          exact hmm.block ((Lib.below_grow w1.heap.size w1 (Nat.le_refl _) k os).block M hmm.lt)
      · have hBi : B 11 = false := h0
        have hcu := cnt_11 B hBi
        have t0 : B 0 = true := ready_edge hi rfl 0 rfl rfl
        obtain ⟨M, rfl, hM, hmm⟩ : ∃ M, u3 = .map (some M) ∧ b < M ∧ MapIs w1 M (sz7 B) (look7 x B) := by
          rcases hmap with h | h
          · rw [t0] at h; exact absurd h.1 (by decide)
          · exact h.2
        clear hmap
        have tn : B 10 = true := ready_edge hi rfl 1 rfl rfl
        obtain rfl := h11 tn
        have hle : sz7 B ≤ cnt7 B := by unfold cnt7; omega
        obtain ⟨w2, hrun, hm2, ht2⟩ := hmm.put (k := kO) (v := (Lib.itoa x.o)) (by simp +decide [look7, opt, hBi]) (by unfold maxLen; omega) (by decide) (by have := Lib.itoa_length_le x.o hx.o0 hx.o1; unfold maxLen; omega)
        have hb2 := turned_below ht2 (N := b + 1) hM
        refine step_insert rfl rfl rfl rfl hrun ⟨cells7_below hS (hB1.trans hb2), upd B 11, .map (some M), u8, _, u15, u18, rfl, by omega, rfl, hB1.trans hb2, h8, (fun _ => rfl), h15, h18, Or.inr ⟨t0, M, rfl, hM, ?_⟩⟩
        rw [size_11 B hBi, ← look7_11]
        exact hm2
      · have hBi : B 15 = false := h0
        have hcu := cnt_15 B hBi
        refine step_callTo (d := 15) rfl rfl rfl rfl (by simp [Act.eval, frame7]) rfl ((Tryd.strconv_Itoa x.st (by have := hx.s0; omega) (by have := hx.s1; omega) w1 htw).mono ?_)
        rintro e w2 ⟨rfl, k, os, rfl⟩
        have hb2 := Lib.below_grow (b + 1) w1 (by have := hB1.size; omega) k os
        refine ⟨_, rfl, cells7_below hS (hB1.trans hb2), upd B 15, u3, (u8), (u11), (.string ⟨(Lib.itoa x.st).toArray⟩), (u18), rfl, by omega, rfl, hB1.trans hb2, h8, h11, (fun _ => rfl), h18, ?_⟩
        rcases hmap with h | ⟨t0, M, rfl, hM, hmm⟩
        · exact Or.inl ⟨h.1, (size_15 B).trans h.2⟩
        · refine Or.inr ⟨t0, M, rfl, hM, ?_⟩
          rw [size_15, look_15]
          exact hmm.block ((Lib.below_grow w1.heap.size w1 (Nat.le_refl _) k os).block M hmm.lt)
      · have hBi : B 16 = false := h0
        have hcu := cnt_16 B hBi
        have t0 : B 0 = true := ready_edge hi rfl 0 rfl rfl
        obtain ⟨M, rfl, hM, hmm⟩ : ∃ M, u3 = .map (some M) ∧ b < M ∧ MapIs w1 M (sz7 B) (look7 x B) := by
          rcases hmap with h | h
          · rw [t0] at h; exact absurd h.1 (by decide)
          · exact h.2
        clear hmap
        have tn : B 15 = true := ready_edge hi rfl 1 rfl rfl
        obtain rfl := h15 tn
        have hle : sz7 B ≤ cnt7 B := by unfold cnt7; omega
        obtain ⟨w2, hrun, hm2, ht2⟩ := hmm.put (k := kS) (v := (Lib.itoa x.st)) (by simp +decide [look7, opt, hBi]) (by unfold maxLen; omega) (by decide) (by have := Lib.itoa_length_le x.st (by have := hx.s0; omega) (by have := hx.s1; omega); unfold maxLen; omega)
        have hb2 := turned_below ht2 (N := b + 1) hM
        refine step_insert rfl rfl rfl rfl hrun ⟨cells7_below hS (hB1.trans hb2), upd B 16, .map (some M), u8, u11, _, u18, rfl, by omega, rfl, hB1.trans hb2, h8, h11, (fun _ => rfl), h18, Or.inr ⟨t0, M, rfl, hM, ?_⟩⟩
        rw [size_16 B hBi, ← look7_16]
        exact hm2
      · have hBi : B 19 = false := h0
        have hcu := cnt_19 B hBi
        refine step_callTo (d := 18) rfl rfl rfl rfl (by simp [Act.eval, frame7]) rfl ((formatBool x.fc w1).mono ?_)
        rintro e w2 ⟨rfl, rfl⟩
        have hb2 : Below (b + 1) w2 w2 := Below.refl _ _
        refine ⟨_, rfl, cells7_below hS hB1, upd B 19, u3, (u8), (u11), (u15), (.string ⟨(boolBytes x.fc).toArray⟩), rfl, by omega, rfl, hB1, h8, h11, h15, (fun _ => rfl), ?_⟩
        rcases hmap with h | ⟨t0, M, rfl, hM, hmm⟩
        · exact Or.inl ⟨h.1, (size_19 B).trans h.2⟩
        · refine Or.inr ⟨t0, M, rfl, hM, ?_⟩
          rw [size_19, look_19]
          exact hmm
      · have hBi : B 20 = false := h0
        have hcu := cnt_20 B hBi
        have t0 : B 0 = true := ready_edge hi rfl 0 rfl rfl
        obtain ⟨M, rfl, hM, hmm⟩ : ∃ M, u3 = .map (some M) ∧ b < M ∧ MapIs w1 M (sz7 B) (look7 x B) := by
          rcases hmap with h | h
          · rw [t0] at h; exact absurd h.1 (by decide)
          · exact h.2
        clear hmap
        have tn : B 19 = true := ready_edge hi rfl 1 rfl rfl
        obtain rfl := h18 tn
        have hle : sz7 B ≤ cnt7 B := by unfold cnt7; omega
        obtain ⟨w2, hrun, hm2, ht2⟩ := hmm.put (k := kF) (v := (boolBytes x.fc)) (by simp +decide [look7, opt, hBi]) (by unfold maxLen; omega) (by decide) (by cases x.fc <;> decide)
        have hb2 := turned_below ht2 (N := b + 1) hM
        refine step_insert rfl rfl rfl rfl hrun ⟨cells7_below hS (hB1.trans hb2), upd B 20, .map (some M), u8, u11, u15, _, rfl, by omega, rfl, hB1.trans hb2, h8, h11, h15, (fun _ => rfl), Or.inr ⟨t0, M, rfl, hM, ?_⟩⟩
        rw [size_20 B hBi, ← look7_20]
        exact hm2
      · have hBi : B 23 = false := h0
        have hcu := cnt_23 B hBi
        have t0 : B 0 = true := ready_edge hi rfl 0 rfl rfl
        obtain ⟨M, rfl, hM, hmm⟩ : ∃ M, u3 = .map (some M) ∧ b < M ∧ MapIs w1 M (sz7 B) (look7 x B) := by
          rcases hmap with h | h
          · rw [t0] at h; exact absurd h.1 (by decide)
          · exact h.2
        clear hmap
        have hle : sz7 B ≤ cnt7 B := by unfold cnt7; omega
        obtain ⟨w2, hrun, hm2, ht2⟩ := hmm.put (k := kM) (v := x.m) (by simp +decide [look7, opt, hBi]) (by unfold maxLen; omega) (by decide) (by have := hx.m; unfold maxLen; omega)
        have hb2 := turned_below ht2 (N := b + 1) hM
        refine step_insert rfl rfl rfl rfl hrun ⟨cells7_below hS (hB1.trans hb2), upd B 23, .map (some M), u8, u11, u15, u18, rfl, by omega, rfl, hB1.trans hb2, h8, h11, h15, h18, Or.inr ⟨t0, M, rfl, hM, ?_⟩⟩
        rw [size_23 B hBi, ← look7_23]
        exact hm2
      · have hBi : B 26 = false := h0
        have hcu := cnt_26 B hBi
        have t0 : B 0 = true := ready_edge hi rfl 0 rfl rfl
        obtain ⟨M, rfl, hM, hmm⟩ : ∃ M, u3 = .map (some M) ∧ b < M ∧ MapIs w1 M (sz7 B) (look7 x B) := by
          rcases hmap with h | h
          · rw [t0] at h; exact absurd h.1 (by decide)
          · exact h.2
        clear hmap
        have hle : sz7 B ≤ cnt7 B := by unfold cnt7; omega
        obtain ⟨w2, hrun, hm2, ht2⟩ := hmm.put (k := kT) (v := x.t) (by simp +decide [look7, opt, hBi]) (by unfold maxLen; omega) (by decide) (by have := hx.t; unfold maxLen; omega)
        have hb2 := turned_below ht2 (N := b + 1) hM
        refine step_insert rfl rfl rfl rfl hrun ⟨cells7_below hS (hB1.trans hb2), upd B 26, .map (some M), u8, u11, u15, u18, rfl, by omega, rfl, hB1.trans hb2, h8, h11, h15, h18, Or.inr ⟨t0, M, rfl, hM, ?_⟩⟩
        rw [size_26 B hBi, ← look7_26]
        exact hm2
end Go.Proofs.Qxb6626205aDoor
