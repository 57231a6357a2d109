/-
  Seat b6626205aD: FnRequestGivesAFreshFrameEachCall: the walk.
-/
import Derived.Test.Qxb6626205aDoorAlt
import Derived.Deep.DeepCutAuto
namespace Go.Proofs.Qxb6626205aDoor
open Go.RowKit

/-- the ranges of the numbers -/
structure Fields.Num (x : Fields) : Prop where
  p0 : -9223372036854775808 ≤ x.p
  p1 : x.p ≤ 9223372036854775807
  o0 : -9223372036854775808 ≤ x.o
  o1 : x.o ≤ 9223372036854775807
  s0 : -2147483648 ≤ x.st
  s1 : x.st ≤ 2147483647

theorem cells7_of {x : Fields} {b : Nat} {w : World} {t : TypeId} (h : w.heap[b]? = some (.cells #[.string ⟨x.g.toArray⟩, .int .i64 x.p, .int .i64 x.o, .string ⟨x.m.toArray⟩, .string ⟨x.t.toArray⟩, .int .i32 x.st, .bool x.fc] t)) : Cells7 x b w := by
  refine ⟨?_, ?_, ?_, ?_, ?_, ?_, ?_⟩ <;> simp only [World.cell?, h] <;> rfl

theorem Tryd.info5 : (Tryd.prog.info? 5).map (fun i => (i.zero, i.size, i.bytes)) = some (some (.int .u8 0), 1, 1) := by kernel_rfl

theorem str_app (m : Bytes) : ((⟨m.toArray⟩ : ByteArray) ++ ⟨#[120]⟩) = ⟨(m ++ [120]).toArray⟩ := by
  apply ByteArray.ext
  simp

theorem nil_slice33 (w : World) : (binOp .eql 33 (.slice none 0 0) (.slice none 0 0)).run Tryd.prog w = .ok (.bool true) w := by kernel_rfl

set_option maxHeartbeats 4000000 in
set_option maxRecDepth 100000 in
theorem fresh_main (x : Fields) (hl : x.Len) (hn : x.Num) (w : World) (N : Nat) (hN : w.heap.size = N) (htab : Lib.TabIs Tryd.prog w tabName .u64 Lib.pow10Tab) :
    Calls Tryd.prog 4 #[x.agg] w fun e w' => e = .returned (.bool true) ∧ Below N w w' := by
  have htb := Lib.tabBelow_of_tabIs htab
  rw [hN] at htb
  have l1 := hl.g; have l2 := hl.m; have l3 := hl.t
  unfold maxLen at l1 l2 l3
  go_enter Tryd.func4, Tryd.ntmps4
  go_wp2_with fail
  refine (zz11 x hl _).mono ?_
  rintro e w1 ⟨bz, rfl, hb1⟩
  have f1 : Cells7 x N w1 ∧ N < w1.heap.size ∧ Below N w w1 := by
    have h0 := (MapKept.heap_alloc w (.cells #[.string ⟨x.g.toArray⟩, .int .i64 x.p, .int .i64 x.o, .string ⟨x.m.toArray⟩, .string ⟨x.t.toArray⟩, .int .i32 x.st, .bool x.fc] 23)).1
    have hs := hb1.size
    have hs0 : (w.alloc (.cells #[.string ⟨x.g.toArray⟩, .int .i64 x.p, .int .i64 x.o, .string ⟨x.m.toArray⟩, .string ⟨x.t.toArray⟩, .int .i32 x.st, .bool x.fc] 23)).heap.size = w.heap.size + 1 := by simp
    subst hN
    refine ⟨cells7_of ((hb1.block _ (by omega)).trans h0), by omega, (Joins.below_alloc1 w _).trans (Joins.below_le hb1 (by omega))⟩
  clear hb1
  obtain ⟨⟨c0, c1, c2, c3, c4, c5, c6⟩, hN1, hb1⟩ := f1
  cases bz with
  | false =>
    go_wp2
    go_ret
    exact ⟨rfl, hb1⟩
  | true =>
    by_cases p1 : 262144 < x.g.length
    · go_wp2
      go_ret
      exact ⟨rfl, hb1⟩
    by_cases p2 : 262144 < x.m.length
    · go_wp2
      go_ret
      exact ⟨rfl, hb1⟩
    by_cases p3 : 262144 < x.t.length
    · go_wp2
      go_ret
      exact ⟨rfl, hb1⟩
    have hx : x.Ok := ⟨by omega, by omega, by omega, hn.p0, hn.p1, hn.o0, hn.o1, hn.s0, hn.s1⟩
    go_wp2_with fail
    refine (toDecision x w1).mono ?_
    rintro e w2 ⟨rfl, hb2⟩
    go_wp2_with fail
    obtain ⟨D, hD⟩ : ∃ D, w2.heap.size = D := ⟨_, rfl⟩
    rw [hD]
    obtain ⟨w3, hw3⟩ : ∃ w3, (w2.alloc (.cells #[.string ⟨x.g.toArray⟩, .int .i64 x.p, .int .i64 x.o, .string ⟨x.m.toArray⟩, .string ⟨x.t.toArray⟩, .int .i32 x.st, .bool x.fc] 26)) = w3 := ⟨_, rfl⟩
    rw [hw3]
    have f3 : Cells7 x N w3 ∧ Cells7 x D w3 ∧ N < D ∧ w3.heap.size = D + 1 ∧ Below N w w3 := by
      have hs := hb2.size
      subst hw3; subst hD
      have h0 := (MapKept.heap_alloc w2 (.cells #[.string ⟨x.g.toArray⟩, .int .i64 x.p, .int .i64 x.o, .string ⟨x.m.toArray⟩, .string ⟨x.t.toArray⟩, .int .i32 x.st, .bool x.fc] 26)).1
      have hb23 := Joins.below_alloc1 w2 (.cells #[.string ⟨x.g.toArray⟩, .int .i64 x.p, .int .i64 x.o, .string ⟨x.m.toArray⟩, .string ⟨x.t.toArray⟩, .int .i32 x.st, .bool x.fc] 26)
      have hb13 := hb2.trans (Joins.below_le hb23 hs)
      exact ⟨cells7_below ⟨c0, c1, c2, c3, c4, c5, c6⟩ (Joins.below_le hb13 hN1), cells7_of h0, by omega, by simp, hb1.trans (Joins.below_le hb13 (by omega))⟩
    clear hw3 hD hb2 hb1 c0 c1 c2 c3 c4 c5 c6 hN1 p1 p2 p3 hl l1 l2 l3 hn
    obtain ⟨fN3, fD3, hND, hs3, hb3⟩ := f3
    refine (request x hx w3 (htb w3 hb3)).mono ?_
    rintro e w4 ⟨F1, M1, rfl, hF1, hb4⟩
    have fN4 : Cells7 x N w4 := cells7_below fN3 (Joins.below_le hb4 (by omega))
    have fD4 : Cells7 x D w4 := cells7_below fD3 (Joins.below_le hb4 (by omega))
    have hb4w : Below N w w4 := hb3.trans (Joins.below_le hb4 (by omega))
    have hs4 : w3.heap.size ≤ w4.heap.size := hb4.size
    have n1 : D < F1 ∧ D < M1 := ⟨by have := hF1.nF; omega, by have := hF1.nM; omega⟩
    have n2 : F1 < w4.heap.size ∧ M1 < w4.heap.size := ⟨hF1.ltF, hF1.map.lt⟩
    have n3 : F1 ≠ M1 := hF1.ne
    obtain ⟨S3, hS3⟩ : ∃ S3, w3.heap.size = S3 := ⟨_, rfl⟩
    rw [hS3] at hF1
    clear fN3 fD3 hb3 hb4
    have fD4' := fD4
    obtain ⟨d0, d1, d2, d3, d4, d5, d6⟩ := fD4
    go_wp2_with fail
    refine (request x hx w4 (htb w4 hb4w)).mono ?_
    rintro e w5 ⟨F2, M2, rfl, hF2, hb5⟩
    clear d0 d1 d2 d3 d4 d5 d6
    have fN5 : Cells7 x N w5 := cells7_below fN4 (Joins.below_le hb5 (by omega))
    have fD5 : Cells7 x D w5 := cells7_below fD4' (Joins.below_le hb5 (by omega))
    have hF15 : FrameIs x S3 F1 M1 w5 := hF1.below hb5 n2.1 n2.2
    have hb5w : Below N w w5 := hb4w.trans (Joins.below_le hb5 (by omega))
    have n4 : F1 < F2 ∧ F1 < M2 ∧ M1 < F2 ∧ M1 < M2 := by
      have h1 := hF2.nF; have h2 := hF2.nM
      refine ⟨?_, ?_, ?_, ?_⟩ <;> omega
    have n5 : F2 < w5.heap.size ∧ M2 < w5.heap.size := ⟨hF2.ltF, hF2.map.lt⟩
    have n6 : F2 ≠ M2 := hF2.ne
    obtain ⟨S4, hS4⟩ : ∃ S4, w4.heap.size = S4 := ⟨_, rfl⟩
    rw [hS4] at hF2
    clear fN4 fD4' hb5 hF1 hb4w n2 hs4 hs3 hS3 hS4
    have e12 : F1 ≠ F2 := by omega
    have hmn := map_some_nil M1
    have hpn := ptr_ne e12 hF15.blk hF2.blk
    have k3 := hF15.c3; have k4 := hF15.c4; have k5 := hF15.c5; have k6 := hF15.c6; have k8 := hF15.c8
    have z := hF15.fz
    have hA5 := alt_start hF15
    obtain ⟨iu, hiu, hz0, hz1, hz2⟩ := info_parts Tryd.info5
    clear hF15
    go_wp2_with (at_builtin; refine wpList_append_own _ rfl (.tmp 65) (.tmp 66) 33 rfl N 5 iu (.int .u8 0) 1 1 Tryd.underlying33 hiu hz0 hz1 hz2 rfl (by decide) (.slice none 0 0) 0 [] rfl (World.ownsRow_nil _ _ _ _) ⟨w5.heap.size, 0, none⟩ 1 1 [.int .u8 1] rfl rfl ?c1 ?c2 (by unfold maxLen; omega) (by omega) (by simp; omega) ?_)
    case c1 =>
      intro j u hj
      match j, hj with
      | 0, hj => simp at hj; subst hj; exact (World.cell?_alloc_at _ _ _ _ (by simp)).trans rfl
    case c2 => intro u hu; simp at hu; subst hu; rfl
    intro v' w6 hown' hgrow _
    have hex : ∃ g' cap', v' = .slice (some ⟨g', 0, none⟩) 1 cap' := by
      obtain ⟨_, hcase⟩ := hown'
      rcases hcase with ⟨_, h0⟩ | ⟨g', cap', cur', h, _⟩
      · omega
      · exact ⟨g', cap', h⟩
    obtain ⟨g', cap', hv'⟩ := hex
    rw [hv']
    have hA6 : Alt F1 M1 7 w5 w6 := ((((hA5.set (by decide) (by decide) n3 _).set (by decide) (by decide) n3 _).set (by decide) (by decide) n3 _).alloc _).grown hgrow
    clear hgrow hown' hv' hA5 k3 k4 k5 k6 k8 z hz0 hz1 hz2 hiu hpn
    have k8 := hA6.cell8
    have z8 := hA6.frozen8
    go_wp2_with fail
    refine world_name (fun W => AltE F1 M1 7 w5 W) (hA6.body n3 _) (fun w7 hA7 => ?_)
    clear hA6 k8 z8
    have nN5 : N < w5.heap.size := by omega
    have nD5 : D < w5.heap.size := by omega
    have fN7 : Cells7 x N w7 := hA7.cells7 fN5 nN5 (by omega) (by omega)
    refine wp_region_held_drew (S := fun W => W.cell? ⟨F1, 6, none⟩ = some (.map (some M1)) ∧ W.cell? ⟨N, 3, none⟩ = some (.string ⟨x.m.toArray⟩)) (by kernel_rfl) ⟨hA7.cell6, fN7.2.2.2.1⟩ (fun hS => ?_)
    change wpAnyH _ _ _ _ _ 9 (Array.replicate 9 false) _ _
    refine wpAnyH_take (i := 0) (v := (.pointer (some ⟨F1, 0, none⟩))) rfl (by kernel_rfl) (by kernel_rfl) (by kernel_rfl) (fun _ _ _ h => h) (Or.inl ⟨by rfl, (fun w1 hS1 => by obtain ⟨q0, q1⟩ := hS1; go_simp)⟩) hS ?_
    simp only [Act.put, List.getElem_toArray, List.getElem_cons_zero, List.setIfInBounds_toArray, List.set_cons_zero, List.set_cons_succ]
    refine wpAnyH_take (i := 1) (v := (.pointer (some ⟨F1, 0, none⟩))) rfl (by kernel_rfl) (by kernel_rfl) (by kernel_rfl) (fun _ _ _ h => h) (Or.inl ⟨by rfl, (fun w1 hS1 => by obtain ⟨q0, q1⟩ := hS1; go_simp)⟩) hS ?_
    simp only [Act.put, List.getElem_toArray, List.getElem_cons_zero, List.getElem_cons_succ, List.setIfInBounds_toArray, List.set_cons_zero, List.set_cons_succ]
    refine wpAnyH_take (i := 2) (v := (.pointer (some ⟨F1, 0, none⟩))) rfl (by kernel_rfl) (by kernel_rfl) (by kernel_rfl) (fun _ _ _ h => h) (Or.inl ⟨by rfl, (fun w1 hS1 => by obtain ⟨q0, q1⟩ := hS1; go_simp)⟩) hS ?_
    simp only [Act.put, List.getElem_toArray, List.getElem_cons_zero, List.getElem_cons_succ, List.setIfInBounds_toArray, List.set_cons_zero, List.set_cons_succ]
    refine wpAnyH_take (i := 3) (v := (.pointer (some ⟨F1, 6, none⟩))) rfl (by kernel_rfl) (by kernel_rfl) (by kernel_rfl) (fun _ _ _ h => h) (Or.inl ⟨by rfl, (fun w1 hS1 => by obtain ⟨q0, q1⟩ := hS1; go_simp)⟩) hS ?_
    simp only [Act.put, List.getElem_toArray, List.getElem_cons_zero, List.getElem_cons_succ, List.setIfInBounds_toArray, List.set_cons_zero, List.set_cons_succ]
    refine wpAnyH_take (i := 4) (v := (.map (some M1))) rfl (by kernel_rfl) (by kernel_rfl) (by kernel_rfl) (fun _ _ _ h => h) (Or.inl ⟨by rfl, (fun w1 hS1 => by obtain ⟨q0, q1⟩ := hS1; go_simp)⟩) hS ?_
    simp only [Act.put, List.getElem_toArray, List.getElem_cons_zero, List.getElem_cons_succ, List.setIfInBounds_toArray, List.set_cons_zero, List.set_cons_succ]
    refine wpAnyH_take (i := 5) (v := (.pointer (some ⟨N, 3, none⟩))) rfl (by kernel_rfl) (by kernel_rfl) (by kernel_rfl) (fun _ _ _ h => h) (Or.inl ⟨by rfl, (fun w1 hS1 => by obtain ⟨q0, q1⟩ := hS1; go_simp)⟩) hS ?_
    simp only [Act.put, List.getElem_toArray, List.getElem_cons_zero, List.getElem_cons_succ, List.setIfInBounds_toArray, List.set_cons_zero, List.set_cons_succ]
    refine wpAnyH_take (i := 6) (v := (.string ⟨x.m.toArray⟩)) rfl (by kernel_rfl) (by kernel_rfl) (by kernel_rfl) (fun _ _ _ h => h) (Or.inl ⟨by rfl, (fun w1 hS1 => by obtain ⟨q0, q1⟩ := hS1; go_simp)⟩) hS ?_
    simp only [Act.put, List.getElem_toArray, List.getElem_cons_zero, List.getElem_cons_succ, List.setIfInBounds_toArray, List.set_cons_zero, List.set_cons_succ]
    refine wpAnyH_take (i := 7) (v := (.string ⟨(x.m ++ [120]).toArray⟩)) rfl (by kernel_rfl) (by kernel_rfl) (by kernel_rfl) (fun _ _ _ h => h) (Or.inl ⟨by rfl, (fun w1 hS1 => by obtain ⟨q0, q1⟩ := hS1; go_simp; rw [if_neg (by have := hx.m; omega), str_app])⟩) hS ?_
    simp only [Act.put, List.getElem_toArray, List.getElem_cons_zero, List.getElem_cons_succ, List.setIfInBounds_toArray, List.set_cons_zero, List.set_cons_succ]
    refine wpAnyH_all (rs := [8]) (by kernel_rfl) (by simp) (fun i hi => ?_)
    obtain rfl : i = 8 := by simpa using hi
    obtain ⟨w8, hrun8, hany8, hturn8⟩ := hA7.drew.map.put (k := kM) (v := x.m ++ [120]) (by unfold maxLen; omega) (by decide) (by have := hx.m; unfold maxLen; simp; omega)
    have hA8 := hA7.drew.turn n3 hturn8 hany8
    refine step_mapUpdate rfl rfl rfl rfl hrun8 ⟨⟨hA8.cell6, (hA8.cells7 fN5 nN5 (by omega) (by omega)).2.2.2.1⟩, ?_⟩
    refine wpAnyH_done (by kernel_rfl) ?_ _
    rename_i hback
    refine hback _ _ ?_
    clear hrun8 hturn8 hany8 hS fN7 hA7
    obtain ⟨w9, hdel, hany9, hturn9⟩ := hA8.map.drop (k := [112, 114, 111, 100, 117, 99, 101, 114, 71, 114, 111, 117, 112]) (by decide) 0
    have hA9 := hA8.turn n3 hturn9 hany9
    obtain ⟨w10, hput, hany10, hturn10⟩ := hA9.map.put (k := [101, 120, 116, 114, 97]) (v := [49]) (by unfold maxLen; omega) (by decide) (by decide)
    have hA10 := hA9.turn n3 hturn10 hany10
    have k68 := hA8.cell6
    have k69 := hA9.cell6
    clear hturn9 hany9 hturn10 hany10 hA8 hA9
    go_wp2_with fail
    have hF20 : FrameIs x S4 F2 M2 w10 := hA10.frameIs hF2 (by omega) (by omega) (by omega) (by omega)
    have fN10 : Cells7 x N w10 := hA10.cells7 fN5 nN5 (by omega) (by omega)
    have fD10 : Cells7 x D w10 := hA10.cells7 fD5 nD5 (by omega) (by omega)
    have hb10 : Below N w w10 := hb5w.trans (hA10.below (by omega) (by omega) (by omega))
    have blk1 := hA10.blk
    have hs10 := hA10.size
    have nF1 := hA10.ltF
    clear hA10 hput hdel k68 k69 fN5 fD5 hb5w hF2 hmn
    have q0 := hF20.c0; have q1 := hF20.c1; have q2 := hF20.c2; have q3 := hF20.c3; have q4 := hF20.c4; have q5 := hF20.c5; have q7 := hF20.c7; have q8 := hF20.c8
    have hsn := nil_slice33
    go_region_held3 (fun W => W.cell? ⟨F2, 0, none⟩ = some (.int .i32 37) ∧ W.cell? ⟨F2, 1, none⟩ = some (.string ⟨#[]⟩) ∧ W.cell? ⟨F2, 2, none⟩ = some (.int .i32 0) ∧ W.cell? ⟨F2, 3, none⟩ = some (.int .i32 0) ∧ W.cell? ⟨F2, 4, none⟩ = some (.int .i32 0) ∧ W.cell? ⟨F2, 5, none⟩ = some (.string ⟨#[]⟩) ∧ W.cell? ⟨F2, 7, none⟩ = some (.string ⟨#[]⟩) ∧ W.cell? ⟨F2, 8, none⟩ = some (.slice none 0 0)) (go_keep) ((refine (headerRest _).mono ?_; rintro e wh ⟨rfl, rfl⟩))
    clear q0 q1 q2 q3 q4 q5 q7 q8
    have k62 := hF20.c6
    have hmap2 : MapIs w10.drew.drew M2 7 (look7 x fun _ => true) := hF20.map.block (w' := w10.drew.drew) rfl
    have ltF2 := hF20.ltF
    have nN10 : N < w10.heap.size := by omega
    have keep21 : ∀ W, Below w10.heap.size w10 W → (W.cell? ⟨F2, 6, none⟩ = some (.map (some M2)) ∧ W.cell? ⟨N, 0, none⟩ = some (.string ⟨x.g.toArray⟩) ∧ W.cell? ⟨N, 1, none⟩ = some (.int .i64 x.p) ∧ W.cell? ⟨N, 2, none⟩ = some (.int .i64 x.o) ∧ W.cell? ⟨N, 3, none⟩ = some (.string ⟨x.m.toArray⟩) ∧ W.cell? ⟨N, 4, none⟩ = some (.string ⟨x.t.toArray⟩) ∧ W.cell? ⟨N, 5, none⟩ = some (.int .i32 x.st) ∧ W.cell? ⟨N, 6, none⟩ = some (.bool x.fc)) := fun W hW =>
      ⟨(hW.cell (p := ⟨F2, 6, none⟩) ltF2).trans k62, cells7_below fN10 (Joins.below_le hW nN10)⟩
    have fN10' := fN10
    obtain ⟨c0, c1, c2, c3, c4, c5, c6⟩ := fN10'
    go_wp2_with fail
    go_region_held3 (fun W => W.cell? ⟨F2, 6, none⟩ = some (.map (some M2)) ∧ W.cell? ⟨N, 0, none⟩ = some (.string ⟨x.g.toArray⟩) ∧ W.cell? ⟨N, 1, none⟩ = some (.int .i64 x.p) ∧ W.cell? ⟨N, 2, none⟩ = some (.int .i64 x.o) ∧ W.cell? ⟨N, 3, none⟩ = some (.string ⟨x.m.toArray⟩) ∧ W.cell? ⟨N, 4, none⟩ = some (.string ⟨x.t.toArray⟩) ∧ W.cell? ⟨N, 5, none⟩ = some (.int .i32 x.st) ∧ W.cell? ⟨N, 6, none⟩ = some (.bool x.fc)) (first | go_keep | exact keep21 _ ((Below.refl _ w10).drew.drew.trans hb11)) ((go_at_call 9; refine (extDecodes x hx w10.drew.drew M2 hmap2).mono ?_; rintro e w11 ⟨rfl, hb11⟩))
    have hb11' : Below w10.heap.size w10 w11 := (Below.refl _ w10).drew.drew.trans hb11
    have fN11 : Cells7 x N w11 := cells7_below fN10 (Joins.below_le hb11' (by omega))
    have fD11 : Cells7 x D w11 := cells7_below fD10 (Joins.below_le hb11' (by omega))
    have hF21 : FrameIs x S4 F2 M2 w11 := hF20.below hb11' hF20.ltF hF20.map.lt
    have blk11 : ∃ cs, w11.heap[F1]? = some (.cells cs 35) := by
      obtain ⟨cs, h⟩ := blk1
      exact ⟨cs, (hb11'.block F1 nF1).trans h⟩
    have hb11w : Below N w w11 := hb10.trans (Joins.below_le hb11' (by omega))
    have hs11 := hb11'.size
    clear hb11 hb11' keep21 c0 c1 c2 c3 c4 c5 c6 k62 fN10 fD10 hF20 blk1 hb10
    obtain ⟨d0, d1, d2, d3, d4, d5, d6⟩ := fD11
    go_wp2_with fail
    refine (request x hx w11 (htb w11 hb11w)).mono ?_
    rintro e w12 ⟨F3, M3, rfl, hF3, hb12⟩
    clear d0 d1 d2 d3 d4 d5 d6
    have fN12 : Cells7 x N w12 := cells7_below fN11 (Joins.below_le hb12 (by omega))
    have hb12w : Below N w w12 := hb11w.trans (Joins.below_le hb12 (by omega))
    have hs12 := hb12.size
    have e31 : F3 ≠ F1 := by have := hF3.nF; omega
    have e32 : F3 ≠ F2 := by have := hF3.nF; omega
    have blk12 : ∃ cs, w12.heap[F1]? = some (.cells cs 35) := by
      obtain ⟨cs, h⟩ := blk11
      exact ⟨cs, (hb12.block F1 (by omega)).trans h⟩
    have hp31 := ptr_ne e31 hF3.blk blk12
    have hp32 := ptr_ne e32 hF3.blk (hF21.below hb12 hF21.ltF hF21.map.lt).blk
    clear hb12 hF21 blk11 blk12 fN11 hb11w
    have q0 := hF3.c0; have q1 := hF3.c1; have q2 := hF3.c2; have q3 := hF3.c3; have q4 := hF3.c4; have q5 := hF3.c5; have q7 := hF3.c7; have q8 := hF3.c8
    go_wp2_with fail
    go_region_held3 (fun W => W.cell? ⟨F3, 0, none⟩ = some (.int .i32 37) ∧ W.cell? ⟨F3, 1, none⟩ = some (.string ⟨#[]⟩) ∧ W.cell? ⟨F3, 2, none⟩ = some (.int .i32 0) ∧ W.cell? ⟨F3, 3, none⟩ = some (.int .i32 0) ∧ W.cell? ⟨F3, 4, none⟩ = some (.int .i32 0) ∧ W.cell? ⟨F3, 5, none⟩ = some (.string ⟨#[]⟩) ∧ W.cell? ⟨F3, 7, none⟩ = some (.string ⟨#[]⟩) ∧ W.cell? ⟨F3, 8, none⟩ = some (.slice none 0 0)) (go_keep) ((refine (headerRest _).mono ?_; rintro e wh ⟨rfl, rfl⟩))
    clear q0 q1 q2 q3 q4 q5 q7 q8 hp31 hp32
    have k63 := hF3.c6
    have hmap3 : MapIs w12.drew.drew M3 7 (look7 x fun _ => true) := hF3.map.block (w' := w12.drew.drew) rfl
    have ltF3 := hF3.ltF
    have nN12 : N < w12.heap.size := by omega
    have keep28 : ∀ W, Below w12.heap.size w12 W → (W.cell? ⟨F3, 6, none⟩ = some (.map (some M3)) ∧ W.cell? ⟨N, 0, none⟩ = some (.string ⟨x.g.toArray⟩) ∧ W.cell? ⟨N, 1, none⟩ = some (.int .i64 x.p) ∧ W.cell? ⟨N, 2, none⟩ = some (.int .i64 x.o) ∧ W.cell? ⟨N, 3, none⟩ = some (.string ⟨x.m.toArray⟩) ∧ W.cell? ⟨N, 4, none⟩ = some (.string ⟨x.t.toArray⟩) ∧ W.cell? ⟨N, 5, none⟩ = some (.int .i32 x.st) ∧ W.cell? ⟨N, 6, none⟩ = some (.bool x.fc)) := fun W hW =>
      ⟨(hW.cell (p := ⟨F3, 6, none⟩) ltF3).trans k63, cells7_below fN12 (Joins.below_le hW nN12)⟩
    have fN12' := fN12
    obtain ⟨c0, c1, c2, c3, c4, c5, c6⟩ := fN12'
    go_wp2_with fail
    go_region_held3 (fun W => W.cell? ⟨F3, 6, none⟩ = some (.map (some M3)) ∧ W.cell? ⟨N, 0, none⟩ = some (.string ⟨x.g.toArray⟩) ∧ W.cell? ⟨N, 1, none⟩ = some (.int .i64 x.p) ∧ W.cell? ⟨N, 2, none⟩ = some (.int .i64 x.o) ∧ W.cell? ⟨N, 3, none⟩ = some (.string ⟨x.m.toArray⟩) ∧ W.cell? ⟨N, 4, none⟩ = some (.string ⟨x.t.toArray⟩) ∧ W.cell? ⟨N, 5, none⟩ = some (.int .i32 x.st) ∧ W.cell? ⟨N, 6, none⟩ = some (.bool x.fc)) (first | go_keep | exact keep28 _ ((Below.refl _ w12).drew.drew.trans hb13)) ((go_at_call 9; refine (extDecodes x hx w12.drew.drew M3 hmap3).mono ?_; rintro e w13 ⟨rfl, hb13⟩))
    have hb13' : Below w12.heap.size w12 w13 := (Below.refl _ w12).drew.drew.trans hb13
    have hbE : Below N w w13 := hb12w.trans (Joins.below_le hb13' (by omega))
    go_wp2
    go_ret
    exact ⟨rfl, hbE⟩
end Go.Proofs.Qxb6626205aDoor
