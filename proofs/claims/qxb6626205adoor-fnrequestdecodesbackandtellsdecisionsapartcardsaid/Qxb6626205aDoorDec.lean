/-
  Seat b6626205aD: FnRequestDecodesBackAndTellsDecisionsApart: the walk.
-/
import Derived.Test.Qxb6626205aDoorInj
namespace Go.Proofs.Qxb6626205aDoor
open Go.RowKit

/-- the ranges of the numbers -/
structure Fields.Span (x : Fields) : Prop where
  p0 : -9223372036854775808 ≤ x.p
  p1 : x.p ≤ 9223372036854775807
  o0 : -9223372036854775808 ≤ x.o
  o1 : x.o ≤ 9223372036854775807
  s0 : -2147483648 ≤ x.st
  s1 : x.st ≤ 2147483647

set_option maxHeartbeats 2000000 in
set_option maxRecDepth 100000 in
theorem zz5 (x y : Fields) (hx : x.Len) (hy : y.Len) (w : World) : Calls Tryd.prog 5 #[x.agg, y.agg] w fun e w' => SomeBool w e w' := by
  obtain ⟨l1, l2, l3⟩ := hx
  obtain ⟨r1, r2, r3⟩ := hy
  unfold maxLen at l1 l2 l3 r1 r2 r3
  go_enter Tryd.func5, Tryd.ntmps5
  go_wp2
  all_goals go_ret
  all_goals exact ⟨_, rfl, Joins.below_alloc2 _ _ _⟩

theorem sameExt_eq (x y : Fields) (w : World) (M1 M2 : Nat) (h1 : MapIs w M1 7 (look7 x fun _ => true)) (h2 : MapIs w M2 7 (look7 y fun _ => true)) (b : Bool) (hb : eqF x y = b) :
    Calls Tryd.prog 10 #[.map (some M1), .map (some M2)] w fun e w' => e = .returned (.bool b) ∧ w' = w := by
  have h := sameExt x y w M1 M2 h1 h2 _ _ _ _ _ _ _ rfl rfl rfl rfl rfl rfl rfl
  rw [same_is_eq, hb] at h
  exact h

theorem cells7_at {x : Fields} {b : Nat} {w : World} {t : TypeId} (h : w.heap[b]? = some (.cells #[.string ⟨x.g.toArray⟩, .int .i64 x.p, .int .i64 x.o, .string ⟨x.m.toArray⟩, .string ⟨x.t.toArray⟩, .int .i32 x.st, .bool x.fc] t)) : Cells7 x b w := by
  refine ⟨?_, ?_, ?_, ?_, ?_, ?_, ?_⟩ <;> simp only [World.cell?, h] <;> rfl

theorem nil_slice (w : World) : (binOp .eql 33 (.slice none 0 0) (.slice none 0 0)).run Tryd.prog w = .ok (.bool true) w := by kernel_rfl

set_option maxHeartbeats 4000000 in
set_option maxRecDepth 100000 in
theorem decodes_main (x y : Fields) (hl : x.Len) (hn : x.Span) (hly : y.Len) (hny : y.Span) (w : World) (N : Nat) (hN : w.heap.size = N) (htab : Lib.TabIs Tryd.prog w tabName .u64 Lib.pow10Tab) :
    Calls Tryd.prog 3 #[x.agg, y.agg] w fun e w' => e = .returned (.bool true) ∧ Below N w w' := by
  have htb := Lib.tabBelow_of_tabIs htab
  rw [hN] at htb
  have l1 := hl.g; have l2 := hl.m; have l3 := hl.t
  have r1 := hly.g; have r2 := hly.m; have r3 := hly.t
  unfold maxLen at l1 l2 l3 r1 r2 r3
  go_enter Tryd.func3, Tryd.ntmps3
  go_wp2_with fail
  refine (zz5 x y hl hly _).mono ?_
  rintro e w1 ⟨bz, rfl, hb1⟩
  have f1 : Cells7 x N w1 ∧ Cells7 y (N + 1) w1 ∧ N + 1 < w1.heap.size ∧ Below N w w1 := by
    have h0 := (MapKept.heap_alloc w (.cells #[.string ⟨x.g.toArray⟩, .int .i64 x.p, .int .i64 x.o, .string ⟨x.m.toArray⟩, .string ⟨x.t.toArray⟩, .int .i32 x.st, .bool x.fc] 23)).1
    have h1 := (MapKept.heap_alloc (w.alloc (.cells #[.string ⟨x.g.toArray⟩, .int .i64 x.p, .int .i64 x.o, .string ⟨x.m.toArray⟩, .string ⟨x.t.toArray⟩, .int .i32 x.st, .bool x.fc] 23)) (.cells #[.string ⟨y.g.toArray⟩, .int .i64 y.p, .int .i64 y.o, .string ⟨y.m.toArray⟩, .string ⟨y.t.toArray⟩, .int .i32 y.st, .bool y.fc] 23)).1
    have h2 := (MapKept.heap_alloc (w.alloc (.cells #[.string ⟨x.g.toArray⟩, .int .i64 x.p, .int .i64 x.o, .string ⟨x.m.toArray⟩, .string ⟨x.t.toArray⟩, .int .i32 x.st, .bool x.fc] 23)) (.cells #[.string ⟨y.g.toArray⟩, .int .i64 y.p, .int .i64 y.o, .string ⟨y.m.toArray⟩, .string ⟨y.t.toArray⟩, .int .i32 y.st, .bool y.fc] 23)).2
    have hs0 : (w.alloc (.cells #[.string ⟨x.g.toArray⟩, .int .i64 x.p, .int .i64 x.o, .string ⟨x.m.toArray⟩, .string ⟨x.t.toArray⟩, .int .i32 x.st, .bool x.fc] 23)).heap.size = w.heap.size + 1 := by simp
    have hs1 : ((w.alloc (.cells #[.string ⟨x.g.toArray⟩, .int .i64 x.p, .int .i64 x.o, .string ⟨x.m.toArray⟩, .string ⟨x.t.toArray⟩, .int .i32 x.st, .bool x.fc] 23)).alloc (.cells #[.string ⟨y.g.toArray⟩, .int .i64 y.p, .int .i64 y.o, .string ⟨y.m.toArray⟩, .string ⟨y.t.toArray⟩, .int .i32 y.st, .bool y.fc] 23)).heap.size = w.heap.size + 2 := by simp
    have hs := hb1.size
    subst hN
    rw [hs0] at h1
    refine ⟨cells7_at ((hb1.block _ (by omega)).trans ((h2 _ (by omega)).trans h0)), cells7_at ((hb1.block _ (by omega)).trans h1), by omega, (Joins.below_alloc2 w _ _).trans (Joins.below_le hb1 (by omega))⟩
  clear hb1
  obtain ⟨⟨c0, c1, c2, c3, c4, c5, c6⟩, ⟨d0, d1, d2, d3, d4, d5, d6⟩, hN1, hb1⟩ := f1
  cases bz with
  | false =>
    go_wp2
    go_ret
    exact ⟨rfl, hb1⟩
  | true =>
    by_cases p1 : 131072 < x.g.length
    · go_wp2
      go_ret
      exact ⟨rfl, hb1⟩
    by_cases p2 : 131072 < x.m.length
    · go_wp2
      go_ret
      exact ⟨rfl, hb1⟩
    by_cases p3 : 131072 < x.t.length
    · go_wp2
      go_ret
      exact ⟨rfl, hb1⟩
    by_cases p4 : 131072 < y.g.length
    · go_wp2
      go_ret
      exact ⟨rfl, hb1⟩
    by_cases p5 : 131072 < y.m.length
    · go_wp2
      go_ret
      exact ⟨rfl, hb1⟩
    by_cases p6 : 131072 < y.t.length
    · go_wp2
      go_ret
      exact ⟨rfl, hb1⟩
    have hx : x.Ok := ⟨by omega, by omega, by omega, hn.p0, hn.p1, hn.o0, hn.o1, hn.s0, hn.s1⟩
    have hy : y.Ok := ⟨by omega, by omega, by omega, hny.p0, hny.p1, hny.o0, hny.o1, hny.s0, hny.s1⟩
    go_wp2_with fail
    refine (toDecision x w1).mono ?_
    rintro e w2 ⟨rfl, hb2⟩
    have hb2w : Below N w w2 := hb1.trans (Joins.below_le hb2 (by omega))
    go_wp2_with fail
    refine (request x hx w2 (htb w2 hb2w)).mono ?_
    rintro e w3 ⟨F1, M1, rfl, hF1, hb3⟩
    have hs2 := hb2.size
    have hb13 : Below w1.heap.size w1 w3 := hb2.trans (Joins.below_le hb3 hs2)
    have fx3 : Cells7 x N w3 := cells7_below ⟨c0, c1, c2, c3, c4, c5, c6⟩ (Joins.below_le hb13 (by omega))
    have fy3 : Cells7 y (N + 1) w3 := cells7_below ⟨d0, d1, d2, d3, d4, d5, d6⟩ (Joins.below_le hb13 (by omega))
    have hb3w : Below N w w3 := hb1.trans (Joins.below_le hb13 (by omega))
    have hs3 := hb13.size
    have n1 : N + 1 < F1 ∧ N + 1 < M1 := ⟨by have := hF1.nF; omega, by have := hF1.nM; omega⟩
    have n2 : F1 < w3.heap.size ∧ M1 < w3.heap.size := ⟨hF1.ltF, hF1.map.lt⟩
    obtain ⟨S2, hS2⟩ : ∃ S2, w2.heap.size = S2 := ⟨_, rfl⟩
    rw [hS2] at hF1
    clear hb2 hb3 hb13 hb2w hb1 hS2 hs2 c0 c1 c2 c3 c4 c5 c6 d0 d1 d2 d3 d4 d5 d6 p1 p2 p3 p4 p5 p6 l1 l2 l3 r1 r2 r3 hl hly hn hny
    have fy3' := fy3
    obtain ⟨d0, d1, d2, d3, d4, d5, d6⟩ := fy3'
    go_wp2_with fail
    refine (toDecision y w3).mono ?_
    rintro e w4 ⟨rfl, hb4⟩
    have hb4w : Below N w w4 := hb3w.trans (Joins.below_le hb4 (by omega))
    go_wp2_with fail
    refine (request y hy w4 (htb w4 hb4w)).mono ?_
    rintro e w5 ⟨F2, M2, rfl, hF2, hb5⟩
    have hs4 := hb4.size
    have hb35 : Below w3.heap.size w3 w5 := hb4.trans (Joins.below_le hb5 hs4)
    have fx5 : Cells7 x N w5 := cells7_below fx3 (Joins.below_le hb35 (by omega))
    have fy5 : Cells7 y (N + 1) w5 := cells7_below fy3 (Joins.below_le hb35 (by omega))
    have hF15 : FrameIs x S2 F1 M1 w5 := hF1.below hb35 n2.1 n2.2
    have hb5w : Below N w w5 := hb3w.trans (Joins.below_le hb35 (by omega))
    have hs5 := hb35.size
    obtain ⟨S4, hS4⟩ : ∃ S4, w4.heap.size = S4 := ⟨_, rfl⟩
    rw [hS4] at hF2
    clear hb4 hb5 hb35 hb4w hb3w hS4 hs4 hF1 fx3 fy3 d0 d1 d2 d3 d4 d5 d6
    have hsn := nil_slice
    have q0 := hF15.c0; have q1 := hF15.c1; have q2 := hF15.c2; have q3 := hF15.c3; have q4 := hF15.c4; have q5 := hF15.c5; have q7 := hF15.c7; have q8 := hF15.c8
    go_wp2_with fail
    go_region_held3 (fun W => W.cell? ⟨F1, 0, none⟩ = some (.int .i32 37) ∧ W.cell? ⟨F1, 1, none⟩ = some (.string ⟨#[]⟩) ∧ W.cell? ⟨F1, 2, none⟩ = some (.int .i32 0) ∧ W.cell? ⟨F1, 3, none⟩ = some (.int .i32 0) ∧ W.cell? ⟨F1, 4, none⟩ = some (.int .i32 0) ∧ W.cell? ⟨F1, 5, none⟩ = some (.string ⟨#[]⟩) ∧ W.cell? ⟨F1, 7, none⟩ = some (.string ⟨#[]⟩) ∧ W.cell? ⟨F1, 8, none⟩ = some (.slice none 0 0)) (go_keep) ((refine (headerRest _).mono ?_; rintro e wh ⟨rfl, rfl⟩))
    clear q0 q1 q2 q3 q4 q5 q7 q8
    have q0 := hF2.c0; have q1 := hF2.c1; have q2 := hF2.c2; have q3 := hF2.c3; have q4 := hF2.c4; have q5 := hF2.c5; have q7 := hF2.c7; have q8 := hF2.c8
    go_wp2_with fail
    go_region_held3 (fun W => W.cell? ⟨F2, 0, none⟩ = some (.int .i32 37) ∧ W.cell? ⟨F2, 1, none⟩ = some (.string ⟨#[]⟩) ∧ W.cell? ⟨F2, 2, none⟩ = some (.int .i32 0) ∧ W.cell? ⟨F2, 3, none⟩ = some (.int .i32 0) ∧ W.cell? ⟨F2, 4, none⟩ = some (.int .i32 0) ∧ W.cell? ⟨F2, 5, none⟩ = some (.string ⟨#[]⟩) ∧ W.cell? ⟨F2, 7, none⟩ = some (.string ⟨#[]⟩) ∧ W.cell? ⟨F2, 8, none⟩ = some (.slice none 0 0)) (go_keep) ((refine (headerRest _).mono ?_; rintro e wh ⟨rfl, rfl⟩))
    clear q0 q1 q2 q3 q4 q5 q7 q8
    have k1 := hF15.c6
    have k2 := hF2.c6
    have ltF2 := hF2.ltF
    have ltM1 : M1 < w5.heap.size := hF15.map.lt
    have ltM2 : M2 < w5.heap.size := hF2.map.lt
    have nN5 : N + 1 < w5.heap.size := by omega
    have hm1 : ∀ W, Below w5.heap.size w5 W → MapIs W M1 7 (look7 x fun _ => true) := fun W hW => hF15.map.below hW ltM1
    have hm2 : ∀ W, Below w5.heap.size w5 W → MapIs W M2 7 (look7 y fun _ => true) := fun W hW => hF2.map.below hW ltM2
    have keepS : ∀ W, Below w5.heap.size w5 W → (W.cell? ⟨F1, 6, none⟩ = some (.map (some M1)) ∧ W.cell? ⟨F2, 6, none⟩ = some (.map (some M2)) ∧ W.cell? ⟨N, 0, none⟩ = some (.string ⟨x.g.toArray⟩) ∧ W.cell? ⟨N, 1, none⟩ = some (.int .i64 x.p) ∧ W.cell? ⟨N, 2, none⟩ = some (.int .i64 x.o) ∧ W.cell? ⟨N, 3, none⟩ = some (.string ⟨x.m.toArray⟩) ∧ W.cell? ⟨N, 4, none⟩ = some (.string ⟨x.t.toArray⟩) ∧ W.cell? ⟨N, 5, none⟩ = some (.int .i32 x.st) ∧ W.cell? ⟨N, 6, none⟩ = some (.bool x.fc) ∧ W.cell? ⟨N + 1, 0, none⟩ = some (.string ⟨y.g.toArray⟩) ∧ W.cell? ⟨N + 1, 1, none⟩ = some (.int .i64 y.p) ∧ W.cell? ⟨N + 1, 2, none⟩ = some (.int .i64 y.o) ∧ W.cell? ⟨N + 1, 3, none⟩ = some (.string ⟨y.m.toArray⟩) ∧ W.cell? ⟨N + 1, 4, none⟩ = some (.string ⟨y.t.toArray⟩) ∧ W.cell? ⟨N + 1, 5, none⟩ = some (.int .i32 y.st) ∧ W.cell? ⟨N + 1, 6, none⟩ = some (.bool y.fc)) := fun W hW => by
      obtain ⟨c0, c1, c2, c3, c4, c5, c6⟩ := cells7_below fx5 (Joins.below_le hW (by omega))
      exact ⟨(hW.cell (p := ⟨F1, 6, none⟩) (by show F1 < _; omega)).trans k1, (hW.cell (p := ⟨F2, 6, none⟩) ltF2).trans k2, c0, c1, c2, c3, c4, c5, c6, cells7_below fy5 (Joins.below_le hW nN5)⟩
    have fx5' := fx5
    have fy5' := fy5
    obtain ⟨c0, c1, c2, c3, c4, c5, c6⟩ := fx5'
    obtain ⟨d0, d1, d2, d3, d4, d5, d6⟩ := fy5'
    have B5 : Below w5.heap.size w5 w5.drew.drew.drew := (Below.refl _ w5).drew.drew.drew
    have hm15 : MapIs w5.drew.drew.drew M1 7 (look7 x fun _ => true) := hm1 _ B5
    go_wp2_with fail
    go_region_held3 (fun W => W.cell? ⟨F1, 6, none⟩ = some (.map (some M1)) ∧ W.cell? ⟨F2, 6, none⟩ = some (.map (some M2)) ∧ W.cell? ⟨N, 0, none⟩ = some (.string ⟨x.g.toArray⟩) ∧ W.cell? ⟨N, 1, none⟩ = some (.int .i64 x.p) ∧ W.cell? ⟨N, 2, none⟩ = some (.int .i64 x.o) ∧ W.cell? ⟨N, 3, none⟩ = some (.string ⟨x.m.toArray⟩) ∧ W.cell? ⟨N, 4, none⟩ = some (.string ⟨x.t.toArray⟩) ∧ W.cell? ⟨N, 5, none⟩ = some (.int .i32 x.st) ∧ W.cell? ⟨N, 6, none⟩ = some (.bool x.fc) ∧ W.cell? ⟨N + 1, 0, none⟩ = some (.string ⟨y.g.toArray⟩) ∧ W.cell? ⟨N + 1, 1, none⟩ = some (.int .i64 y.p) ∧ W.cell? ⟨N + 1, 2, none⟩ = some (.int .i64 y.o) ∧ W.cell? ⟨N + 1, 3, none⟩ = some (.string ⟨y.m.toArray⟩) ∧ W.cell? ⟨N + 1, 4, none⟩ = some (.string ⟨y.t.toArray⟩) ∧ W.cell? ⟨N + 1, 5, none⟩ = some (.int .i32 y.st) ∧ W.cell? ⟨N + 1, 6, none⟩ = some (.bool y.fc)) (first | exact keepS _ ((B5.trans hb6).trans (Joins.below_le hb7 (B5.trans hb6).size)) | exact keepS _ (B5.trans hb6) | go_keep) ((first
      | (go_at_call 9; refine (extDecodes y hy w6 M2 (hm2 w6 (B5.trans hb6))).mono ?_; rintro e w7 ⟨rfl, hb7⟩)
      | (go_at_call 9; refine (extDecodes x hx w5.drew.drew.drew M1 hm15).mono ?_; rintro e w6 ⟨rfl, hb6⟩)))
    have B7 : Below w5.heap.size w5 w7 := (B5.trans hb6).trans (Joins.below_le hb7 (B5.trans hb6).size)
    have hS7 := keepS w7 B7
    have hm17 : MapIs w7.drew M1 7 (look7 x fun _ => true) := (hm1 w7 B7).block (w' := w7.drew) rfl
    have hm27 : MapIs w7.drew M2 7 (look7 y fun _ => true) := (hm2 w7 B7).block (w' := w7.drew) rfl
    have hb7w : Below N w w7 := hb5w.trans (Joins.below_le B7 (by omega))
    clear B5 hm15 hb6 hb7 hm1 hm2 keepS c0 c1 c2 c3 c4 c5 c6 d0 d1 d2 d3 d4 d5 d6 k1 k2 fx5 fy5 hF15 hF2 hb5w B7
    obtain ⟨k1, k2, c0, c1, c2, c3, c4, c5, c6, d0, d1, d2, d3, d4, d5, d6⟩ := hS7
    obtain ⟨bE, hE⟩ : ∃ b, eqF x y = b := ⟨_, rfl⟩
    have heq : ∀ w : World, (binOp .eql 23 (.agg #[.string ⟨x.g.toArray⟩, .int .i64 x.p, .int .i64 x.o, .string ⟨x.m.toArray⟩, .string ⟨x.t.toArray⟩, .int .i32 x.st, .bool x.fc]) (.agg #[.string ⟨y.g.toArray⟩, .int .i64 y.p, .int .i64 y.o, .string ⟨y.m.toArray⟩, .string ⟨y.t.toArray⟩, .int .i32 y.st, .bool y.fc])).run Tryd.prog w = .ok (.bool bE) w := fun w => by
      rw [← hE]; exact struct_eq x y w
    have hse := sameExt_eq x y w7.drew M1 M2 hm17 hm27 bE hE
    clear hE hm17 hm27
    have hgd : Tryd.prog.eqGuardType Tryd.prog.depth 23 = false := by kernel_rfl
    go_wp2_with fail
    go_region_held3 (fun W => W.cell? ⟨F1, 6, none⟩ = some (.map (some M1)) ∧ W.cell? ⟨F2, 6, none⟩ = some (.map (some M2)) ∧ W.cell? ⟨N, 0, none⟩ = some (.string ⟨x.g.toArray⟩) ∧ W.cell? ⟨N, 1, none⟩ = some (.int .i64 x.p) ∧ W.cell? ⟨N, 2, none⟩ = some (.int .i64 x.o) ∧ W.cell? ⟨N, 3, none⟩ = some (.string ⟨x.m.toArray⟩) ∧ W.cell? ⟨N, 4, none⟩ = some (.string ⟨x.t.toArray⟩) ∧ W.cell? ⟨N, 5, none⟩ = some (.int .i32 x.st) ∧ W.cell? ⟨N, 6, none⟩ = some (.bool x.fc) ∧ W.cell? ⟨N + 1, 0, none⟩ = some (.string ⟨y.g.toArray⟩) ∧ W.cell? ⟨N + 1, 1, none⟩ = some (.int .i64 y.p) ∧ W.cell? ⟨N + 1, 2, none⟩ = some (.int .i64 y.o) ∧ W.cell? ⟨N + 1, 3, none⟩ = some (.string ⟨y.m.toArray⟩) ∧ W.cell? ⟨N + 1, 4, none⟩ = some (.string ⟨y.t.toArray⟩) ∧ W.cell? ⟨N + 1, 5, none⟩ = some (.int .i32 y.st) ∧ W.cell? ⟨N + 1, 6, none⟩ = some (.bool y.fc)) (go_keep) ((go_at_call 10; refine hse.mono ?_; rintro e wf ⟨rfl, rfl⟩))
    go_wp2
    go_ret
    exact ⟨by first | rfl | simp, by first | exact hb7w.drew | exact hb7w⟩
end Go.Proofs.Qxb6626205aDoor
