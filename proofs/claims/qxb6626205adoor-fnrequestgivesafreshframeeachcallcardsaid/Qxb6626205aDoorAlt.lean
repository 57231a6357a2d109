/-
  Seat b6626205aD: a world in which one frame (block F) and its map (block M) have been altered.
-/
import Derived.Test.Qxb6626205aDoorExt
import Derived.LaidEqlPtr
namespace Go.Proofs.Qxb6626205aDoor
open Go.RowKit Go.ChangeMaps Go.MapKept

theorem world_name {P : Program} {C : Code} {Q : Exit → Act → World → Prop} {a : Act} {W : World} (F : World → Prop) (h : F W) (k : ∀ W', F W' → Code.wp P C Q a W') : Code.wp P C Q a W := k W h

structure Alt (F M n : Nat) (w w' : World) : Prop where
  os : w'.os = w.os
  tape : w'.tape = w.tape
  output : w'.output = w.output
  size : w.heap.size ≤ w'.heap.size
  block : ∀ k, k < w.heap.size → k ≠ F → k ≠ M → w'.heap[k]? = w.heap[k]?
  frame : ∃ cs, w'.heap[F]? = some (.cells cs 35) ∧ cs[6]? = some (.map (some M)) ∧ cs[8]? = some (.slice none 0 0)
  map : MapAny w' M n
  ltF : F < w'.heap.size

theorem cell_of_block {w : World} {F i : Nat} {cs : Array Value} {t : TypeId} (h : w.heap[F]? = some (.cells cs t)) : w.cell? ⟨F, i, none⟩ = cs[i]? := by
  simp only [World.cell?, h]; rfl

theorem alt_start {x : Fields} {N F M : Nat} {w : World} (h : FrameIs x N F M w) : Alt F M 7 w w := by
  obtain ⟨cs, hcs⟩ := h.blk
  refine ⟨rfl, rfl, rfl, Nat.le_refl _, fun _ _ _ _ => rfl, ⟨cs, hcs, ?_, ?_⟩, h.map.any, h.ltF⟩
  · rw [← cell_of_block hcs]; exact h.c6
  · rw [← cell_of_block hcs]; exact h.c8

theorem Alt.set {F M n i : Nat} {w w' : World} (h : Alt F M n w w') (h6 : i ≠ 6) (h8 : i ≠ 8) (hne : F ≠ M) (u : Value) : Alt F M n w (w'.setCell ⟨F, i, none⟩ u) := by
  obtain ⟨cs, hcs, e6, e8⟩ := h.frame
  have hs : (w'.setCell ⟨F, i, none⟩ u).heap.size = w'.heap.size := by simp [World.setCell]
  refine ⟨h.os, h.tape, h.output, by rw [hs]; exact h.size, fun k hk hF hM => (heap_setCell_other w' ⟨F, i, none⟩ k u hF).trans (h.block k hk hF hM), ⟨_, heap_setCell_same w' F i cs 35 u hcs, ?_, ?_⟩,
    h.map.block (heap_setCell_other w' ⟨F, i, none⟩ M u hne.symm), by rw [hs]; exact h.ltF⟩
  · rw [Array.getElem?_setIfInBounds_ne h6]; exact e6
  · rw [Array.getElem?_setIfInBounds_ne h8]; exact e8

theorem Alt.grown {F M n : Nat} {w w' w'' : World} (h : Alt F M n w w') (hg : w'.grownBy w'' none) : Alt F M n w w'' := by
  have hb : ∀ k, k < w'.heap.size → w''.heap[k]? = w'.heap[k]? := fun k hk => hg.block k hk (by simp)
  have hsz := h.size
  obtain ⟨cs, hcs, e⟩ := h.frame
  exact ⟨hg.os.trans h.os, hg.tape.trans h.tape, hg.output.trans h.output, Nat.le_trans h.size hg.size, fun k hk hF hM => (hb k (by omega)).trans (h.block k hk hF hM),
    ⟨cs, (hb F h.ltF).trans hcs, e⟩, h.map.block (hb M h.map.lt), Nat.lt_of_lt_of_le h.ltF hg.size⟩

theorem Alt.alloc {F M n : Nat} {w w' : World} (h : Alt F M n w w') (o : Obj) : Alt F M n w (w'.alloc o) := h.grown (World.grownBy_alloc w' o none)

theorem Alt.drew {F M n : Nat} {w w' : World} (h : Alt F M n w w') : Alt F M n w w'.drew := ⟨h.os, h.tape, h.output, h.size, h.block, h.frame, h.map, h.ltF⟩

/-- behind the alterations of the frame's cells: what is left to know -/
structure AltE (F M n : Nat) (w w' : World) : Prop where
  os : w'.os = w.os
  tape : w'.tape = w.tape
  output : w'.output = w.output
  size : w.heap.size ≤ w'.heap.size
  block : ∀ k, k < w.heap.size → k ≠ F → k ≠ M → w'.heap[k]? = w.heap[k]?
  frame : ∃ cs, w'.heap[F]? = some (.cells cs 35) ∧ cs[6]? = some (.map (some M))
  map : MapAny w' M n
  ltF : F < w'.heap.size

theorem Alt.body {F M n : Nat} {w w' : World} (h : Alt F M n w w') (hne : F ≠ M) (u : Value) : AltE F M n w (w'.setCell ⟨F, 8, none⟩ u) := by
  obtain ⟨cs, hcs, e6, e8⟩ := h.frame
  have hs : (w'.setCell ⟨F, 8, none⟩ u).heap.size = w'.heap.size := by simp [World.setCell]
  refine ⟨h.os, h.tape, h.output, by rw [hs]; exact h.size, fun k hk hF hM => (heap_setCell_other w' ⟨F, 8, none⟩ k u hF).trans (h.block k hk hF hM), ⟨_, heap_setCell_same w' F 8 cs 35 u hcs, ?_⟩,
    h.map.block (heap_setCell_other w' ⟨F, 8, none⟩ M u hne.symm), by rw [hs]; exact h.ltF⟩
  rw [Array.getElem?_setIfInBounds_ne (by decide)]; exact e6

theorem AltE.drew {F M n : Nat} {w w' : World} (h : AltE F M n w w') : AltE F M n w w'.drew := ⟨h.os, h.tape, h.output, h.size, h.block, h.frame, h.map, h.ltF⟩

theorem AltE.turn {F M n m : Nat} {w w' w'' : World} (h : AltE F M n w w') (hne : F ≠ M) (ht : w'.mapTurned w'' M) (hm : MapAny w'' M m) : AltE F M m w w'' := by
  obtain ⟨es, clock, es', clock', hb, rfl⟩ := ht
  obtain ⟨cs, hcs, e⟩ := h.frame
  have hs : (setBlock w' M (.map es' clock')).heap.size = w'.heap.size := by simp [setBlock]
  exact ⟨h.os, h.tape, h.output, by rw [hs]; exact h.size, fun k hk hF hM => (heap_setBlock_other hb _ hM).trans (h.block k hk hF hM), ⟨cs, (heap_setBlock_other hb _ hne).trans hcs, e⟩, hm, by rw [hs]; exact h.ltF⟩

theorem AltE.cell6 {F M n : Nat} {w w' : World} (h : AltE F M n w w') : w'.cell? ⟨F, 6, none⟩ = some (.map (some M)) := by
  obtain ⟨cs, hcs, e⟩ := h.frame
  rw [cell_of_block hcs]; exact e

theorem Alt.cell8 {F M n : Nat} {w w' : World} (h : Alt F M n w w') : w'.cell? ⟨F, 8, none⟩ = some (.slice none 0 0) := by
  obtain ⟨cs, hcs, _, e⟩ := h.frame
  rw [cell_of_block hcs]; exact e

theorem Alt.frozen8 {F M n : Nat} {w w' : World} (h : Alt F M n w w') : w'.frozen? ⟨F, 8, none⟩ = false := by
  obtain ⟨cs, hcs, _, e⟩ := h.frame
  simp only [World.frozen?, hcs]; simp

theorem AltE.cells7 {F M n b : Nat} {x : Fields} {w w' : World} (h : AltE F M n w w') (hc : Cells7 x b w) (hb : b < w.heap.size) (hF : b ≠ F) (hM : b ≠ M) : Cells7 x b w' := by
  obtain ⟨c0, c1, c2, c3, c4, c5, c6⟩ := hc
  have e : ∀ i, w'.cell? ⟨b, i, none⟩ = w.cell? ⟨b, i, none⟩ := fun i => World.cell?_of_block (w := w) (a := ⟨b, i, none⟩) (h.block b hb hF hM)
  exact ⟨(e 0).trans c0, (e 1).trans c1, (e 2).trans c2, (e 3).trans c3, (e 4).trans c4, (e 5).trans c5, (e 6).trans c6⟩

theorem AltE.frameIs {F M n F2 M2 N : Nat} {x : Fields} {w w' : World} (h : AltE F M n w w') (hf : FrameIs x N F2 M2 w) (h1 : F2 ≠ F) (h2 : F2 ≠ M) (h3 : M2 ≠ F) (h4 : M2 ≠ M) : FrameIs x N F2 M2 w' :=
  hf.move (h.block F2 hf.ltF h1 h2) (h.block M2 hf.map.lt h3 h4) h.size

theorem AltE.below {F M n N : Nat} {w w' : World} (h : AltE F M n w w') (hF : N ≤ F) (hM : N ≤ M) (hN : N ≤ w.heap.size) : Below N w w' :=
  ⟨h.os, h.tape, h.output, h.size, fun k hk => h.block k (by omega) (by omega) (by omega)⟩

theorem AltE.blk {F M n : Nat} {w w' : World} (h : AltE F M n w w') : ∃ cs, w'.heap[F]? = some (.cells cs 35) := by
  obtain ⟨cs, hcs, _⟩ := h.frame; exact ⟨cs, hcs⟩

/-! ### pointers to frames, a map against nil, a slice against nil -/
theorem map_some_nil (M : Nat) (w : World) : (binOp .eql 30 (.map (some M)) (.map none)).run Tryd.prog w = .ok (.bool false) w := by kernel_rfl

theorem ptr_ne {A B : Nat} {w : World} (h : A ≠ B) (hA : ∃ cs, w.heap[A]? = some (.cells cs 35)) (hB : ∃ cs, w.heap[B]? = some (.cells cs 35)) :
    (binOp .eql 25 (.pointer (some ⟨A, 0, none⟩)) (.pointer (some ⟨B, 0, none⟩))).run Tryd.prog w = .ok (.bool false) w := by
  obtain ⟨ca, hA⟩ := hA
  obtain ⟨cb, hB⟩ := hB
  have hi : (Tryd.prog.info? 35).map (fun i => i.size) = some 9 := by kernel_rfl
  obtain ⟨j, hj, hj9⟩ := Option.map_eq_some_iff.1 hi
  exact run_eql_ptr_other w Tryd.underlying25 hj (by omega) (fun e => h (by injection e)) hA hB

end Go.Proofs.Qxb6626205aDoor
