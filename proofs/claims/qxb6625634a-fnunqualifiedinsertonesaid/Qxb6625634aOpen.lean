/-
  Seat b6625634a: the slice of references that came in, opened into what the walks ask ('View').
-/
import Derived.Test.Qxb6625634aBuild
import Derived.ProofKit
import Derived.ChangeOld
import Derived.Below
import Derived.OpenShut
import Derived.Deep.SlicePairs
namespace Go.Proofs.Qxb6625634a
open Go.ChangeShapes Go.WideShapes Go.ChangeAt Go.RowKit

theorem Try.own : ownKnob Try.prog.godebug = none := by kernel_rfl
theorem Try.laidOut : laidOutB Try.prog = true := by kernel_rfl
theorem Try.cells28 : Try.prog.cellsOf 28 = 2 := by kernel_rfl
theorem Try.cells3 : Try.prog.cellsOf 3 = 1 := by kernel_rfl
theorem Try.cells4 : Try.prog.cellsOf 4 = 1 := by kernel_rfl

theorem open_refs {H : Type} {enc : TypeId × Value → H} {W : World} {ao : Option Addr} {len cap : Nat} {d : DataW H} {p : List MemPlace}
    (h : DataW.Trod enc Try.prog W 0 (fun _ => true) true 22 (.slice ao len cap) d p) : len ≤ maxLen ∧ ∃ rs : List (Int × Bool), rs.length = len ∧ View W ao rs := by
  obtain ⟨fuel, hf⟩ := h
  rcases Deep.open_slice_pairs Try.underlying22 Try.underlying28 Try.cells28 rfl rfl Try.cells3 Try.cells4 hf with ⟨hcs, _⟩ | ⟨a, l, c, m, n, V0, V1, D0, D1, P0, P1, hcs, _, hl, hm, hmm, _, hx⟩
  · simp [Value.cells] at hcs
    obtain ⟨rfl, rfl, rfl⟩ := hcs
    exact ⟨Nat.zero_le _, [], rfl, fun k hk => by simp at hk⟩
  · simp [Value.cells] at hcs
    obtain ⟨rfl, rfl, rfl⟩ := hcs
    simp at hmm
    subst hmm
    obtain ⟨Q, hQ⟩ := Deep.choose_lt (α := Int × Bool) (n := len) (p := fun i q => W.cell? (a.add (i * 2)) = some (.int .i64 q.1) ∧ W.cell? (a.add (i * 2 + 1)) = some (.bool q.2)) (fun i hi => by
      obtain ⟨c0, c1, t0, t1⟩ := hx i (by omega)
      obtain ⟨x, e0, _, _⟩ := DataW.trod_int Try.underlying3 t0
      obtain ⟨q, e1, _⟩ := DataW.trod_bool Try.underlying4 t1
      simp at e0 e1
      exact ⟨(x, q), by rw [c0, e0], by rw [c1, e1]⟩)
    refine ⟨by omega, (List.range len).map Q, by simp, fun k hk => ?_⟩
    have hk' : k < len := by simpa using hk
    obtain ⟨c0, c1⟩ := hQ k hk'
    obtain ⟨b, off, spot⟩ := a
    have hlt := World.block_lt_of_cell? W _ c1
    have hspot : spot = none := by simpa [Addr.add] using World.cell?_spot (hQ 0 (by omega)).1
    subst hspot
    rw [add_plain] at c0 c1
    exact ⟨b, off, rfl, by simpa [Addr.add] using hlt, by simpa using c0, by simpa [Nat.add_assoc] using c1⟩

end Go.Proofs.Qxb6625634a
