/-
  Seat b6625816a: the slices that came in, opened into what the walks ask ('View', 'PView').
-/
import Derived.Test.Qxb6625816aServer
import Derived.ProofKit
import Derived.ChangeOld
import Derived.Below
import Derived.OpenShut
import Derived.Deep.Strs
namespace Go.Proofs.Qxb6625816a
open Go.ChangeShapes Go.WideShapes Go.ChangeAt Go.RowKit

theorem Try.own : ownKnob Try.prog.godebug = none := by kernel_rfl
theorem Try.laidOut : laidOutB Try.prog = true := by kernel_rfl
theorem Try.cells37 : Try.prog.cellsOf 37 = 3 := by kernel_rfl
theorem Try.cells9 : Try.prog.cellsOf 9 = 1 := by kernel_rfl

theorem open_rows {H : Type} {enc : TypeId × Value → H} {W : World} {ao : Option Addr} {len cap : Nat} {d : DataW H} {p : List MemPlace}
    (h : DataW.Trod enc Try.prog W 0 (fun _ => true) true 22 (.slice ao len cap) d p) : len ≤ maxLen ∧ ∃ rs : List T3, rs.length = len ∧ View W ao rs := by
  obtain ⟨fuel, hf⟩ := h
  rcases Deep.open_slice Try.underlying22 hf with ⟨hcs, _⟩ | ⟨a, l, c, m, n, D, Pl, hcs, _, hl, hm, hmm, _, hx⟩
  · simp [Value.cells] at hcs
    obtain ⟨rfl, rfl, rfl⟩ := hcs
    exact ⟨Nat.zero_le _, [], rfl, fun k hk => by simp at hk⟩
  · simp [Value.cells] at hcs
    obtain ⟨rfl, rfl, rfl⟩ := hcs
    simp at hmm
    subst hmm
    obtain ⟨Q, hQ⟩ := Deep.choose_lt (α := T3) (n := len) (p := fun i q => W.cell? (a.add (i * 3)) = some (.string q.1) ∧ W.cell? (a.add (i * 3 + 1)) = some (.string q.2.1) ∧ W.cell? (a.add (i * 3 + 2)) = some (.string q.2.2)) (fun i hi => by
      obtain ⟨cs', h1, h2⟩ := hx i (by omega)
      rw [Try.cells37] at h1
      obtain ⟨_, hlen, hcell⟩ := World.cells?_some h1
      obtain ⟨y0, y1, y2, k, _, _, g0, g1, g2⟩ := Deep.trod_struct3 Try.underlying37 h2
      match cs', hlen with
      | [v0, v1, v2], _ =>
        simp [Try.cells9] at g0 g1 g2
        obtain ⟨s0, e0, _, _⟩ := DataW.trod_string Try.underlying9 g0
        obtain ⟨s1, e1, _, _⟩ := DataW.trod_string Try.underlying9 g1
        obtain ⟨s2, e2, _, _⟩ := DataW.trod_string Try.underlying9 g2
        simp at e0 e1 e2
        have c0 := hcell 0 (by omega)
        have c1 := hcell 1 (by omega)
        have c2 := hcell 2 (by omega)
        rw [Deep.add_add] at c0 c1 c2
        refine ⟨(s0, s1, s2), ?_, ?_, ?_⟩
        · simpa [e0] using c0
        · simpa [e1] using c1
        · simpa [e2] using c2)
    refine ⟨by omega, (List.range len).map Q, by simp, fun k hk => ?_⟩
    have hk' : k < len := by simpa using hk
    obtain ⟨c0, c1, c2⟩ := hQ k hk'
    obtain ⟨b, off, spot⟩ := a
    have hlt := World.block_lt_of_cell? W _ c1
    have hspot : spot = none := by simpa [Addr.add] using World.cell?_spot (hQ 0 (by omega)).1
    subst hspot
    rw [add_plain] at c0 c1 c2
    exact ⟨b, off, rfl, by simpa [Addr.add] using hlt, by simpa using c0, by simpa [Nat.add_assoc] using c1, by simpa [Nat.add_assoc] using c2⟩

theorem open_texts {H : Type} {enc : TypeId × Value → H} {W : World} {ao : Option Addr} {len cap : Nat} {d : DataW H} {p : List MemPlace}
    (h : DataW.Trod enc Try.prog W 0 (fun _ => true) true 23 (.slice ao len cap) d p) : len ≤ maxLen ∧ ∃ ps : List ByteArray, ps.length = len ∧ PView W ao ps := by
  obtain ⟨fuel, hf⟩ := h
  rcases Deep.open_strs Try.underlying23 Try.underlying9 Try.cells9 hf with ⟨hcs, _⟩ | ⟨a, l, c, m, S, hcs, _, hl, hm, hmm, _, hx⟩
  · simp [Value.cells] at hcs
    obtain ⟨rfl, rfl, rfl⟩ := hcs
    exact ⟨Nat.zero_le _, [], rfl, fun k hk => by simp at hk⟩
  · simp [Value.cells] at hcs
    obtain ⟨rfl, rfl, rfl⟩ := hcs
    simp at hmm
    subst hmm
    refine ⟨by omega, (List.range len).map S, by simp, fun k hk => ?_⟩
    have hk' : k < len := by simpa using hk
    have c0 := (hx k (by omega)).1
    obtain ⟨b, off, spot⟩ := a
    have hspot : spot = none := by simpa [Addr.add] using World.cell?_spot (hx 0 (by omega)).1
    subst hspot
    rw [add_plain] at c0
    have hlt := World.block_lt_of_cell? W _ c0
    exact ⟨b, off, rfl, hlt, by simpa using c0⟩

end Go.Proofs.Qxb6625816a
