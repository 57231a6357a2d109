/-
  Seat b6625867a: the slices that came in, opened into what the walks ask ('FView', 'IView').
-/
import Derived.Test.Qxb6625867aJoin
import Derived.ProofKit
import Derived.ChangeOld
import Derived.Below
import Derived.OpenShut
import Derived.Deep.Strs
namespace Go.Proofs.Qxb6625867a
open Go.ChangeShapes Go.WideShapes Go.ChangeAt Go.RowKit

theorem Try.own : ownKnob Try.prog.godebug = none := by kernel_rfl
theorem Try.laidOut : laidOutB Try.prog = true := by kernel_rfl
theorem Try.cells33 : Try.prog.cellsOf 33 = 1 := by kernel_rfl
theorem Try.cells9 : Try.prog.cellsOf 9 = 1 := by kernel_rfl
theorem Try.cells3 : Try.prog.cellsOf 3 = 1 := by kernel_rfl
theorem Try.cells47 : Try.prog.cellsOf 47 = 1 := by kernel_rfl

/-- A slice of strings in a cell. -/
theorem open_row {H : Type} {enc : TypeId × Value → H} {W : World} {base fuel : Nat} {v : Value} {x : DataW H × List MemPlace}
    (h : DataW.trod enc Try.prog W base (fun _ => true) true fuel 33 [v] = some x) : ∃ r : Rw, v = .slice r.1 r.2.2.length r.2.1 ∧ PView W r.1 r.2.2 ∧ r.2.2.length ≤ maxLen := by
  rcases Deep.open_strs Try.underlying33 Try.underlying9 Try.cells9 h with ⟨hcs, _⟩ | ⟨a, l, c, m, S, hcs, _, hl, hm, hmm, _, hx⟩
  · simp at hcs
    exact ⟨(none, 0, []), by simpa using hcs, fun k hk => by simp at hk, Nat.zero_le _⟩
  · simp at hcs
    simp at hmm
    subst hmm
    refine ⟨(some a, m, (List.range l).map S), by simpa using hcs, fun k hk => ?_, by simp; omega⟩
    have hk' : k < l := by simpa using hk
    have c0 := (hx k (by omega)).1
    obtain ⟨b, off, spot⟩ := a
    have hspot : spot = none := by simpa [Addr.add] using World.cell?_spot (hx 0 (by omega)).1
    subst hspot
    rw [add_plain] at c0
    have hlt := World.block_lt_of_cell? W _ c0
    exact ⟨b, off, rfl, hlt, by simpa using c0⟩

theorem open_filters {H : Type} {enc : TypeId × Value → H} {W : World} {ao : Option Addr} {len cap : Nat} {d : DataW H} {p : List MemPlace}
    (h : DataW.Trod enc Try.prog W 0 (fun _ => true) true 22 (.slice ao len cap) d p) : len ≤ cap ∧ cap ≤ maxLen ∧ (ao = none → cap = 0) ∧ ∃ fs : List Rw, fs.length = len ∧ FView W ao fs := by
  obtain ⟨fuel, hf⟩ := h
  rcases Deep.open_slice1 Try.underlying22 Try.cells33 hf with ⟨hcs, _⟩ | ⟨a, l, c, m, n, V, D, Pl, hcs, _, hl, hm, hmm, _, hx⟩
  · simp [Value.cells] at hcs
    obtain ⟨rfl, rfl, rfl⟩ := hcs
    exact ⟨Nat.le_refl _, Nat.zero_le _, fun _ => rfl, [], rfl, fun k hk => by simp at hk⟩
  · simp [Value.cells] at hcs
    obtain ⟨rfl, rfl, rfl⟩ := hcs
    simp at hmm
    subst hmm
    obtain ⟨Q, hQ⟩ := Deep.choose_lt (α := Rw) (n := len) (p := fun i r => V i = .slice r.1 r.2.2.length r.2.1 ∧ PView W r.1 r.2.2 ∧ r.2.2.length ≤ maxLen) (fun i hi => open_row (hx i (by omega)).2)
    refine ⟨hl, hm, (fun h => by cases h), (List.range len).map Q, by simp, fun k hk => ?_⟩
    have hk' : k < len := by simpa using hk
    have c0 := (hx k (by omega)).1
    obtain ⟨q0, q1, q2⟩ := hQ k hk'
    rw [q0] at c0
    obtain ⟨b, off, spot⟩ := a
    have hspot : spot = none := by simpa [Addr.add] using World.cell?_spot (hx 0 (by omega)).1
    subst hspot
    rw [add_plain] at c0
    have hlt := World.block_lt_of_cell? W _ c0
    exact ⟨b, off, rfl, hlt, by simpa using c0, by simpa using q1, by simpa using q2⟩

theorem open_nums {H : Type} {enc : TypeId × Value → H} {W : World} {t e : TypeId} {kd : IntKind} (ht : Try.prog.underlying t = some (.slice e)) (he : Try.prog.underlying e = some (.int kd)) (hc : Try.prog.cellsOf e = 1) {ao : Option Addr} {len cap : Nat} {d : DataW H} {p : List MemPlace}
    (h : DataW.Trod enc Try.prog W 0 (fun _ => true) true t (.slice ao len cap) d p) : len ≤ cap ∧ cap ≤ maxLen ∧ (ao = none → cap = 0) ∧ ∃ zs : List Int, zs.length = len ∧ IView kd W ao zs := by
  obtain ⟨fuel, hf⟩ := h
  rcases open_ints ht he hc hf with ⟨hcs, _⟩ | ⟨a, l, c, zs, hcs, _, hl, hm, hz, _, hcell, _⟩
  · simp [Value.cells] at hcs
    obtain ⟨rfl, rfl, rfl⟩ := hcs
    exact ⟨Nat.le_refl _, Nat.zero_le _, fun _ => rfl, [], rfl, fun k hk => by simp at hk⟩
  · simp [Value.cells] at hcs
    obtain ⟨rfl, rfl, rfl⟩ := hcs
    simp only [if_true] at hz
    refine ⟨hl, hm, (fun h => by cases h), zs.take len, by simp; omega, fun k hk => ?_⟩
    have hk' : k < len := by simp at hk; omega
    have hkz : k < zs.length := by omega
    have c0 := hcell k hkz
    obtain ⟨b, off, spot⟩ := a
    have hspot : spot = none := by simpa [Addr.add] using World.cell?_spot (hcell 0 (by omega))
    subst hspot
    rw [add_plain] at c0
    have hlt := World.block_lt_of_cell? W _ c0
    refine ⟨b, off, rfl, hlt, ?_⟩
    rw [c0]
    simp [List.getD, hkz]

end Go.Proofs.Qxb6625867a
