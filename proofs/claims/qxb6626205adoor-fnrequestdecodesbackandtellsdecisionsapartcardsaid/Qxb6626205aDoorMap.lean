/-
  Seat b6626205aD: a map of strings by strings that the call itself has made, by its lookups.
-/
import Derived.Test.Qxb6626205aDoorShelf
import Derived.Test.Qxb6626205aDoorRows
import Derived.ProofKit
import Derived.Maps.OwnSet
import Derived.Maps.StringElems
import Derived.Lib.AppendIntMem
import Derived.Lib.SmallJoins
import Derived.Carry
namespace Go.Proofs.Qxb6626205aDoor
open Go.RowKit Go.ChangeMaps Go.MapKept

abbrev Bytes := List UInt8

/-- The map in block M holds n entries, and its lookups are f's. -/
def MapIs (w : World) (M n : Nat) (f : Bytes → Option Bytes) : Prop :=
  ∃ D : DataW Unit, w.ownsMap Tryd.prog 9 (plainElem Tryd.prog 9) M n D ∧ Maps.size D = n ∧
    ∀ k : Bytes, (∀ v, f k = some v → Maps.has D (.string k) = true ∧ ∀ z, D.atKey (.string k) z = .lit (.string v)) ∧ (f k = none → Maps.has D (.string k) = false)

/-- The block is a map, whatever it holds. -/
def MapAny (w : World) (M n : Nat) : Prop := ∃ D : DataW Unit, w.ownsMap Tryd.prog 9 (plainElem Tryd.prog 9) M n D

theorem MapIs.any {w : World} {M n : Nat} {f : Bytes → Option Bytes} (h : MapIs w M n f) : MapAny w M n := by
  obtain ⟨D, h, _⟩ := h; exact ⟨D, h⟩

theorem keyed9 : Maps.Keyed Tryd.prog 9 := Maps.string_keyed Tryd.underlying9

theorem owns_block {w w' : World} {M n : Nat} {D : DataW Unit} (h : w.ownsMap Tryd.prog 9 (plainElem Tryd.prog 9) M n D) (hb : w'.heap[M]? = w.heap[M]?) : w'.ownsMap Tryd.prog 9 (plainElem Tryd.prog 9) M n D := by
  obtain ⟨es, clock, h0, h1⟩ := h
  exact ⟨es, clock, hb.trans h0, h1⟩

theorem MapIs.block {w w' : World} {M n : Nat} {f : Bytes → Option Bytes} (h : MapIs w M n f) (hb : w'.heap[M]? = w.heap[M]?) : MapIs w' M n f := by
  obtain ⟨D, h, h'⟩ := h; exact ⟨D, owns_block h hb, h'⟩
theorem MapAny.block {w w' : World} {M n : Nat} (h : MapAny w M n) (hb : w'.heap[M]? = w.heap[M]?) : MapAny w' M n := by
  obtain ⟨D, h⟩ := h; exact ⟨D, owns_block h hb⟩
theorem MapAny.lt {w : World} {M n : Nat} (h : MapAny w M n) : M < w.heap.size := by obtain ⟨D, h⟩ := h; exact h.lt
theorem MapIs.lt {w : World} {M n : Nat} {f : Bytes → Option Bytes} (h : MapIs w M n f) : M < w.heap.size := h.any.lt

theorem MapIs.below {w w' : World} {M n B : Nat} {f : Bytes → Option Bytes} (h : MapIs w M n f) (hb : Below B w w') (hM : M < B) : MapIs w' M n f := h.block (hb.block M hM)
theorem MapAny.below {w w' : World} {M n B : Nat} (h : MapAny w M n) (hb : Below B w w') (hM : M < B) : MapAny w' M n := h.block (hb.block M hM)

theorem mapIs_made (w : World) : MapIs (w.alloc (.map #[] 0)) w.heap.size 0 (fun _ => none) :=
  ⟨.map [], World.ownsMap_made w _ _ _, rfl, fun _ => ⟨fun _ h => (nomatch h), fun _ => rfl⟩⟩

theorem zero9 (w : World) : (zeroValue 9).run Tryd.prog w = .ok (.string ⟨#[]⟩) w := Tryd.zeroValue9 w

theorem turned_below {w w' : World} {M N : Nat} (h : w.mapTurned w' M) (hN : N ≤ M) : Below N w w' := by
  obtain ⟨es, clock, es', clock', hb, rfl⟩ := h
  exact ⟨rfl, rfl, rfl, by simp [setBlock], fun k hk => heap_setBlock_other hb _ (by omega)⟩

theorem MapIs.put {w : World} {M n : Nat} {f : Bytes → Option Bytes} (h : MapIs w M n f) {k v : Bytes} (hf : f k = none) (hn : n < maxLen) (hk : k.length ≤ maxLen) (hv : v.length ≤ maxLen) :
    ∃ w', (Instr.mapUpdate 30 (.map (some M)) (.string ⟨k.toArray⟩) (.string ⟨v.toArray⟩)).run Tryd.prog w = .ok () w' ∧ MapIs w' M (n + 1) (fun x => if x = k then some v else f x) ∧ w.mapTurned w' M := by
  obtain ⟨D, h, hs, hl⟩ := h
  have hkey : keyOf Tryd.prog 9 (.string ⟨k.toArray⟩) = some (.string k) := WideMaps.keyOf_string_mk (P := Tryd.prog) Tryd.underlying9 (s := ⟨k.toArray⟩) (by simpa [ByteArray.size] using hk)
  have hval : plainElem (H := Unit) Tryd.prog 9 (.string ⟨v.toArray⟩) = some (.lit (.string v), []) := plainElem_string Tryd.underlying9 (s := ⟨v.toArray⟩) (by simpa [ByteArray.size] using hv)
  obtain ⟨w', hrun, ho, ht⟩ := h.store keyed9 Tryd.underlying30 hn hkey hval
  have hK : WideAt.IsKeyLit (.string k) := keyed9.key hkey
  refine ⟨w', hrun, ⟨_, ho, ?_, fun x => ?_⟩, ht⟩
  · rw [Maps.size_put (h.tidy keyed9), (hl k).2 hf, hs]; rfl
  · by_cases hx : x = k
    · subst hx
      simp only [if_true, Option.some.injEq, reduceCtorEq, false_implies, and_true]
      rintro v' rfl
      exact ⟨Maps.has_put_same h.isMap hK _, fun z => Maps.atKey_put_same h.isMap hK _ z⟩
    · have hne : Lit.string x ≠ Lit.string k := fun e => hx (by injection e)
      simp only [if_neg hx]
      refine ⟨fun v' hv' => ?_, fun h0 => ?_⟩
      · obtain ⟨a1, a2⟩ := (hl x).1 v' hv'
        exact ⟨(Maps.has_put_other hne _).trans a1, fun z => (Maps.atKey_put_other hne _ z).trans (a2 z)⟩
      · exact (Maps.has_put_other hne _).trans ((hl x).2 h0)

theorem MapIs.look {w : World} {M n : Nat} {f : Bytes → Option Bytes} (h : MapIs w M n f) {k v : Bytes} (hf : f k = some v) (hk : k.length ≤ maxLen) :
    (Instr.lookup 30 (.map (some M)) (.string ⟨k.toArray⟩) true).run Tryd.prog w = .ok (.tuple #[.string ⟨v.toArray⟩, .bool true]) w := by
  obtain ⟨D, h, hs, hl⟩ := h
  have hkey : keyOf Tryd.prog 9 (.string ⟨k.toArray⟩) = some (.string k) := WideMaps.keyOf_string_mk (P := Tryd.prog) Tryd.underlying9 (s := ⟨k.toArray⟩) (by simpa [ByteArray.size] using hk)
  have hz : plainElem (H := Unit) Tryd.prog 9 (.string ⟨#[]⟩) = some (.lit (.string []), []) := plainElem_string Tryd.underlying9 (s := ⟨#[]⟩) (by simp [ByteArray.size, maxLen])
  obtain ⟨x, ps, hrun, hx⟩ := h.look_ok keyed9 Tryd.underlying30 (zero9 w) hz hkey
  obtain ⟨s, rfl, hz', _⟩ := plainElem_string_inv Tryd.underlying9 hx
  obtain ⟨a1, a2⟩ := (hl k).1 v hf
  rw [a1] at hrun
  rw [a2] at hz'
  have e : s.data.toList = v := by injection hz' with e1; injection e1 with e2; injection e2 with e3; exact e3.symm
  have e' : s = ⟨v.toArray⟩ := by rw [← e]
  rw [hrun, e']

theorem MapIs.len {w : World} {M n : Nat} {f : Bytes → Option Bytes} (h : MapIs w M n f) (ty : TypeId) : (Builtin.len_ #[30] ty #[.map (some M)]).run Tryd.prog w = .ok (.int .i64 n) w := by
  obtain ⟨D, h, hs, _⟩ := h
  rw [h.len Tryd.underlying30, hs]

theorem MapAny.put {w : World} {M n : Nat} (h : MapAny w M n) {k v : Bytes} (hn : n < maxLen) (hk : k.length ≤ maxLen) (hv : v.length ≤ maxLen) :
    ∃ w', (Instr.mapUpdate 30 (.map (some M)) (.string ⟨k.toArray⟩) (.string ⟨v.toArray⟩)).run Tryd.prog w = .ok () w' ∧ MapAny w' M (n + 1) ∧ w.mapTurned w' M := by
  obtain ⟨D, h⟩ := h
  have hkey : keyOf Tryd.prog 9 (.string ⟨k.toArray⟩) = some (.string k) := WideMaps.keyOf_string_mk (P := Tryd.prog) Tryd.underlying9 (s := ⟨k.toArray⟩) (by simpa [ByteArray.size] using hk)
  have hval : plainElem (H := Unit) Tryd.prog 9 (.string ⟨v.toArray⟩) = some (.lit (.string v), []) := plainElem_string Tryd.underlying9 (s := ⟨v.toArray⟩) (by simpa [ByteArray.size] using hv)
  obtain ⟨w', hrun, ho, ht⟩ := h.store keyed9 Tryd.underlying30 hn hkey hval
  exact ⟨w', hrun, ⟨_, ho⟩, ht⟩

theorem MapAny.drop {w : World} {M n : Nat} (h : MapAny w M n) {k : Bytes} (hk : k.length ≤ maxLen) (ty : TypeId) :
    ∃ w', (Builtin.delete_ #[30, 9] ty #[.map (some M), .string ⟨k.toArray⟩]).run Tryd.prog w = .ok (.tuple #[]) w' ∧ MapAny w' M n ∧ w.mapTurned w' M := by
  obtain ⟨D, h⟩ := h
  have hkey : keyOf Tryd.prog 9 (.string ⟨k.toArray⟩) = some (.string k) := WideMaps.keyOf_string_mk (P := Tryd.prog) Tryd.underlying9 (s := ⟨k.toArray⟩) (by simpa [ByteArray.size] using hk)
  obtain ⟨w', hrun, ho, ht⟩ := h.drop keyed9 Tryd.underlying30 hkey ty
  exact ⟨w', hrun, ⟨_, ho⟩, ht⟩

end Go.Proofs.Qxb6626205aDoor
