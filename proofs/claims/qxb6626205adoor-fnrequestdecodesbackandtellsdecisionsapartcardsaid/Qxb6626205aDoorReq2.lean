/-
  Seat b6626205aD: function 7, 'Decision.Request': the walk.
-/
import Derived.Test.Qxb6626205aDoorStep
namespace Go.Proofs.Qxb6626205aDoor
open Go.RowKit

abbrev Fields.agg (x : Fields) : Value := .agg #[.string ⟨x.g.toArray⟩, .int .i64 x.p, .int .i64 x.o, .string ⟨x.m.toArray⟩, .string ⟨x.t.toArray⟩, .int .i32 x.st, .bool x.fc]

structure Fields.Ok (x : Fields) : Prop where
  g : x.g.length ≤ 1048576
  m : x.m.length ≤ 1048576
  t : x.t.length ≤ 1048576
  p0 : -9223372036854775808 ≤ x.p
  p1 : x.p ≤ 9223372036854775807
  o0 : -9223372036854775808 ≤ x.o
  o1 : x.o ≤ 9223372036854775807
  s0 : -2147483648 ≤ x.st
  s1 : x.st ≤ 2147483647

/-- the seven cells of the boxed decision -/
def Cells7 (x : Fields) (b : Nat) (w : World) : Prop :=
  w.cell? ⟨b, 0, none⟩ = some (.string ⟨x.g.toArray⟩) ∧ w.cell? ⟨b, 1, none⟩ = some (.int .i64 x.p) ∧ w.cell? ⟨b, 2, none⟩ = some (.int .i64 x.o) ∧
  w.cell? ⟨b, 3, none⟩ = some (.string ⟨x.m.toArray⟩) ∧ w.cell? ⟨b, 4, none⟩ = some (.string ⟨x.t.toArray⟩) ∧ w.cell? ⟨b, 5, none⟩ = some (.int .i32 x.st) ∧ w.cell? ⟨b, 6, none⟩ = some (.bool x.fc)

def frame7 (x : Fields) (b : Nat) (u3 u8 u11 u15 u18 : Value) : Array Value :=
  #[x.agg, .pointer (some ⟨b, 0, none⟩), .pointer none, u3, .pointer (some ⟨b, 0, none⟩), .string ⟨x.g.toArray⟩, .pointer (some ⟨b, 1, none⟩), .int .i64 x.p, u8,
    .pointer (some ⟨b, 2, none⟩), .int .i64 x.o, u11, .pointer (some ⟨b, 5, none⟩), .int .i32 x.st, .int .i64 x.st, u15, .pointer (some ⟨b, 6, none⟩), .bool x.fc, u18,
    .pointer (some ⟨b, 3, none⟩), .string ⟨x.m.toArray⟩, .pointer (some ⟨b, 4, none⟩), .string ⟨x.t.toArray⟩, undef, undef, undef, undef]

theorem cells7_below {x : Fields} {b : Nat} {w w' : World} (h : Cells7 x b w) (hb : Below (b + 1) w w') : Cells7 x b w' := by
  obtain ⟨c0, c1, c2, c3, c4, c5, c6⟩ := h
  refine ⟨?_, ?_, ?_, ?_, ?_, ?_, ?_⟩
  · exact (hb.cell (p := ⟨b, 0, none⟩) (Nat.lt_succ_self _)).trans c0
  · exact (hb.cell (p := ⟨b, 1, none⟩) (Nat.lt_succ_self _)).trans c1
  · exact (hb.cell (p := ⟨b, 2, none⟩) (Nat.lt_succ_self _)).trans c2
  · exact (hb.cell (p := ⟨b, 3, none⟩) (Nat.lt_succ_self _)).trans c3
  · exact (hb.cell (p := ⟨b, 4, none⟩) (Nat.lt_succ_self _)).trans c4
  · exact (hb.cell (p := ⟨b, 5, none⟩) (Nat.lt_succ_self _)).trans c5
  · exact (hb.cell (p := ⟨b, 6, none⟩) (Nat.lt_succ_self _)).trans c6

def MapSt (x : Fields) (B : Nat → Bool) (b : Nat) (u3 : Value) (w : World) : Prop :=
  (B 0 = false ∧ sz7 B = 0) ∨ (B 0 = true ∧ ∃ M, u3 = .map (some M) ∧ b < M ∧ MapIs w M (sz7 B) (look7 x B))

def Inv7 (x : Fields) (b : Nat) (w0 : World) (fuel : Nat) (listed : Array Bool) (a : Act) (w : World) : Prop :=
  ∃ (B : Nat → Bool) (u3 u8 u11 u15 u18 : Value), listed = lit7 B ∧ fuel + cnt7 B = 17 ∧ a = ⟨frame7 x b u3 u8 u11 u15 u18, []⟩ ∧ Below (b + 1) w0 w ∧
    (B 6 = true → u8 = .string ⟨(Lib.itoa x.p).toArray⟩) ∧ (B 10 = true → u11 = .string ⟨(Lib.itoa x.o).toArray⟩) ∧
    (B 15 = true → u15 = .string ⟨(Lib.itoa x.st).toArray⟩) ∧ (B 19 = true → u18 = .string ⟨(boolBytes x.fc).toArray⟩) ∧ MapSt x B b u3 w

section
variable {ops : Array Oper} {md : Region.Mode} {listed : Array Bool} {i : Nat} {o : Oper}
theorem ready_edge (hi : i ∈ Region.ready md ops listed) (ho : ops[i]? = some o) (j : Nat) {e : Edge} (he : o.after[j]? = some e) (hb : Region.binds md e = true) : listed.getD e.on false = true := by
  obtain ⟨_, o', ho', hall⟩ := mem_ready.1 hi
  rw [ho] at ho'
  cases ho'
  exact hall e (Array.mem_of_getElem? he) hb
theorem mem_ready_none (h0 : listed.getD i true = false) (ho : ops[i]? = some o) (ha : o.after = #[]) : Region.ready md ops listed ≠ [] := by
  have : i ∈ Region.ready md ops listed := mem_ready.2 ⟨h0, o, ho, by rw [ha]; simp⟩
  intro h; rw [h] at this; cases this
theorem mem_ready_one {e1 : Edge} (h0 : listed.getD i true = false) (ho : ops[i]? = some o) (ha : o.after = #[e1]) (h1 : listed.getD e1.on false = true) : Region.ready md ops listed ≠ [] := by
  have : i ∈ Region.ready md ops listed := mem_ready.2 ⟨h0, o, ho, by
    rw [ha]; intro e he _
    have : e = e1 := by simpa using he
    subst this; exact h1⟩
  intro h; rw [h] at this; cases this
theorem mem_ready_two {e1 e2 : Edge} (h0 : listed.getD i true = false) (ho : ops[i]? = some o) (ha : o.after = #[e1, e2]) (h1 : listed.getD e1.on false = true) (h2 : listed.getD e2.on false = true) : Region.ready md ops listed ≠ [] := by
  have : i ∈ Region.ready md ops listed := mem_ready.2 ⟨h0, o, ho, by
    rw [ha]; intro e he _
    have : e = e1 ∨ e = e2 := by simpa using he
    rcases this with rfl | rfl
    · exact h1
    · exact h2⟩
  intro h; rw [h] at this; cases this
end

theorem cnt_0 (B : Nat → Bool) (h : B 0 = false) : cnt7 (upd B 0) = cnt7 B + 1 := by
  simp [cnt7, sz7, upd, h]; try omega
theorem cnt_3 (B : Nat → Bool) (h : B 3 = false) : cnt7 (upd B 3) = cnt7 B + 1 := by
  simp [cnt7, sz7, upd, h]; try omega
theorem cnt_6 (B : Nat → Bool) (h : B 6 = false) : cnt7 (upd B 6) = cnt7 B + 1 := by
  simp [cnt7, sz7, upd, h]; try omega
theorem cnt_7 (B : Nat → Bool) (h : B 7 = false) : cnt7 (upd B 7) = cnt7 B + 1 := by
  simp [cnt7, sz7, upd, h]; try omega
theorem cnt_10 (B : Nat → Bool) (h : B 10 = false) : cnt7 (upd B 10) = cnt7 B + 1 := by
  simp [cnt7, sz7, upd, h]; try omega
theorem cnt_11 (B : Nat → Bool) (h : B 11 = false) : cnt7 (upd B 11) = cnt7 B + 1 := by
  simp [cnt7, sz7, upd, h]; try omega
theorem cnt_15 (B : Nat → Bool) (h : B 15 = false) : cnt7 (upd B 15) = cnt7 B + 1 := by
  simp [cnt7, sz7, upd, h]; try omega
theorem cnt_16 (B : Nat → Bool) (h : B 16 = false) : cnt7 (upd B 16) = cnt7 B + 1 := by
  simp [cnt7, sz7, upd, h]; try omega
theorem cnt_19 (B : Nat → Bool) (h : B 19 = false) : cnt7 (upd B 19) = cnt7 B + 1 := by
  simp [cnt7, sz7, upd, h]; try omega
theorem cnt_20 (B : Nat → Bool) (h : B 20 = false) : cnt7 (upd B 20) = cnt7 B + 1 := by
  simp [cnt7, sz7, upd, h]; try omega
theorem cnt_23 (B : Nat → Bool) (h : B 23 = false) : cnt7 (upd B 23) = cnt7 B + 1 := by
  simp [cnt7, sz7, upd, h]; try omega
theorem cnt_26 (B : Nat → Bool) (h : B 26 = false) : cnt7 (upd B 26) = cnt7 B + 1 := by
  simp [cnt7, sz7, upd, h]; try omega
theorem size_0 (B : Nat → Bool) : sz7 (upd B 0) = sz7 B := by
  simp [sz7, upd]
theorem size_3 (B : Nat → Bool) (h : B 3 = false) : sz7 (upd B 3) = sz7 B + 1 := by
  simp [sz7, upd, h]; try omega
theorem size_6 (B : Nat → Bool) : sz7 (upd B 6) = sz7 B := by
  simp [sz7, upd]
theorem size_7 (B : Nat → Bool) (h : B 7 = false) : sz7 (upd B 7) = sz7 B + 1 := by
  simp [sz7, upd, h]; try omega
theorem size_10 (B : Nat → Bool) : sz7 (upd B 10) = sz7 B := by
  simp [sz7, upd]
theorem size_11 (B : Nat → Bool) (h : B 11 = false) : sz7 (upd B 11) = sz7 B + 1 := by
  simp [sz7, upd, h]; try omega
theorem size_15 (B : Nat → Bool) : sz7 (upd B 15) = sz7 B := by
  simp [sz7, upd]
theorem size_16 (B : Nat → Bool) (h : B 16 = false) : sz7 (upd B 16) = sz7 B + 1 := by
  simp [sz7, upd, h]; try omega
theorem size_19 (B : Nat → Bool) : sz7 (upd B 19) = sz7 B := by
  simp [sz7, upd]
theorem size_20 (B : Nat → Bool) (h : B 20 = false) : sz7 (upd B 20) = sz7 B + 1 := by
  simp [sz7, upd, h]; try omega
theorem size_23 (B : Nat → Bool) (h : B 23 = false) : sz7 (upd B 23) = sz7 B + 1 := by
  simp [sz7, upd, h]; try omega
theorem size_26 (B : Nat → Bool) (h : B 26 = false) : sz7 (upd B 26) = sz7 B + 1 := by
  simp [sz7, upd, h]; try omega
theorem look_6 (x : Fields) (B : Nat → Bool) : look7 x (upd B 6) = look7 x B := by
  funext k; simp [look7, upd]
theorem look_10 (x : Fields) (B : Nat → Bool) : look7 x (upd B 10) = look7 x B := by
  funext k; simp [look7, upd]
theorem look_15 (x : Fields) (B : Nat → Bool) : look7 x (upd B 15) = look7 x B := by
  funext k; simp [look7, upd]
theorem look_19 (x : Fields) (B : Nat → Bool) : look7 x (upd B 19) = look7 x B := by
  funext k; simp [look7, upd]
theorem look_0 (x : Fields) (B : Nat → Bool) : look7 x (upd B 0) = look7 x B := by
  funext k; simp [look7, upd]
theorem all_of_cnt (B : Nat → Bool) (h : cnt7 B = 12) : B 0 = true ∧ B 3 = true ∧ B 6 = true ∧ B 7 = true ∧ B 10 = true ∧ B 11 = true ∧ B 15 = true ∧ B 16 = true ∧ B 19 = true ∧ B 20 = true ∧ B 23 = true ∧ B 26 = true := by
  have hb : ∀ b : Bool, b.toNat ≤ 1 := fun b => by cases b <;> decide
  have ht : ∀ b : Bool, b.toNat = 1 → b = true := fun b => by cases b <;> simp
  have l0 := hb (B 0)
  have l3 := hb (B 3)
  have l6 := hb (B 6)
  have l7 := hb (B 7)
  have l10 := hb (B 10)
  have l11 := hb (B 11)
  have l15 := hb (B 15)
  have l16 := hb (B 16)
  have l19 := hb (B 19)
  have l20 := hb (B 20)
  have l23 := hb (B 23)
  have l26 := hb (B 26)
  simp only [cnt7, sz7] at h
  refine ⟨ht _ (by omega), ht _ (by omega), ht _ (by omega), ht _ (by omega), ht _ (by omega), ht _ (by omega), ht _ (by omega), ht _ (by omega), ht _ (by omega), ht _ (by omega), ht _ (by omega), ht _ (by omega)⟩
end Go.Proofs.Qxb6626205aDoor
