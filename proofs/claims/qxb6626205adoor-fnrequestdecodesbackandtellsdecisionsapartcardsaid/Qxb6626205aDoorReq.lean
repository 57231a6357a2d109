/-
  Seat b6626205aD: function 7, 'Decision.Request'.
-/
import Derived.Test.Qxb6626205aDoorMap
import Derived.WalkKit
import Derived.WalkLawsBesides
import Derived.WalkSpells
import Derived.Deep.RegionHeld3
import Derived.Deep.QuietTactic
import Derived.BigQuiet
import Derived.Lib.ItoaLen
namespace Go.Proofs.Qxb6626205aDoor
open Go.RowKit

/-! ### A drawn region by an invariant on what is listed -/
section
variable {P : Program} {ops : Array Oper} {Q : Exit → Act → World → Prop} {md : Region.Mode} {S : World → Prop}

theorem wpAnyH_inv (I : Nat → Array Bool → Act → World → Prop)
    (h : ∀ fuel listed a w, I fuel listed a w → wpAnyH P md ops Q S fuel listed a w ∨
      (fuel ≠ 0 ∧ Region.ready md ops listed ≠ [] ∧ ∀ i ∈ Region.ready md ops listed, wpOp P ops Q i (fun a' w' => S w' ∧ I (fuel - 1) (listed.setIfInBounds i true) a' w') a w)) :
    ∀ fuel listed a w, I fuel listed a w → wpAnyH P md ops Q S fuel listed a w := by
  intro fuel
  induction fuel with
  | zero =>
    intro listed a w hI
    rcases h 0 listed a w hI with h1 | ⟨h1, _⟩
    · exact h1
    · exact absurd rfl h1
  | succ fuel ih =>
    intro listed a w hI
    rcases h (fuel + 1) listed a w hI with h1 | ⟨_, h2, h3⟩
    · exact h1
    · exact ⟨fun h0 => absurd h0 h2, fun i hi => wpOp_mono (fun a' w' hh => ⟨hh.1, ih _ _ _ hh.2⟩) (h3 i hi)⟩
end

/-! ### FormatBool -/
def boolBytes (b : Bool) : Bytes := if b then [116, 114, 117, 101] else [102, 97, 108, 115, 101]

theorem formatBool (b : Bool) (w : World) : Calls Tryd.prog 14 #[.bool b] w fun e w' => e = .returned (.string ⟨(boolBytes b).toArray⟩) ∧ w' = w := by
  go_enter Tryd.func14, Tryd.ntmps14
  go_wp2_with fail
  have h : Calls Tryd.prog 20 #[.bool b] w fun e w' => e = .returned (.string ⟨(boolBytes b).toArray⟩) ∧ w' = w := by
    go_enter Tryd.func20, Tryd.ntmps20
    cases b
    · go_wp2
      go_ret
      exact ⟨rfl, rfl⟩
    · go_wp2
      go_ret
      exact ⟨rfl, rfl⟩
  refine h.mono ?_
  rintro e w' ⟨rfl, rfl⟩
  go_wp2
  go_ret
  exact ⟨rfl, rfl⟩

/-! ### The seven fields -/
structure Fields where
  g : Bytes
  p : Int
  o : Int
  m : Bytes
  t : Bytes
  st : Int
  fc : Bool

def kG : Bytes := [112, 114, 111, 100, 117, 99, 101, 114, 71, 114, 111, 117, 112]
def kP : Bytes := [99, 111, 109, 109, 105, 116, 76, 111, 103, 79, 102, 102, 115, 101, 116]
def kO : Bytes := [116, 114, 97, 110, 83, 116, 97, 116, 101, 84, 97, 98, 108, 101, 79, 102, 102, 115, 101, 116]
def kS : Bytes := [99, 111, 109, 109, 105, 116, 79, 114, 82, 111, 108, 108, 98, 97, 99, 107]
def kF : Bytes := [102, 114, 111, 109, 84, 114, 97, 110, 115, 97, 99, 116, 105, 111, 110, 67, 104, 101, 99, 107]
def kM : Bytes := [109, 115, 103, 73, 100]
def kT : Bytes := [116, 114, 97, 110, 115, 97, 99, 116, 105, 111, 110, 73, 100]

def opt (b : Bool) (v : Bytes) : Option Bytes := if b then some v else none

/-- The lookups of the map in which the fields marked in B have been laid. -/
def look7 (x : Fields) (B : Nat → Bool) (k : Bytes) : Option Bytes :=
  if k = kG then opt (B 3) x.g else if k = kP then opt (B 7) (Lib.itoa x.p) else if k = kO then opt (B 11) (Lib.itoa x.o)
  else if k = kS then opt (B 16) (Lib.itoa x.st) else if k = kF then opt (B 20) (boolBytes x.fc) else if k = kM then opt (B 23) x.m
  else if k = kT then opt (B 26) x.t else none

def upd (B : Nat → Bool) (i : Nat) : Nat → Bool := fun j => if j = i then true else B j

theorem upd_same (B : Nat → Bool) (i : Nat) : upd B i i = true := if_pos rfl
theorem upd_ne (B : Nat → Bool) {i j : Nat} (h : j ≠ i) : upd B i j = B j := if_neg h

def sz7 (B : Nat → Bool) : Nat := (B 3).toNat + (B 7).toNat + (B 11).toNat + (B 16).toNat + (B 20).toNat + (B 23).toNat + (B 26).toNat
def cnt7 (B : Nat → Bool) : Nat := sz7 B + (B 0).toNat + (B 6).toNat + (B 10).toNat + (B 15).toNat + (B 19).toNat

def lit7 (B : Nat → Bool) : Array Bool :=
  #[B 0, true, true, B 3, true, true, B 6, B 7, true, true, B 10, B 11, true, true, true, B 15, B 16, true, true, B 19, B 20, true, true, B 23, true, true, B 26, false, false, false, false, false]

theorem look7_3 (x : Fields) (B : Nat → Bool) : (fun k => if k = kG then some x.g else look7 x B k) = look7 x (upd B 3) := by
  funext k
  by_cases h1 : k = kG
  · subst h1; simp +decide [look7, upd, opt]
  by_cases h2 : k = kP
  · subst h2; simp +decide [look7, upd, opt]
  by_cases h3 : k = kO
  · subst h3; simp +decide [look7, upd, opt]
  by_cases h4 : k = kS
  · subst h4; simp +decide [look7, upd, opt]
  by_cases h5 : k = kF
  · subst h5; simp +decide [look7, upd, opt]
  by_cases h6 : k = kM
  · subst h6; simp +decide [look7, upd, opt]
  by_cases h7 : k = kT
  · subst h7; simp +decide [look7, upd, opt]
  simp only [look7, if_neg h1, if_neg h2, if_neg h3, if_neg h4, if_neg h5, if_neg h6, if_neg h7]
theorem look7_7 (x : Fields) (B : Nat → Bool) : (fun k => if k = kP then some (Lib.itoa x.p) else look7 x B k) = look7 x (upd B 7) := by
  funext k
  by_cases h1 : k = kG
  · subst h1; simp +decide [look7, upd, opt]
  by_cases h2 : k = kP
  · subst h2; simp +decide [look7, upd, opt]
  by_cases h3 : k = kO
  · subst h3; simp +decide [look7, upd, opt]
  by_cases h4 : k = kS
  · subst h4; simp +decide [look7, upd, opt]
  by_cases h5 : k = kF
  · subst h5; simp +decide [look7, upd, opt]
  by_cases h6 : k = kM
  · subst h6; simp +decide [look7, upd, opt]
  by_cases h7 : k = kT
  · subst h7; simp +decide [look7, upd, opt]
  simp only [look7, if_neg h1, if_neg h2, if_neg h3, if_neg h4, if_neg h5, if_neg h6, if_neg h7]
theorem look7_11 (x : Fields) (B : Nat → Bool) : (fun k => if k = kO then some (Lib.itoa x.o) else look7 x B k) = look7 x (upd B 11) := by
  funext k
  by_cases h1 : k = kG
  · subst h1; simp +decide [look7, upd, opt]
  by_cases h2 : k = kP
  · subst h2; simp +decide [look7, upd, opt]
  by_cases h3 : k = kO
  · subst h3; simp +decide [look7, upd, opt]
  by_cases h4 : k = kS
  · subst h4; simp +decide [look7, upd, opt]
  by_cases h5 : k = kF
  · subst h5; simp +decide [look7, upd, opt]
  by_cases h6 : k = kM
  · subst h6; simp +decide [look7, upd, opt]
  by_cases h7 : k = kT
  · subst h7; simp +decide [look7, upd, opt]
  simp only [look7, if_neg h1, if_neg h2, if_neg h3, if_neg h4, if_neg h5, if_neg h6, if_neg h7]
theorem look7_16 (x : Fields) (B : Nat → Bool) : (fun k => if k = kS then some (Lib.itoa x.st) else look7 x B k) = look7 x (upd B 16) := by
  funext k
  by_cases h1 : k = kG
  · subst h1; simp +decide [look7, upd, opt]
  by_cases h2 : k = kP
  · subst h2; simp +decide [look7, upd, opt]
  by_cases h3 : k = kO
  · subst h3; simp +decide [look7, upd, opt]
  by_cases h4 : k = kS
  · subst h4; simp +decide [look7, upd, opt]
  by_cases h5 : k = kF
  · subst h5; simp +decide [look7, upd, opt]
  by_cases h6 : k = kM
  · subst h6; simp +decide [look7, upd, opt]
  by_cases h7 : k = kT
  · subst h7; simp +decide [look7, upd, opt]
  simp only [look7, if_neg h1, if_neg h2, if_neg h3, if_neg h4, if_neg h5, if_neg h6, if_neg h7]
theorem look7_20 (x : Fields) (B : Nat → Bool) : (fun k => if k = kF then some (boolBytes x.fc) else look7 x B k) = look7 x (upd B 20) := by
  funext k
  by_cases h1 : k = kG
  · subst h1; simp +decide [look7, upd, opt]
  by_cases h2 : k = kP
  · subst h2; simp +decide [look7, upd, opt]
  by_cases h3 : k = kO
  · subst h3; simp +decide [look7, upd, opt]
  by_cases h4 : k = kS
  · subst h4; simp +decide [look7, upd, opt]
  by_cases h5 : k = kF
  · subst h5; simp +decide [look7, upd, opt]
  by_cases h6 : k = kM
  · subst h6; simp +decide [look7, upd, opt]
  by_cases h7 : k = kT
  · subst h7; simp +decide [look7, upd, opt]
  simp only [look7, if_neg h1, if_neg h2, if_neg h3, if_neg h4, if_neg h5, if_neg h6, if_neg h7]
theorem look7_23 (x : Fields) (B : Nat → Bool) : (fun k => if k = kM then some x.m else look7 x B k) = look7 x (upd B 23) := by
  funext k
  by_cases h1 : k = kG
  · subst h1; simp +decide [look7, upd, opt]
  by_cases h2 : k = kP
  · subst h2; simp +decide [look7, upd, opt]
  by_cases h3 : k = kO
  · subst h3; simp +decide [look7, upd, opt]
  by_cases h4 : k = kS
  · subst h4; simp +decide [look7, upd, opt]
  by_cases h5 : k = kF
  · subst h5; simp +decide [look7, upd, opt]
  by_cases h6 : k = kM
  · subst h6; simp +decide [look7, upd, opt]
  by_cases h7 : k = kT
  · subst h7; simp +decide [look7, upd, opt]
  simp only [look7, if_neg h1, if_neg h2, if_neg h3, if_neg h4, if_neg h5, if_neg h6, if_neg h7]
theorem look7_26 (x : Fields) (B : Nat → Bool) : (fun k => if k = kT then some x.t else look7 x B k) = look7 x (upd B 26) := by
  funext k
  by_cases h1 : k = kG
  · subst h1; simp +decide [look7, upd, opt]
  by_cases h2 : k = kP
  · subst h2; simp +decide [look7, upd, opt]
  by_cases h3 : k = kO
  · subst h3; simp +decide [look7, upd, opt]
  by_cases h4 : k = kS
  · subst h4; simp +decide [look7, upd, opt]
  by_cases h5 : k = kF
  · subst h5; simp +decide [look7, upd, opt]
  by_cases h6 : k = kM
  · subst h6; simp +decide [look7, upd, opt]
  by_cases h7 : k = kT
  · subst h7; simp +decide [look7, upd, opt]
  simp only [look7, if_neg h1, if_neg h2, if_neg h3, if_neg h4, if_neg h5, if_neg h6, if_neg h7]

/-- all inserts are still out -/
theorem look7_none (x : Fields) (B : Nat → Bool) (h : sz7 B = 0) : look7 x B = fun _ => none := by
  have h3 : B 3 = false := by cases e : B 3 <;> simp [sz7, e] at h ⊢
  have h7 : B 7 = false := by cases e : B 7 <;> simp [sz7, e] at h ⊢
  have h11 : B 11 = false := by cases e : B 11 <;> simp [sz7, e] at h ⊢
  have h16 : B 16 = false := by cases e : B 16 <;> simp [sz7, e] at h ⊢
  have h20 : B 20 = false := by cases e : B 20 <;> simp [sz7, e] at h ⊢
  have h23 : B 23 = false := by cases e : B 23 <;> simp [sz7, e] at h ⊢
  have h26 : B 26 = false := by cases e : B 26 <;> simp [sz7, e] at h ⊢
  funext k
  simp [look7, h3, h7, h11, h16, h20, h23, h26, opt]

end Go.Proofs.Qxb6626205aDoor
