/-
  No cell of these rows narrows 'for every input' (looked for: loops, veiled, ifaces, maps, wideKeys, modest, calm, conditions, laid).
  DERIVED. THE GIVEN ROWS OF THIS SEAT. 2 by the template 'for every input the law returns true; each argument reads behind the call as it read before'; 0 by the template 'total and deterministic' (their statements: Qxb6625634aTotals.lean).
  GIVEN WITH THE SEED: the statements are not yours to turn. If you find one false, say at which input.
  Laid BY PROGRAM, IN A SANDBOX (cutbox-rows.mjs): the forced cells as the released guide's own fill.sh prints them over the translation 047df248934ab2d7… (all of the seat's roots in one cut). By AI agents, Wed Nov 11 2026. No macro, syntax, notation, axiom, sorry.
-/
import Derived.Test.Qxb6625634aChecked
import GoSem.Claim
import GoSem.ClaimJoined
import GoSem.ClaimMapViews
import Derived.JoinedTies
import Derived.KernelRfl
namespace Go.Proofs.Qxb6625634a
/- THE CELL 'sum', in the pinned program and in every row, IS THE sha256 OF THE DUMP (.gsa) THAT Qxb6625634aProg.lean LOADS. Nothing in Lean hashes anything: it is a label: what it is worth is what the hold of that sum in a sandbox is worth. -/
noncomputable def Try.pinned : Pinned := { name := "qxb6625634a", sum := "047df248934ab2d7f325baae3ffbdca77eb023cee4ce597f8e5761447271e83f", checked := Try.checked }
namespace Rows
def none {H : Type} : Left H := { results := [], args := [] }

/-- 'zzlaws_internal_sqltext_b1.FnUnqualifiedCutIsOr': WHATEVER THE INPUT: true; the input reads as it did. -/
def fnUnqualifiedCutIsOrSpec : ChangeSpec := { name := "fnUnqualifiedCutIsOr", fn := fun _ => fun
  | [d1, d2] => { results := [.lit (.bool true)], args := [d1, d2] }
  | _ => none }
def fnUnqualifiedCutIsOrRow : OpenClaim := { program := "qxb6625634a", sum := "047df248934ab2d7f325baae3ffbdca77eb023cee4ce597f8e5761447271e83f", func := "example.com/steadyplan/steadyplan/zzlaws_internal_sqltext_b1.FnUnqualifiedCutIsOr", spec := "fnUnqualifiedCutIsOr", apart := false }
def FnUnqualifiedCutIsOrSaid : Prop := fnUnqualifiedCutIsOrRow.holds Try.pinned (OpenSpec.ofChange fnUnqualifiedCutIsOrSpec)

/-- ITS FALSE NEIGHBOUR: 'it returns false'. Refute it at one input. -/
def fnUnqualifiedCutIsOrWrong : ChangeSpec := { name := "fnUnqualifiedCutIsOr", fn := fun _ => fun
  | [d1, d2] => { results := [.lit (.bool false)], args := [d1, d2] }
  | _ => none }
def FnUnqualifiedCutIsOrWrongFalsely : Prop := fnUnqualifiedCutIsOrRow.holds Try.pinned (OpenSpec.ofChange fnUnqualifiedCutIsOrWrong)

/-- 'zzlaws_internal_sqltext_b1.FnUnqualifiedInsertOne': WHATEVER THE INPUT: true; the input reads as it did. -/
def fnUnqualifiedInsertOneSpec : ChangeSpec := { name := "fnUnqualifiedInsertOne", fn := fun _ => fun
  | [d1, d2, d3, d4] => { results := [.lit (.bool true)], args := [d1, d2, d3, d4] }
  | _ => none }
def fnUnqualifiedInsertOneRow : OpenClaim := { program := "qxb6625634a", sum := "047df248934ab2d7f325baae3ffbdca77eb023cee4ce597f8e5761447271e83f", func := "example.com/steadyplan/steadyplan/zzlaws_internal_sqltext_b1.FnUnqualifiedInsertOne", spec := "fnUnqualifiedInsertOne", apart := false }
def FnUnqualifiedInsertOneSaid : Prop := fnUnqualifiedInsertOneRow.holds Try.pinned (OpenSpec.ofChange fnUnqualifiedInsertOneSpec)

/-- ITS FALSE NEIGHBOUR: 'it returns false'. Refute it at one input. -/
def fnUnqualifiedInsertOneWrong : ChangeSpec := { name := "fnUnqualifiedInsertOne", fn := fun _ => fun
  | [d1, d2, d3, d4] => { results := [.lit (.bool false)], args := [d1, d2, d3, d4] }
  | _ => none }
def FnUnqualifiedInsertOneWrongFalsely : Prop := fnUnqualifiedInsertOneRow.holds Try.pinned (OpenSpec.ofChange fnUnqualifiedInsertOneWrong)

end Rows
end Go.Proofs.Qxb6625634a
