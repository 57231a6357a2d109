/-
  No cell of these rows narrows 'for every input' (looked for: loops, veiled, ifaces, maps, wideKeys, modest, calm, conditions, laid).
  DERIVED. THE GIVEN ROWS OF THIS SEAT. 2 by the template 'for every input the law returns true; each argument reads behind the call as it read before'; 0 by the template 'total and deterministic' (their statements: Qxb6625867aTotals.lean).
  GIVEN WITH THE SEED: the statements are not yours to turn. If you find one false, say at which input.
  Laid BY PROGRAM, IN A SANDBOX (cutbox-rows.mjs): the forced cells as the released guide's own fill.sh prints them over the translation 192d842316a9a7ff… (all of the seat's roots in one cut). By AI agents, Wed Nov 11 2026. No macro, syntax, notation, axiom, sorry.
-/
import Derived.Test.Qxb6625867aChecked
import GoSem.Claim
import GoSem.ClaimJoined
import GoSem.ClaimMapViews
import Derived.JoinedTies
import Derived.KernelRfl
namespace Go.Proofs.Qxb6625867a
/- THE CELL 'sum', in the pinned program and in every row, IS THE sha256 OF THE DUMP (.gsa) THAT Qxb6625867aProg.lean LOADS. Nothing in Lean hashes anything: it is a label: what it is worth is what the hold of that sum in a sandbox is worth. -/
noncomputable def Try.pinned : Pinned := { name := "qxb6625867a", sum := "192d842316a9a7ff5de14dca5f7b3661437eba6bf79b6cb1311a2751c8ad325c", checked := Try.checked }
namespace Rows
def none {H : Type} : Left H := { results := [], args := [] }

/-- 'zzlaws_root_b1.FnEveryFilterJoinAtAnyCut': WHATEVER THE INPUT: true; the input reads as it did. -/
def fnEveryFilterJoinAtAnyCutSpec : ChangeSpec := { name := "fnEveryFilterJoinAtAnyCut", fn := fun _ => fun
  | [d1, d2, d3, d4, d5] => { results := [.lit (.bool true)], args := [d1, d2, d3, d4, d5] }
  | _ => none }
def fnEveryFilterJoinAtAnyCutRow : OpenClaim := { program := "qxb6625867a", sum := "192d842316a9a7ff5de14dca5f7b3661437eba6bf79b6cb1311a2751c8ad325c", func := "example.com/submap/submap/zzlaws_root_b1.FnEveryFilterJoinAtAnyCut", spec := "fnEveryFilterJoinAtAnyCut", apart := false }
def FnEveryFilterJoinAtAnyCutSaid : Prop := fnEveryFilterJoinAtAnyCutRow.holds Try.pinned (OpenSpec.ofChange fnEveryFilterJoinAtAnyCutSpec)

/-- ITS FALSE NEIGHBOUR: 'it returns false'. Refute it at one input. -/
def fnEveryFilterJoinAtAnyCutWrong : ChangeSpec := { name := "fnEveryFilterJoinAtAnyCut", fn := fun _ => fun
  | [d1, d2, d3, d4, d5] => { results := [.lit (.bool false)], args := [d1, d2, d3, d4, d5] }
  | _ => none }
def FnEveryFilterJoinAtAnyCutWrongFalsely : Prop := fnEveryFilterJoinAtAnyCutRow.holds Try.pinned (OpenSpec.ofChange fnEveryFilterJoinAtAnyCutWrong)

/-- 'zzlaws_root_b1.FnEveryFilterNumbersEachFilterOnceInFreshSlice': WHATEVER THE INPUT: true; the input reads as it did. -/
def fnEveryFilterNumbersEachFilterOnceInFreshSliceSpec : ChangeSpec := { name := "fnEveryFilterNumbersEachFilterOnceInFreshSlice", fn := fun _ => fun
  | [d1, d2, d3, d4] => { results := [.lit (.bool true)], args := [d1, d2, d3, d4] }
  | _ => none }
def fnEveryFilterNumbersEachFilterOnceInFreshSliceRow : OpenClaim := { program := "qxb6625867a", sum := "192d842316a9a7ff5de14dca5f7b3661437eba6bf79b6cb1311a2751c8ad325c", func := "example.com/submap/submap/zzlaws_root_b1.FnEveryFilterNumbersEachFilterOnceInFreshSlice", spec := "fnEveryFilterNumbersEachFilterOnceInFreshSlice", apart := false }
def FnEveryFilterNumbersEachFilterOnceInFreshSliceSaid : Prop := fnEveryFilterNumbersEachFilterOnceInFreshSliceRow.holds Try.pinned (OpenSpec.ofChange fnEveryFilterNumbersEachFilterOnceInFreshSliceSpec)

/-- ITS FALSE NEIGHBOUR: 'it returns false'. Refute it at one input. -/
def fnEveryFilterNumbersEachFilterOnceInFreshSliceWrong : ChangeSpec := { name := "fnEveryFilterNumbersEachFilterOnceInFreshSlice", fn := fun _ => fun
  | [d1, d2, d3, d4] => { results := [.lit (.bool false)], args := [d1, d2, d3, d4] }
  | _ => none }
def FnEveryFilterNumbersEachFilterOnceInFreshSliceWrongFalsely : Prop := fnEveryFilterNumbersEachFilterOnceInFreshSliceRow.holds Try.pinned (OpenSpec.ofChange fnEveryFilterNumbersEachFilterOnceInFreshSliceWrong)

end Rows
end Go.Proofs.Qxb6625867a
