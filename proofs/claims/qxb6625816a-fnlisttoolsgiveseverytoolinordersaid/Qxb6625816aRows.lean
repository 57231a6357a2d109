/-
  No cell of these rows narrows 'for every input' (looked for: loops, veiled, ifaces, maps, wideKeys, modest, calm, conditions, laid).
  DERIVED. THE GIVEN ROWS OF THIS SEAT. 2 by the template 'for every input the law returns true; each argument reads behind the call as it read before'; 0 by the template 'total and deterministic' (their statements: Qxb6625816aTotals.lean).
  GIVEN WITH THE SEED: the statements are not yours to turn. If you find one false, say at which input.
  Laid BY PROGRAM, IN A SANDBOX (cutbox-rows.mjs): the forced cells as the released guide's own fill.sh prints them over the translation ac685fb2f638e5c5… (all of the seat's roots in one cut). By AI agents, Wed Nov 11 2026. No macro, syntax, notation, axiom, sorry.
-/
import Derived.Test.Qxb6625816aChecked
import GoSem.Claim
import GoSem.ClaimJoined
import GoSem.ClaimMapViews
import Derived.JoinedTies
import Derived.KernelRfl
namespace Go.Proofs.Qxb6625816a
/- THE CELL 'sum', in the pinned program and in every row, IS THE sha256 OF THE DUMP (.gsa) THAT Qxb6625816aProg.lean LOADS. Nothing in Lean hashes anything: it is a label: what it is worth is what the hold of that sum in a sandbox is worth. -/
noncomputable def Try.pinned : Pinned := { name := "qxb6625816a", sum := "ac685fb2f638e5c5b46d4584b040a16fb98570e63d187b90bcbe8c282dfa59fa", checked := Try.checked }
namespace Rows
def none {H : Type} : Left H := { results := [], args := [] }

/-- 'zzlaws_internal_mcpserver_b1.FnListToolsGivesEveryToolInOrder': WHATEVER THE INPUT: true; the input reads as it did. -/
def fnListToolsGivesEveryToolInOrderSpec : ChangeSpec := { name := "fnListToolsGivesEveryToolInOrder", fn := fun _ => fun
  | [d1, d2, d3, d4, d5] => { results := [.lit (.bool true)], args := [d1, d2, d3, d4, d5] }
  | _ => none }
def fnListToolsGivesEveryToolInOrderRow : OpenClaim := { program := "qxb6625816a", sum := "ac685fb2f638e5c5b46d4584b040a16fb98570e63d187b90bcbe8c282dfa59fa", func := "example.com/soulstack/soulstack/zzlaws_internal_mcpserver_b1.FnListToolsGivesEveryToolInOrder", spec := "fnListToolsGivesEveryToolInOrder", apart := false }
def FnListToolsGivesEveryToolInOrderSaid : Prop := fnListToolsGivesEveryToolInOrderRow.holds Try.pinned (OpenSpec.ofChange fnListToolsGivesEveryToolInOrderSpec)

/-- ITS FALSE NEIGHBOUR: 'it returns false'. Refute it at one input. -/
def fnListToolsGivesEveryToolInOrderWrong : ChangeSpec := { name := "fnListToolsGivesEveryToolInOrder", fn := fun _ => fun
  | [d1, d2, d3, d4, d5] => { results := [.lit (.bool false)], args := [d1, d2, d3, d4, d5] }
  | _ => none }
def FnListToolsGivesEveryToolInOrderWrongFalsely : Prop := fnListToolsGivesEveryToolInOrderRow.holds Try.pinned (OpenSpec.ofChange fnListToolsGivesEveryToolInOrderWrong)

/-- 'zzlaws_internal_mcpserver_b1.FnListToolsSplitsAtAnyCut': WHATEVER THE INPUT: true; the input reads as it did. -/
def fnListToolsSplitsAtAnyCutSpec : ChangeSpec := { name := "fnListToolsSplitsAtAnyCut", fn := fun _ => fun
  | [d1, d2] => { results := [.lit (.bool true)], args := [d1, d2] }
  | _ => none }
def fnListToolsSplitsAtAnyCutRow : OpenClaim := { program := "qxb6625816a", sum := "ac685fb2f638e5c5b46d4584b040a16fb98570e63d187b90bcbe8c282dfa59fa", func := "example.com/soulstack/soulstack/zzlaws_internal_mcpserver_b1.FnListToolsSplitsAtAnyCut", spec := "fnListToolsSplitsAtAnyCut", apart := false }
def FnListToolsSplitsAtAnyCutSaid : Prop := fnListToolsSplitsAtAnyCutRow.holds Try.pinned (OpenSpec.ofChange fnListToolsSplitsAtAnyCutSpec)

/-- ITS FALSE NEIGHBOUR: 'it returns false'. Refute it at one input. -/
def fnListToolsSplitsAtAnyCutWrong : ChangeSpec := { name := "fnListToolsSplitsAtAnyCut", fn := fun _ => fun
  | [d1, d2] => { results := [.lit (.bool false)], args := [d1, d2] }
  | _ => none }
def FnListToolsSplitsAtAnyCutWrongFalsely : Prop := fnListToolsSplitsAtAnyCutRow.holds Try.pinned (OpenSpec.ofChange fnListToolsSplitsAtAnyCutWrong)

end Rows
end Go.Proofs.Qxb6625816a
