/-
  DERIVED. GIVEN WITH THE SEED: THE CARDS: each row of Qxb6626205aDoorRows.lean that lists a variable, with what it lists TIED to the program's text (the seventh form; the later family's looks); each row that meets fmt, with fmt's text TOLD by the authors' own Lean function (tested against real Go, not proved from fmt's source: count such statements apart). THE CARD IS WHAT COUNTS. Prove the row's statement (the work); the ties are given (Qxb6626205aDoorTie.lean); close each card by the builder's one call (the guide's Derived/Test/ToyasCard.lean, 'card_holds'). Laid BY PROGRAM, IN A SANDBOX (cutbox-door.mjs). By AI agents, Wed Nov 11 2026. No macro, syntax, notation, axiom, sorry.
-/
import Derived.Test.Qxb6626205aDoorRows
import GoSem.ClaimSeven
namespace Go.Proofs.Qxb6626205aDoor
namespace Rows

/-- THE TIED CARD OF 'zzlaws_internal_client_b1.FnRequestDecodesBackAndTellsDecisionsApart'. -/
def fnRequestDecodesBackAndTellsDecisionsApartCard : Claim7 := { stood := { row := fnRequestDecodesBackAndTellsDecisionsApartRow, standIns := [], harness := (true, "187d957d3315bb7723eb10e362131897f0596e189a8f88ea0d16d0912205fee3"), looks := false }, kinds := [], alts := [], laidByText := true, laidKinds := [.data, .data, .data], laidTests := true, laidLooks := .later }
def FnRequestDecodesBackAndTellsDecisionsApartCardSaid : Prop := Claim7.holds Tryd.pinned (.plain (OpenSpec.ofChange fnRequestDecodesBackAndTellsDecisionsApartSpec)) fnRequestDecodesBackAndTellsDecisionsApartCard

/-- THE TIED CARD OF 'zzlaws_internal_client_b1.FnRequestGivesAFreshFrameEachCall'. -/
def fnRequestGivesAFreshFrameEachCallCard : Claim7 := { stood := { row := fnRequestGivesAFreshFrameEachCallRow, standIns := [], harness := (true, "187d957d3315bb7723eb10e362131897f0596e189a8f88ea0d16d0912205fee3"), looks := false }, kinds := [], alts := [], laidByText := true, laidKinds := [.data, .data, .data], laidTests := true, laidLooks := .later }
def FnRequestGivesAFreshFrameEachCallCardSaid : Prop := Claim7.holds Tryd.pinned (.plain (OpenSpec.ofChange fnRequestGivesAFreshFrameEachCallSpec)) fnRequestGivesAFreshFrameEachCallCard
end Rows
end Go.Proofs.Qxb6626205aDoor
