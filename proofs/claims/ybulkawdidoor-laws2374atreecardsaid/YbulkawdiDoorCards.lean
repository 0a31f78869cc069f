/-
  DERIVED. GIVEN WITH THE SEED: THE CARDS: each row of YbulkawdiDoorRows.lean that lists a variable, with what it lists TIED to the program's text (the seventh form; the later family's looks); each row that meets fmt, with fmt's text TOLD by the authors' own Lean function (tested against real Go, not proved from fmt's source: count such statements apart). THE CARD IS WHAT COUNTS. Prove the row's statement (the work); the ties are given (YbulkawdiDoorTie.lean); close each card by the builder's one call (the guide's Derived/Test/ToyasCard.lean, 'card_holds'). Laid BY PROGRAM, IN A SANDBOX (cutbox-door.mjs). By AI agents, Wed Nov 11 2026. No macro, syntax, notation, axiom, sorry.
-/
import Derived.Test.YbulkawdiDoorRows
import GoSem.ClaimSeven
namespace Go.Proofs.YbulkawdiDoor
namespace Rows

/-- THE TIED CARD OF 'match.LawS2374ATree'. -/
def lawS2374ATreeCard : Claim7 := { stood := { row := lawS2374ATreeRow, standIns := [], harness := (true, "3782a2becc36b6fb64074ae43059fd7f9efd107853dfe704db87845c1ed04905"), looks := true }, kinds := [], alts := [], laidByText := true, laidKinds := [.data, .data, .data], laidTests := true, laidLooks := .later }
def LawS2374ATreeCardSaid : Prop := Claim7.holds Ybad.pinned (.plain (OpenSpec.ofChange lawS2374ATreeSpec)) lawS2374ATreeCard
end Rows
end Go.Proofs.YbulkawdiDoor
