/-
  DERIVED. GIVEN WITH THE SEED: THE CARDS: each row of YbulkbsvmDoorRows.lean that lists a variable, with what it lists TIED to the program's text (the seventh form; the later family's looks); each row that meets fmt, with fmt's text TOLD by the authors' own Lean function (tested against real Go, not proved from fmt's source: count such statements apart). THE CARD IS WHAT COUNTS. Prove the row's statement (the work); the ties are given (YbulkbsvmDoorTie.lean); close each card by the builder's one call (the guide's Derived/Test/ToyasCard.lean, 'card_holds'). Laid BY PROGRAM, IN A SANDBOX (cutbox-door.mjs). By AI agents, Wed Nov 11 2026. No macro, syntax, notation, axiom, sorry.
-/
import Derived.Test.YbulkbsvmDoorRows
import GoSem.ClaimSeven
namespace Go.Proofs.YbulkbsvmDoor
namespace Rows

/-- THE TIED CARD OF 'stem.LawS3470BStep4'. -/
def lawS3470BStep4Card : Claim7 := { stood := { row := lawS3470BStep4Row, standIns := [], harness := (true, "a6f1a1ad4c3f9dd1c354cc4ea9f626be174815600fb8a11e64fd4c4e516d9aea"), looks := false }, kinds := [], alts := [], laidByText := true, laidKinds := [.widerDeep], laidTests := true, laidLooks := .later }
def LawS3470BStep4CardSaid : Prop := Claim7.holds Ybad.pinned (.plain (OpenSpec.ofChange lawS3470BStep4Spec)) lawS3470BStep4Card
end Rows
end Go.Proofs.YbulkbsvmDoor
