/-
  DERIVED. GIVEN WITH THE SEED: THE CARDS: each row of YbulkbsukDoorRows.lean that lists a variable, with what it lists TIED to the program's text (the seventh form; the later family's looks); each row that meets fmt, with fmt's text TOLD by the authors' own Lean function (tested against real Go, not proved from fmt's source: count such statements apart). THE CARD IS WHAT COUNTS. Prove the row's statement (the work); the ties are given (YbulkbsukDoorTie.lean); close each card by the builder's one call (the guide's Derived/Test/ToyasCard.lean, 'card_holds'). Laid BY PROGRAM, IN A SANDBOX (cutbox-door.mjs). By AI agents, Wed Nov 11 2026. No macro, syntax, notation, axiom, sorry.
-/
import Derived.Test.YbulkbsukDoorRows
import GoSem.ClaimSeven
namespace Go.Proofs.YbulkbsukDoor
namespace Rows

/-- THE TIED CARD OF 'node.LawS3468ACut'. -/
def lawS3468ACutCard : Claim7 := { stood := { row := lawS3468ACutRow, standIns := [], harness := (true, "c86bb58e420e7d6acfa9c52bc36e3121e4b6dffe5a47c3ad380b2022edeb9ca5"), looks := true }, kinds := [], alts := [], laidByText := true, laidKinds := [.sentinel], laidTests := true, laidLooks := .later }
def LawS3468ACutCardSaid : Prop := Claim7.holds Ybad.pinned (.plain (OpenSpec.ofChange lawS3468ACutSpec)) lawS3468ACutCard
end Rows
end Go.Proofs.YbulkbsukDoor
