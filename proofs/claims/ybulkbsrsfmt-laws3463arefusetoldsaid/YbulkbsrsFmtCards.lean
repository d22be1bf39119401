/-
  DERIVED. GIVEN WITH THE SEED: THE CARDS: each row of YbulkbsrsFmtRows.lean that lists a variable, with what it lists TIED to the program's text (the seventh form; the later family's looks); each row that meets fmt, with fmt's text TOLD by the authors' own Lean function (tested against real Go, not proved from fmt's source: count such statements apart). THE CARD IS WHAT COUNTS. Prove the row's statement (the work); the ties are given (YbulkbsrsFmtTie.lean); close each card by the builder's one call (the guide's Derived/Test/ToyasCard.lean, 'card_holds'). Laid BY PROGRAM, IN A SANDBOX (cutbox-door.mjs). By AI agents, Wed Nov 11 2026. No macro, syntax, notation, axiom, sorry.
-/
import Derived.Test.YbulkbsrsFmtRows
import GoSem.ClaimSeven
namespace Go.Proofs.YbulkbsrsFmt
namespace Rows

/-- THE TOLD AND TIED CARD OF 'assent.LawS3463ARoundTrip'. -/
def lawS3463ARoundTripCard : Claim7 := { stood := { row := lawS3463ARoundTripRow, standIns := [], harness := (true, "91d5533f050cac93fba641fba3449cf1c863fd21609a2ad8570c4d42c19e78e3"), looks := true }, told := true, laidByText := true, laidKinds := [.sentinel, .sentinel, .sentinel, .sentinel], laidTests := true, laidLooks := .later, goes := false }
def LawS3463ARoundTripToldSaid : Prop := Claim7.holds Ybaf.pinned (.plain (OpenSpec.ofChange lawS3463ARoundTripSpec)) lawS3463ARoundTripCard
/-- ITS FALSE NEIGHBOUR. Refute it at one input. -/
def LawS3463ARoundTripToldWrongFalsely : Prop := Claim7.holds Ybaf.pinned (.plain (OpenSpec.ofChange lawS3463ARoundTripWrong)) lawS3463ARoundTripCard

/-- THE TOLD AND TIED CARD OF 'assent.LawS3463ATruncated'. -/
def lawS3463ATruncatedCard : Claim7 := { stood := { row := lawS3463ATruncatedRow, standIns := [], harness := (true, "91d5533f050cac93fba641fba3449cf1c863fd21609a2ad8570c4d42c19e78e3"), looks := true }, told := true, laidByText := true, laidKinds := [.sentinel, .sentinel, .sentinel, .sentinel], laidTests := true, laidLooks := .later, goes := false }
def LawS3463ATruncatedToldSaid : Prop := Claim7.holds Ybaf.pinned (.plain (OpenSpec.ofChange lawS3463ATruncatedSpec)) lawS3463ATruncatedCard
/-- ITS FALSE NEIGHBOUR. Refute it at one input. -/
def LawS3463ATruncatedToldWrongFalsely : Prop := Claim7.holds Ybaf.pinned (.plain (OpenSpec.ofChange lawS3463ATruncatedWrong)) lawS3463ATruncatedCard

/-- THE TOLD AND TIED CARD OF 'assent.LawS3463ARefuse'. -/
def lawS3463ARefuseCard : Claim7 := { stood := { row := lawS3463ARefuseRow, standIns := [], harness := (true, "91d5533f050cac93fba641fba3449cf1c863fd21609a2ad8570c4d42c19e78e3"), looks := true }, told := true, laidByText := true, laidKinds := [.sentinel, .sentinel, .sentinel, .sentinel], laidTests := true, laidLooks := .later, goes := false }
def LawS3463ARefuseToldSaid : Prop := Claim7.holds Ybaf.pinned (.plain (OpenSpec.ofChange lawS3463ARefuseSpec)) lawS3463ARefuseCard
/-- ITS FALSE NEIGHBOUR. Refute it at one input. -/
def LawS3463ARefuseToldWrongFalsely : Prop := Claim7.holds Ybaf.pinned (.plain (OpenSpec.ofChange lawS3463ARefuseWrong)) lawS3463ARefuseCard
end Rows
end Go.Proofs.YbulkbsrsFmt
