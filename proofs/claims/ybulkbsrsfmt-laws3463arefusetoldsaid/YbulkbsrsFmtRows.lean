/-
  NARROWER THAN 'FOR EVERY INPUT', by the rows' own cells (each row's printed sentence says how): LawS3463ARoundTrip: ifaces, laid · LawS3463ATruncated: ifaces, laid · LawS3463ARefuse: ifaces, laid.
  DERIVED. THE GIVEN ROWS OF THIS SEAT. 3 by the template 'for every input the law returns true; each argument reads behind the call as it read before'; 0 by the template 'total and deterministic' (their statements: YbulkbsrsFmtTotals.lean).
  GIVEN WITH THE SEED: the statements are not yours to turn. If you find one false, say at which input.
  Laid BY PROGRAM, IN A SANDBOX (cutbox-rows.mjs): the forced cells as the released guide's own fill.sh prints them over the translation 4510eb656441f1e8… (all of the seat's roots in one cut). By AI agents, Wed Nov 11 2026. No macro, syntax, notation, axiom, sorry.
-/
import Derived.Test.YbulkbsrsFmtChecked
import GoSem.Claim
import GoSem.ClaimJoined
import GoSem.ClaimMapViews
import Derived.JoinedTies
import Derived.KernelRfl
namespace Go.Proofs.YbulkbsrsFmt
/- THE CELL 'sum', in the pinned program and in every row, IS THE sha256 OF THE DUMP (.gsa) THAT YbulkbsrsFmtProg.lean LOADS. Nothing in Lean hashes anything: it is a label: what it is worth is what the hold of that sum in a sandbox is worth. -/
noncomputable def Ybaf.pinned : Pinned := { name := "ybulkbsrsfmt", sum := "4510eb656441f1e8d85c04d13546de3ab334a163de13833a0a4f558eb8c2d45f", checked := Ybaf.checked }
namespace Rows
def none {H : Type} : Left H := { results := [], args := [] }

/- WHAT THE LISTED PACKAGE-LEVEL VARIABLES READ AS WHEN THE CALL BEGINS. Each datum BY PROGRAM (the guide's laid-datum.mjs) off the statement by which the dump's own 'gosem.cut.vars' lays the variable. In a bare row this is a premise. The card (YbulkbsrsFmtCards.lean) ties it to the program's text. -/
def laid_io_EOF {H : Type} : DataW H := .iface "*errors.errorString" (.ptr (.agg [.lit (.string [69, 79, 70])]))
def laid_io_ErrUnexpectedEOF {H : Type} : DataW H := .iface "*errors.errorString" (.ptr (.agg [.lit (.string [117, 110, 101, 120, 112, 101, 99, 116, 101, 100, 32, 69, 79, 70])]))
def laid_encoding_binary_errOverflow {H : Type} : DataW H := .iface "*errors.errorString" (.ptr (.agg [.lit (.string [98, 105, 110, 97, 114, 121, 58, 32, 118, 97, 114, 105, 110, 116, 32, 111, 118, 101, 114, 102, 108, 111, 119, 115, 32, 97, 32, 54, 52, 45, 98, 105, 116, 32, 105, 110, 116, 101, 103, 101, 114])]))
def laid_example_com_assent_assent_errStopped {H : Type} : DataW H := .iface "*errors.errorString" (.ptr (.agg [.lit (.string [116, 104, 101, 32, 115, 101, 110, 100, 101, 114, 32, 115, 116, 111, 112, 115, 58, 32, 116, 104, 101, 32, 112, 114, 111, 99, 101, 115, 115, 101, 115, 32, 100, 111, 32, 110, 111, 116, 32, 97, 108, 108, 32, 114, 117, 110, 32, 111, 110, 101, 32, 101, 120, 101, 99, 117, 116, 105, 111, 110])]))

/-- 'assent.LawS3463ARoundTrip': WHATEVER THE INPUT: true; the input reads as it did. -/
def lawS3463ARoundTripSpec : ChangeSpec := { name := "lawS3463ARoundTrip", vars := ["example.com/assent/assent.errStopped"], fn := fun _ => fun
  | [d1, d2, d3, d4, d5, d6, g1] => { results := [.lit (.bool true)], args := [d1, d2, d3, d4, d5, d6], vars := [g1] }
  | _ => none }
def lawS3463ARoundTripRow : OpenClaim := { program := "ybulkbsrsfmt", sum := "4510eb656441f1e8d85c04d13546de3ab334a163de13833a0a4f558eb8c2d45f", func := "example.com/assent/assent.LawS3463ARoundTrip", spec := "lawS3463ARoundTrip", stops := ["fmt.errorf"], inPlace := ["fmt.errorf"], unfollowed := true, recurses := true, named := ["example.com/assent/assent.errStopped", "io.EOF", "io.ErrUnexpectedEOF", "encoding/binary.errOverflow"], ifaces := true, apart := false, laid := [("io.EOF", laid_io_EOF), ("io.ErrUnexpectedEOF", laid_io_ErrUnexpectedEOF), ("encoding/binary.errOverflow", laid_encoding_binary_errOverflow), ("example.com/assent/assent.errStopped", laid_example_com_assent_assent_errStopped)] }
/-- NO THEOREM (fmt's text is open here; it may be false): for the released tool's asking of the row's closed facts alone. THE STATEMENT IS 'LawS3463ARoundTripToldSaid' (YbulkbsrsFmtCards.lean). -/
def LawS3463ARoundTripFormAsk : Prop := lawS3463ARoundTripRow.holds Ybaf.pinned (OpenSpec.ofChange lawS3463ARoundTripSpec)

/-- ITS FALSE NEIGHBOUR: 'it returns false'. Refute it at one input. -/
def lawS3463ARoundTripWrong : ChangeSpec := { name := "lawS3463ARoundTrip", vars := ["example.com/assent/assent.errStopped"], fn := fun _ => fun
  | [d1, d2, d3, d4, d5, d6, g1] => { results := [.lit (.bool false)], args := [d1, d2, d3, d4, d5, d6], vars := [g1] }
  | _ => none }
def LawS3463ARoundTripWrongFormAsk : Prop := lawS3463ARoundTripRow.holds Ybaf.pinned (OpenSpec.ofChange lawS3463ARoundTripWrong)

/-- 'assent.LawS3463ATruncated': WHATEVER THE INPUT: true; the input reads as it did. -/
def lawS3463ATruncatedSpec : ChangeSpec := { name := "lawS3463ATruncated", vars := ["example.com/assent/assent.errStopped"], fn := fun _ => fun
  | [d1, d2, d3, d4, d5, d6, d7, g1] => { results := [.lit (.bool true)], args := [d1, d2, d3, d4, d5, d6, d7], vars := [g1] }
  | _ => none }
def lawS3463ATruncatedRow : OpenClaim := { program := "ybulkbsrsfmt", sum := "4510eb656441f1e8d85c04d13546de3ab334a163de13833a0a4f558eb8c2d45f", func := "example.com/assent/assent.LawS3463ATruncated", spec := "lawS3463ATruncated", stops := ["fmt.errorf"], inPlace := ["fmt.errorf", "internal/reflectlite.TypeOf"], unfollowed := true, recurses := true, named := ["io.EOF", "io.ErrUnexpectedEOF", "example.com/assent/assent.errStopped", "encoding/binary.errOverflow"], ifaces := true, apart := false, laid := [("io.EOF", laid_io_EOF), ("io.ErrUnexpectedEOF", laid_io_ErrUnexpectedEOF), ("encoding/binary.errOverflow", laid_encoding_binary_errOverflow), ("example.com/assent/assent.errStopped", laid_example_com_assent_assent_errStopped)] }
/-- NO THEOREM (fmt's text is open here; it may be false): for the released tool's asking of the row's closed facts alone. THE STATEMENT IS 'LawS3463ATruncatedToldSaid' (YbulkbsrsFmtCards.lean). -/
def LawS3463ATruncatedFormAsk : Prop := lawS3463ATruncatedRow.holds Ybaf.pinned (OpenSpec.ofChange lawS3463ATruncatedSpec)

/-- ITS FALSE NEIGHBOUR: 'it returns false'. Refute it at one input. -/
def lawS3463ATruncatedWrong : ChangeSpec := { name := "lawS3463ATruncated", vars := ["example.com/assent/assent.errStopped"], fn := fun _ => fun
  | [d1, d2, d3, d4, d5, d6, d7, g1] => { results := [.lit (.bool false)], args := [d1, d2, d3, d4, d5, d6, d7], vars := [g1] }
  | _ => none }
def LawS3463ATruncatedWrongFormAsk : Prop := lawS3463ATruncatedRow.holds Ybaf.pinned (OpenSpec.ofChange lawS3463ATruncatedWrong)

/-- 'assent.LawS3463ARefuse': WHATEVER THE INPUT: true; the input reads as it did. -/
def lawS3463ARefuseSpec : ChangeSpec := { name := "lawS3463ARefuse", vars := ["example.com/assent/assent.errStopped"], fn := fun _ => fun
  | [d1, d2, d3, g1] => { results := [.lit (.bool true)], args := [d1, d2, d3], vars := [g1] }
  | _ => none }
def lawS3463ARefuseRow : OpenClaim := { program := "ybulkbsrsfmt", sum := "4510eb656441f1e8d85c04d13546de3ab334a163de13833a0a4f558eb8c2d45f", func := "example.com/assent/assent.LawS3463ARefuse", spec := "lawS3463ARefuse", stops := ["fmt.errorf"], inPlace := ["fmt.errorf", "internal/reflectlite.TypeOf"], unfollowed := true, recurses := true, named := ["example.com/assent/assent.errStopped", "io.EOF", "io.ErrUnexpectedEOF", "encoding/binary.errOverflow"], ifaces := true, apart := false, laid := [("io.EOF", laid_io_EOF), ("io.ErrUnexpectedEOF", laid_io_ErrUnexpectedEOF), ("encoding/binary.errOverflow", laid_encoding_binary_errOverflow), ("example.com/assent/assent.errStopped", laid_example_com_assent_assent_errStopped)] }
/-- NO THEOREM (fmt's text is open here; it may be false): for the released tool's asking of the row's closed facts alone. THE STATEMENT IS 'LawS3463ARefuseToldSaid' (YbulkbsrsFmtCards.lean). -/
def LawS3463ARefuseFormAsk : Prop := lawS3463ARefuseRow.holds Ybaf.pinned (OpenSpec.ofChange lawS3463ARefuseSpec)

/-- ITS FALSE NEIGHBOUR: 'it returns false'. Refute it at one input. -/
def lawS3463ARefuseWrong : ChangeSpec := { name := "lawS3463ARefuse", vars := ["example.com/assent/assent.errStopped"], fn := fun _ => fun
  | [d1, d2, d3, g1] => { results := [.lit (.bool false)], args := [d1, d2, d3], vars := [g1] }
  | _ => none }
def LawS3463ARefuseWrongFormAsk : Prop := lawS3463ARefuseRow.holds Ybaf.pinned (OpenSpec.ofChange lawS3463ARefuseWrong)

end Rows
end Go.Proofs.YbulkbsrsFmt
