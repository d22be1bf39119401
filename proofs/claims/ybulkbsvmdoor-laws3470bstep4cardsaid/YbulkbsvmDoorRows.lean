/-
  NARROWER THAN 'FOR EVERY INPUT', by the rows' own cells (each row's printed sentence says how): LawS3470BStep4: laid.
  DERIVED. THE GIVEN ROWS OF THIS SEAT. 1 by the template 'for every input the law returns true; each argument reads behind the call as it read before'; 0 by the template 'total and deterministic' (their statements: YbulkbsvmDoorTotals.lean).
  GIVEN WITH THE SEED: the statements are not yours to turn. If you find one false, say at which input.
  Laid BY PROGRAM, IN A SANDBOX (cutbox-rows.mjs): the forced cells as the released guide's own fill.sh prints them over the translation 9ef6abee950f1205… (all of the seat's roots in one cut). By AI agents, Wed Nov 11 2026. No macro, syntax, notation, axiom, sorry.
-/
import Derived.Test.YbulkbsvmDoorChecked
import GoSem.Claim
import GoSem.ClaimJoined
import GoSem.ClaimMapViews
import Derived.JoinedTies
import Derived.KernelRfl
namespace Go.Proofs.YbulkbsvmDoor
/- THE CELL 'sum', in the pinned program and in every row, IS THE sha256 OF THE DUMP (.gsa) THAT YbulkbsvmDoorProg.lean LOADS. Nothing in Lean hashes anything: it is a label: what it is worth is what the hold of that sum in a sandbox is worth. -/
noncomputable def Ybad.pinned : Pinned := { name := "ybulkbsvmdoor", sum := "9ef6abee950f1205c157596d9a95ac97a2afe8d3dc5345eaabe09aa939c5f270", checked := Ybad.checked }
namespace Rows
def none {H : Type} : Left H := { results := [], args := [] }

/- WHAT THE LISTED PACKAGE-LEVEL VARIABLES READ AS WHEN THE CALL BEGINS. Each datum BY PROGRAM (the guide's laid-datum.mjs) off the statement by which the dump's own 'gosem.cut.vars' lays the variable. In a bare row this is a premise. The card (YbulkbsvmDoorCards.lean) ties it to the program's text. -/
def laid_example_com_rankweave_rankweave_internal_stem_step4Suffixes {H : Type} : DataW H := .slice [.lit (.string [97, 108]), .lit (.string [97, 110, 99, 101]), .lit (.string [101, 110, 99, 101]), .lit (.string [101, 114]), .lit (.string [105, 99]), .lit (.string [97, 98, 108, 101]), .lit (.string [105, 98, 108, 101]), .lit (.string [97, 110, 116]), .lit (.string [101, 109, 101, 110, 116]), .lit (.string [109, 101, 110, 116]), .lit (.string [101, 110, 116]), .lit (.string [105, 115, 109]), .lit (.string [97, 116, 101]), .lit (.string [105, 116, 105]), .lit (.string [111, 117, 115]), .lit (.string [105, 118, 101]), .lit (.string [105, 122, 101]), .lit (.string [105, 111, 110])] []

/-- 'stem.LawS3470BStep4': WHATEVER THE INPUT: true; the input reads as it did. -/
def lawS3470BStep4Spec : ChangeSpec := { name := "lawS3470BStep4", vars := ["example.com/rankweave/rankweave/internal/stem.step4Suffixes"], fn := fun _ => fun
  | [d1, d2, d3, g1] => { results := [.lit (.bool true)], args := [d1, d2, d3], vars := [g1] }
  | _ => none }
def lawS3470BStep4Row : OpenClaim := { program := "ybulkbsvmdoor", sum := "9ef6abee950f1205c157596d9a95ac97a2afe8d3dc5345eaabe09aa939c5f270", func := "example.com/rankweave/rankweave/internal/stem.LawS3470BStep4", spec := "lawS3470BStep4", named := ["example.com/rankweave/rankweave/internal/stem.step4Suffixes"], apart := false, laid := [("example.com/rankweave/rankweave/internal/stem.step4Suffixes", laid_example_com_rankweave_rankweave_internal_stem_step4Suffixes)] }
def LawS3470BStep4Said : Prop := lawS3470BStep4Row.holds Ybad.pinned (OpenSpec.ofChange lawS3470BStep4Spec)

/-- ITS FALSE NEIGHBOUR: 'it returns false'. Refute it at one input. -/
def lawS3470BStep4Wrong : ChangeSpec := { name := "lawS3470BStep4", vars := ["example.com/rankweave/rankweave/internal/stem.step4Suffixes"], fn := fun _ => fun
  | [d1, d2, d3, g1] => { results := [.lit (.bool false)], args := [d1, d2, d3], vars := [g1] }
  | _ => none }
def LawS3470BStep4WrongFalsely : Prop := lawS3470BStep4Row.holds Ybad.pinned (OpenSpec.ofChange lawS3470BStep4Wrong)

end Rows
end Go.Proofs.YbulkbsvmDoor
