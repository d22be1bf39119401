/-
  No cell of these rows narrows 'for every input' (looked for: loops, veiled, ifaces, maps, wideKeys, modest, calm, conditions, laid).
  DERIVED. THE GIVEN ROWS OF THIS SEAT. 2 by the template 'for every input the law returns true; each argument reads behind the call as it read before'; 0 by the template 'total and deterministic' (their statements: YbulkbswaTotals.lean).
  GIVEN WITH THE SEED: the statements are not yours to turn. If you find one false, say at which input.
  Laid BY PROGRAM, IN A SANDBOX (cutbox-rows.mjs): the forced cells as the released guide's own fill.sh prints them over the translation fe6e2dc628692712… (all of the seat's roots in one cut). By AI agents, Wed Nov 11 2026. No macro, syntax, notation, axiom, sorry.
-/
import Derived.Test.YbulkbswaChecked
import GoSem.Claim
import GoSem.ClaimJoined
import GoSem.ClaimMapViews
import Derived.JoinedTies
import Derived.KernelRfl
namespace Go.Proofs.Ybulkbswa
/- THE CELL 'sum', in the pinned program and in every row, IS THE sha256 OF THE DUMP (.gsa) THAT YbulkbswaProg.lean LOADS. Nothing in Lean hashes anything: it is a label: what it is worth is what the hold of that sum in a sandbox is worth. -/
noncomputable def Yba.pinned : Pinned := { name := "ybulkbswa", sum := "fe6e2dc6286927126b9101e4c0878c91b6387222044971238b35365d26999ffe", checked := Yba.checked }
namespace Rows
def none {H : Type} : Left H := { results := [], args := [] }

/-- 'calendar.LawS3471AExact': WHATEVER THE INPUT: true; the input reads as it did. -/
def lawS3471AExactSpec : ChangeSpec := { name := "lawS3471AExact", fn := fun _ => fun
  | [d1, d2, d3, d4, d5, d6, d7, d8] => { results := [.lit (.bool true)], args := [d1, d2, d3, d4, d5, d6, d7, d8] }
  | _ => none }
def lawS3471AExactRow : OpenClaim := { program := "ybulkbswa", sum := "fe6e2dc6286927126b9101e4c0878c91b6387222044971238b35365d26999ffe", func := "example.com/kindred-ledger/kindred-ledger/pkg/calendar.LawS3471AExact", spec := "lawS3471AExact", apart := false }
def LawS3471AExactSaid : Prop := lawS3471AExactRow.holds Yba.pinned (OpenSpec.ofChange lawS3471AExactSpec)

/-- ITS FALSE NEIGHBOUR: 'it returns false'. Refute it at one input. -/
def lawS3471AExactWrong : ChangeSpec := { name := "lawS3471AExact", fn := fun _ => fun
  | [d1, d2, d3, d4, d5, d6, d7, d8] => { results := [.lit (.bool false)], args := [d1, d2, d3, d4, d5, d6, d7, d8] }
  | _ => none }
def LawS3471AExactWrongFalsely : Prop := lawS3471AExactRow.holds Yba.pinned (OpenSpec.ofChange lawS3471AExactWrong)

/-- 'calendar.LawS3471ANarrow': WHATEVER THE INPUT: true; the input reads as it did. -/
def lawS3471ANarrowSpec : ChangeSpec := { name := "lawS3471ANarrow", fn := fun _ => fun
  | [d1, d2, d3, d4, d5] => { results := [.lit (.bool true)], args := [d1, d2, d3, d4, d5] }
  | _ => none }
def lawS3471ANarrowRow : OpenClaim := { program := "ybulkbswa", sum := "fe6e2dc6286927126b9101e4c0878c91b6387222044971238b35365d26999ffe", func := "example.com/kindred-ledger/kindred-ledger/pkg/calendar.LawS3471ANarrow", spec := "lawS3471ANarrow", apart := false }
def LawS3471ANarrowSaid : Prop := lawS3471ANarrowRow.holds Yba.pinned (OpenSpec.ofChange lawS3471ANarrowSpec)

/-- ITS FALSE NEIGHBOUR: 'it returns false'. Refute it at one input. -/
def lawS3471ANarrowWrong : ChangeSpec := { name := "lawS3471ANarrow", fn := fun _ => fun
  | [d1, d2, d3, d4, d5] => { results := [.lit (.bool false)], args := [d1, d2, d3, d4, d5] }
  | _ => none }
def LawS3471ANarrowWrongFalsely : Prop := lawS3471ANarrowRow.holds Yba.pinned (OpenSpec.ofChange lawS3471ANarrowWrong)

end Rows
end Go.Proofs.Ybulkbswa
