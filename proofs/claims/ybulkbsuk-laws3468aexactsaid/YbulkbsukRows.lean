/-
  No cell of these rows narrows 'for every input' (looked for: loops, veiled, ifaces, maps, wideKeys, modest, calm, conditions, laid).
  DERIVED. THE GIVEN ROWS OF THIS SEAT. 2 by the template 'for every input the law returns true; each argument reads behind the call as it read before'; 0 by the template 'total and deterministic' (their statements: YbulkbsukTotals.lean).
  GIVEN WITH THE SEED: the statements are not yours to turn. If you find one false, say at which input.
  Laid BY PROGRAM, IN A SANDBOX (cutbox-rows.mjs): the forced cells as the released guide's own fill.sh prints them over the translation d4c552bb20ef5326… (all of the seat's roots in one cut). By AI agents, Wed Nov 11 2026. No macro, syntax, notation, axiom, sorry.
-/
import Derived.Test.YbulkbsukChecked
import GoSem.Claim
import GoSem.ClaimJoined
import GoSem.ClaimMapViews
import Derived.JoinedTies
import Derived.KernelRfl
namespace Go.Proofs.Ybulkbsuk
/- THE CELL 'sum', in the pinned program and in every row, IS THE sha256 OF THE DUMP (.gsa) THAT YbulkbsukProg.lean LOADS. Nothing in Lean hashes anything: it is a label: what it is worth is what the hold of that sum in a sandbox is worth. -/
noncomputable def Yba.pinned : Pinned := { name := "ybulkbsuk", sum := "d4c552bb20ef5326452448f1e670d4eba04c8c255b4782520577dd05298c797e", checked := Yba.checked }
namespace Rows
def none {H : Type} : Left H := { results := [], args := [] }

/-- 'node.LawS3468AExact': WHATEVER THE INPUT: true; the input reads as it did. -/
def lawS3468AExactSpec : ChangeSpec := { name := "lawS3468AExact", fn := fun _ => fun
  | [d1, d2, d3, d4] => { results := [.lit (.bool true)], args := [d1, d2, d3, d4] }
  | _ => none }
def lawS3468AExactRow : OpenClaim := { program := "ybulkbsuk", sum := "d4c552bb20ef5326452448f1e670d4eba04c8c255b4782520577dd05298c797e", func := "example.com/hoarfrost/hoarfrost/internal/node.LawS3468AExact", spec := "lawS3468AExact", inPlace := ["sync/atomic.StorePointer", "(*internal/sync.Mutex).Lock", "internal/race.Disable", "sync/atomic.CompareAndSwapInt32", "internal/race.Enable", "internal/race.Acquire", "(*internal/sync.Mutex).lockSlow", "internal/sync.runtime_canSpin", "internal/sync.runtime_doSpin", "internal/sync.throw", "internal/sync.runtime_nanotime", "internal/sync.runtime_SemacquireMutex", "sync/atomic.AddInt32", "(*internal/sync.Mutex).Unlock", "internal/race.ReleaseMerge", "(*internal/sync.Mutex).unlockSlow", "internal/sync.fatal", "internal/sync.runtime_Semrelease", "sync/atomic.LoadPointer", "(*internal/sync.Mutex).TryLock"], apart := false }
def LawS3468AExactSaid : Prop := lawS3468AExactRow.holds Yba.pinned (OpenSpec.ofChange lawS3468AExactSpec)

/-- ITS FALSE NEIGHBOUR: 'it returns false'. Refute it at one input. -/
def lawS3468AExactWrong : ChangeSpec := { name := "lawS3468AExact", fn := fun _ => fun
  | [d1, d2, d3, d4] => { results := [.lit (.bool false)], args := [d1, d2, d3, d4] }
  | _ => none }
def LawS3468AExactWrongFalsely : Prop := lawS3468AExactRow.holds Yba.pinned (OpenSpec.ofChange lawS3468AExactWrong)

/-- 'store.LawS3468BFields': WHATEVER THE INPUT: true; the input reads as it did. -/
def lawS3468BFieldsSpec : ChangeSpec := { name := "lawS3468BFields", fn := fun _ => fun
  | [d1, d2, d3, d4, d5, d6, d7, d8] => { results := [.lit (.bool true)], args := [d1, d2, d3, d4, d5, d6, d7, d8] }
  | _ => none }
def lawS3468BFieldsRow : OpenClaim := { program := "ybulkbsuk", sum := "d4c552bb20ef5326452448f1e670d4eba04c8c255b4782520577dd05298c797e", func := "example.com/hoarfrost/hoarfrost/internal/store.LawS3468BFields", spec := "lawS3468BFields", apart := false }
def LawS3468BFieldsSaid : Prop := lawS3468BFieldsRow.holds Yba.pinned (OpenSpec.ofChange lawS3468BFieldsSpec)

/-- ITS FALSE NEIGHBOUR: 'it returns false'. Refute it at one input. -/
def lawS3468BFieldsWrong : ChangeSpec := { name := "lawS3468BFields", fn := fun _ => fun
  | [d1, d2, d3, d4, d5, d6, d7, d8] => { results := [.lit (.bool false)], args := [d1, d2, d3, d4, d5, d6, d7, d8] }
  | _ => none }
def LawS3468BFieldsWrongFalsely : Prop := lawS3468BFieldsRow.holds Yba.pinned (OpenSpec.ofChange lawS3468BFieldsWrong)

end Rows
end Go.Proofs.Ybulkbsuk
