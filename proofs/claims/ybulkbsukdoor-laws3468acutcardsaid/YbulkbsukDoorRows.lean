/-
  NARROWER THAN 'FOR EVERY INPUT', by the rows' own cells (each row's printed sentence says how): LawS3468ACut: ifaces, laid · LawS3468CCapped: calm.
  DERIVED. THE GIVEN ROWS OF THIS SEAT. 3 by the template 'for every input the law returns true; each argument reads behind the call as it read before'; 0 by the template 'total and deterministic' (their statements: YbulkbsukDoorTotals.lean).
  GIVEN WITH THE SEED: the statements are not yours to turn. If you find one false, say at which input.
  Laid BY PROGRAM, IN A SANDBOX (cutbox-rows.mjs): the forced cells as the released guide's own fill.sh prints them over the translation 6e490bd32f660d7e… (all of the seat's roots in one cut). By AI agents, Wed Nov 11 2026. No macro, syntax, notation, axiom, sorry.
-/
import Derived.Test.YbulkbsukDoorChecked
import GoSem.Claim
import GoSem.ClaimJoined
import GoSem.ClaimMapViews
import Derived.JoinedTies
import Derived.KernelRfl
namespace Go.Proofs.YbulkbsukDoor
/- THE CELL 'sum', in the pinned program and in every row, IS THE sha256 OF THE DUMP (.gsa) THAT YbulkbsukDoorProg.lean LOADS. Nothing in Lean hashes anything: it is a label: what it is worth is what the hold of that sum in a sandbox is worth. -/
noncomputable def Ybad.pinned : Pinned := { name := "ybulkbsukdoor", sum := "6e490bd32f660d7ec2c643da4dfa103c38306f60e97ae7fd1ee955244263f6e1", checked := Ybad.checked }
namespace Rows
def none {H : Type} : Left H := { results := [], args := [] }

/- WHAT THE LISTED PACKAGE-LEVEL VARIABLES READ AS WHEN THE CALL BEGINS. Each datum BY PROGRAM (the guide's laid-datum.mjs) off the statement by which the dump's own 'gosem.cut.vars' lays the variable. In a bare row this is a premise. The card (YbulkbsukDoorCards.lean) ties it to the program's text. -/
def laid_example_com_hoarfrost_hoarfrost_internal_node_ErrClosed {H : Type} : DataW H := .iface "*errors.errorString" (.ptr (.agg [.lit (.string [99, 108, 111, 115, 101, 100])]))

/-- 'node.LawS3468ACut': WHATEVER THE INPUT: true; the input reads as it did. -/
def lawS3468ACutSpec : ChangeSpec := { name := "lawS3468ACut", vars := ["example.com/hoarfrost/hoarfrost/internal/node.ErrClosed"], fn := fun _ => fun
  | [d1, d2, d3, g1] => { results := [.lit (.bool true)], args := [d1, d2, d3], vars := [g1] }
  | _ => none }
def lawS3468ACutRow : OpenClaim := { program := "ybulkbsukdoor", sum := "6e490bd32f660d7ec2c643da4dfa103c38306f60e97ae7fd1ee955244263f6e1", func := "example.com/hoarfrost/hoarfrost/internal/node.LawS3468ACut", spec := "lawS3468ACut", inPlace := ["sync/atomic.StorePointer", "(*internal/sync.Mutex).Lock", "internal/race.Disable", "sync/atomic.CompareAndSwapInt32", "internal/race.Enable", "internal/race.Acquire", "(*internal/sync.Mutex).lockSlow", "internal/sync.runtime_canSpin", "internal/sync.runtime_doSpin", "internal/sync.throw", "internal/sync.runtime_nanotime", "internal/sync.runtime_SemacquireMutex", "sync/atomic.AddInt32", "sync/atomic.SwapPointer", "(*internal/sync.Mutex).Unlock", "internal/race.ReleaseMerge", "(*internal/sync.Mutex).unlockSlow", "internal/sync.fatal", "internal/sync.runtime_Semrelease", "sync/atomic.LoadPointer", "(*internal/sync.Mutex).TryLock"], named := ["example.com/hoarfrost/hoarfrost/internal/node.ErrClosed"], ifaces := true, apart := false, laid := [("example.com/hoarfrost/hoarfrost/internal/node.ErrClosed", laid_example_com_hoarfrost_hoarfrost_internal_node_ErrClosed)] }
def LawS3468ACutSaid : Prop := lawS3468ACutRow.holds Ybad.pinned (OpenSpec.ofChange lawS3468ACutSpec)

/-- ITS FALSE NEIGHBOUR: 'it returns false'. Refute it at one input. -/
def lawS3468ACutWrong : ChangeSpec := { name := "lawS3468ACut", vars := ["example.com/hoarfrost/hoarfrost/internal/node.ErrClosed"], fn := fun _ => fun
  | [d1, d2, d3, g1] => { results := [.lit (.bool false)], args := [d1, d2, d3], vars := [g1] }
  | _ => none }
def LawS3468ACutWrongFalsely : Prop := lawS3468ACutRow.holds Ybad.pinned (OpenSpec.ofChange lawS3468ACutWrong)

/-- 'node.LawS3468CLocal': WHATEVER THE INPUT: true; the input reads as it did. -/
def lawS3468CLocalSpec : ChangeSpec := { name := "lawS3468CLocal", fn := fun _ => fun
  | [d1, d2, d3, d4] => { results := [.lit (.bool true)], args := [d1, d2, d3, d4] }
  | _ => none }
def lawS3468CLocalRow : OpenClaim := { program := "ybulkbsukdoor", sum := "6e490bd32f660d7ec2c643da4dfa103c38306f60e97ae7fd1ee955244263f6e1", func := "example.com/hoarfrost/hoarfrost/internal/node.LawS3468CLocal", spec := "lawS3468CLocal", inPlace := ["(*internal/sync.Mutex).Lock", "internal/race.Disable", "sync/atomic.CompareAndSwapInt32", "internal/race.Enable", "internal/race.Acquire", "(*internal/sync.Mutex).lockSlow", "internal/sync.runtime_canSpin", "internal/sync.runtime_doSpin", "internal/sync.throw", "internal/sync.runtime_nanotime", "internal/sync.runtime_SemacquireMutex", "sync/atomic.AddInt32", "(*internal/sync.Mutex).Unlock", "internal/race.ReleaseMerge", "(*internal/sync.Mutex).unlockSlow", "internal/sync.fatal", "internal/sync.runtime_Semrelease", "time.runtimeNow"], named := ["time.Local", "time.startNano"], apart := false }
def LawS3468CLocalSaid : Prop := lawS3468CLocalRow.holds Ybad.pinned (OpenSpec.ofChange lawS3468CLocalSpec)

/-- ITS FALSE NEIGHBOUR: 'it returns false'. Refute it at one input. -/
def lawS3468CLocalWrong : ChangeSpec := { name := "lawS3468CLocal", fn := fun _ => fun
  | [d1, d2, d3, d4] => { results := [.lit (.bool false)], args := [d1, d2, d3, d4] }
  | _ => none }
def LawS3468CLocalWrongFalsely : Prop := lawS3468CLocalRow.holds Ybad.pinned (OpenSpec.ofChange lawS3468CLocalWrong)

/-- 'node.LawS3468CCapped': WHATEVER THE INPUT: true; the input reads as it did. -/
def lawS3468CCappedSpec : ChangeSpec := { name := "lawS3468CCapped", fn := fun _ => fun
  | [d1, d2, d3, d4, d5, d6, d7] => { results := [.lit (.bool true)], args := [d1, d2, d3, d4, d5, d6, d7] }
  | _ => none }
def lawS3468CCappedRow : OpenClaim := { program := "ybulkbsukdoor", sum := "6e490bd32f660d7ec2c643da4dfa103c38306f60e97ae7fd1ee955244263f6e1", func := "example.com/hoarfrost/hoarfrost/internal/node.LawS3468CCapped", spec := "lawS3468CCapped", inPlace := ["(*internal/sync.Mutex).Lock", "internal/race.Disable", "sync/atomic.CompareAndSwapInt32", "internal/race.Enable", "internal/race.Acquire", "(*internal/sync.Mutex).lockSlow", "internal/sync.runtime_canSpin", "internal/sync.runtime_doSpin", "internal/sync.throw", "internal/sync.runtime_nanotime", "internal/sync.runtime_SemacquireMutex", "sync/atomic.AddInt32", "(*internal/sync.Mutex).Unlock", "internal/race.ReleaseMerge", "(*internal/sync.Mutex).unlockSlow", "internal/sync.fatal", "internal/sync.runtime_Semrelease", "time.runtimeNow"], named := ["time.Local", "time.startNano"], apart := false, calm := true, outside := [.timePasses] }
def LawS3468CCappedSaid : Prop := lawS3468CCappedRow.holds Ybad.pinned (OpenSpec.ofChange lawS3468CCappedSpec)

/-- ITS FALSE NEIGHBOUR: 'it returns false'. Refute it at one input. -/
def lawS3468CCappedWrong : ChangeSpec := { name := "lawS3468CCapped", fn := fun _ => fun
  | [d1, d2, d3, d4, d5, d6, d7] => { results := [.lit (.bool false)], args := [d1, d2, d3, d4, d5, d6, d7] }
  | _ => none }
def LawS3468CCappedWrongFalsely : Prop := lawS3468CCappedRow.holds Ybad.pinned (OpenSpec.ofChange lawS3468CCappedWrong)

end Rows
end Go.Proofs.YbulkbsukDoor
