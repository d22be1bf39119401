/-
  fmt.Errorf AT THE ONE FORMAT THAT THE LAWS COME TO ("frame of round ..": three integers): a new error of errors.New's make, whatever its text. (The closed facts after the guide's CheckFmt.lean.)
-/
import Derived.Test.YbulkbsrsFmtFrame
import Derived.Test.YbulkbsrsFmtChecked
import Derived.Stop.CallBack
import Derived.Stop.IfaceNil
import GoSem.ClaimData
namespace Go.Proofs.YbulkbsrsFmt
open Go.RowKit Go.Extern.Stop Go.Stop Go.Extern

abbrev fmtBad : ByteArray := { data := ([102, 114, 97, 109, 101, 32, 111, 102, 32, 114, 111, 117, 110, 100, 32, 37, 100, 32, 104, 97, 115, 32, 102, 108, 97, 103, 115, 32, 37, 100, 58, 32].append [119, 97, 110, 116, 32, 97, 32, 115, 117, 109, 32, 111, 102, 32, 115, 111, 109, 101, 32, 111, 102, 32, 116, 104, 111, 115, 101, 32, 105, 110, 32, 37, 100]).toArray }
theorem call20 (args : Array Value) (w : World) : (callFunc 20 args).run Ybaf.prog w = ((FmtStop.errorf #[9, 70] #[35] args).run Ybaf.prog w).andThen fun v w' => .ok (.value v) w' :=
  run_callFunc_extern Ybaf.func20 (by kernel_rfl) (by kernel_rfl) (by kernel_rfl) (by kernel_rfl) args w
theorem fguard (name : String) (w : World) : (FmtStop.guard name).run Ybaf.prog w = .ok () w := by kernel_rfl
theorem fmt0 : FmtStop.printed? fmtBad 3 = some [(0, 100, false), (1, 100, false), (2, 100, false)] := by kernel_rfl
theorem fmt0r (w : World) : (FmtDoors.printed fmtBad 3).run Ybaf.prog w = .ok [(0, 100, false), (1, 100, false), (2, 100, false)] w := by kernel_rfl
def shape3 : List UInt8 := [5, 3, 0, 0, 0, 0, 0, 0, 0, 105, 110, 116]
def shape5 : List UInt8 := [6, 5, 0, 0, 0, 0, 0, 0, 0, 117, 105, 110, 116, 56]
theorem op3_100w (name : String) (x : Int) (w : World) : (FmtStop.operand name true 100 false (.iface 3 (.int .i64 x))).run Ybaf.prog w = .ok (shape3, Go.Extern.Stop.digits 8 (x % 2 ^ 64).toNat) w := by kernel_rfl
theorem op5_100w (name : String) (x : Int) (w : World) : (FmtStop.operand name true 100 false (.iface 5 (.int .u8 x))).run Ybaf.prog w = .ok (shape5, Go.Extern.Stop.digits 8 (x % 2 ^ 64).toNat) w := by kernel_rfl
theorem ptr87 (w : World) : (FmtStop.ptrTo "errors.errorString").run Ybaf.prog w = .ok 87 w := by kernel_rfl
theorem elem87 (w : World) : (elemOf 87).run Ybaf.prog w = .ok 89 w := by kernel_rfl

set_option maxHeartbeats 1000000 in
set_option maxRecDepth 100000 in
theorem errorf_any (w : World) (sb : Nat) (x y z : Int) (c0 : w.cell? ⟨sb, 0, none⟩ = some (.iface 3 (.int .i64 x))) (c1 : w.cell? ⟨sb, 1, none⟩ = some (.iface 5 (.int .u8 y))) (c2 : w.cell? ⟨sb, 2, none⟩ = some (.iface 5 (.int .u8 z))) :
    Calls Ybaf.prog 13 #[.string fmtBad, .slice (some ⟨sb, 0, none⟩) 3 3] w fun e w' => ∃ s : ByteArray, e = .returned (err ⟨w.heap.size, 0, none⟩) ∧ w' = (w.alloc (.cells #[.string s] 89)).drew := by
  have k1 := call20
  have k2 := fguard
  have k3 := fmt0
  have k4 := fmt0r
  have k5 := op3_100w
  have k6 := op5_100w
  have k7 := ptr87
  have k8 := elem87
  go_enter Ybaf.func13, Ybaf.ntmps13
  go_wp2
  go_ret
  exact ⟨_, rfl, rfl⟩
end Go.Proofs.YbulkbsrsFmt
