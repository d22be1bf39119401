/-
  LawS3468AExact: THE CONTRACTS: the lock of one goroutine, atomic.Pointer, idle.
-/
import Derived.Test.YbulkbsukAt
import Derived.Test.YbulkbsukProg
import Derived.Defers
namespace Go.Proofs.Ybulkbsuk
open Go Go.RowKit

theorem disable (w : World) : (callFunc 26 #[]).run Yba.prog w = .ok (.value (.tuple #[])) w := run_call_mark0 Yba.func26 (by kernel_rfl) (by kernel_rfl) (by kernel_rfl) .disable (by kernel_rfl) w
theorem enable (w : World) : (callFunc 27 #[]).run Yba.prog w = .ok (.value (.tuple #[])) w := run_call_mark0 Yba.func27 (by kernel_rfl) (by kernel_rfl) (by kernel_rfl) .enable (by kernel_rfl) w
theorem acquire (a : Addr) (w : World) : (callFunc 29 #[.pointer (some a)]).run Yba.prog w = .ok (.value (.tuple #[])) w := run_call_marked Yba.func29 (by kernel_rfl) (by kernel_rfl) (by kernel_rfl) .acquire (by kernel_rfl) a w
theorem releaseMerge (a : Addr) (w : World) : (callFunc 30 #[.pointer (some a)]).run Yba.prog w = .ok (.value (.tuple #[])) w := run_call_marked Yba.func30 (by kernel_rfl) (by kernel_rfl) (by kernel_rfl) .releaseMerge (by kernel_rfl) a w
theorem cas {w : World} {a : Addr} (hc : w.cell? a = some (.int .i32 0)) (hz : w.frozen? a = false) : (callFunc 28 #[.pointer (some a), .int .i32 0, .int .i32 1]).run Yba.prog w = .ok (.value (.bool true)) (w.setCell a (.int .i32 1)) :=
  run_call_cas_hit (P := Yba.prog) Yba.func28 (by kernel_rfl) (by kernel_rfl) (by kernel_rfl) .i32 (by kernel_rfl) hc hz
theorem addm {w : World} {a : Addr} (hc : w.cell? a = some (.int .i32 1)) (hz : w.frozen? a = false) : (callFunc 31 #[.pointer (some a), .int .i32 (-1)]).run Yba.prog w = .ok (.value (.int .i32 0)) (w.setCell a (.int .i32 0)) :=
  run_call_add (P := Yba.prog) Yba.func31 (by kernel_rfl) (by kernel_rfl) (by kernel_rfl) .i32 (by kernel_rfl) (y := -1) (s := 0) hc hz (by simp [go_sem]; rfl)
theorem conv {w : World} {a : Addr} {v : Value} (hc : w.cell? a = some v) : (convert 101 40 (.pointer (some a))).run Yba.prog w = .ok (.pointer (some a)) w :=
  run_convert_to_unsafe (P := Yba.prog) (src := 101) (dst := 40) Yba.underlying101 Yba.underlying40 (by kernel_rfl) hc

set_option maxRecDepth 100000 in
set_option maxHeartbeats 800000 in
/-- '(*sync.Mutex).Lock', the lock free. -/
theorem lock_any (a : Addr) (w : World) (hc : w.cell? a = some (.int .i32 0)) (hz : w.frozen? a = false) :
    Calls Yba.prog 15 #[.pointer (some a)] w fun e w' => e = .returned (.tuple #[]) ∧ w' = w.setCell a (.int .i32 1) := by
  have hd := disable
  have he := enable
  have ha := acquire
  have hcas := cas hc hz
  have h0' : (w.setCell a (.int .i32 1)).cell? a = some (.int .i32 1) := World.cell?_setCell_same _ _ _ hc
  have hcv := conv h0'
  go_enter Yba.func15, Yba.ntmps15
  go_wp2
  refine bodyPost_ret (results_none rfl _ _ _) rfl ?_
  go_wp2
  go_end0
  exact ⟨rfl, rfl⟩

set_option maxRecDepth 100000 in
set_option maxHeartbeats 800000 in
theorem unlock_any (a : Addr) (w : World) (hc : w.cell? a = some (.int .i32 1)) (hz : w.frozen? a = false) :
    Calls Yba.prog 9 #[.pointer (some a)] w fun e w' => e = .returned (.tuple #[]) ∧ w' = w.setCell a (.int .i32 0) := by
  have hd := disable
  have he := enable
  have hr := releaseMerge
  have hcv := conv hc
  have hadd := addm hc hz
  go_enter Yba.func9, Yba.ntmps9
  go_wp2
  go_end0
  go_wp2
  go_end0
  exact ⟨rfl, rfl⟩

set_option maxRecDepth 100000 in
set_option maxHeartbeats 800000 in
theorem unlock_deferred (a : Addr) (u : FrameMode) (w : World) (hc : w.cell? a = some (.int .i32 1)) (hz : w.frozen? a = false) :
    CallsD Yba.prog 9 #[.pointer (some a)] u w fun e u' w' => u' = u ∧ (e = .returned (.tuple #[]) ∧ w' = w.setCell a (.int .i32 0)) := by
  have hd := disable
  have he := enable
  have hr := releaseMerge
  have hcv := conv hc
  have hadd := addm hc hz
  go_enter_d Yba.func9, Yba.ntmps9
  go_wp2
  go_end0
  go_wp2
  go_end0
  exact ⟨rfl, rfl⟩

theorem and5 : bits .and .i32 0 5 = 0 := by decide
theorem or1 : bits .or .i32 0 1 = 1 := by decide
set_option maxRecDepth 100000 in
set_option maxHeartbeats 800000 in
/-- '(*sync.Mutex).TryLock', the lock free. -/
theorem trylock_any (a : Addr) (w : World) (hc : w.cell? a = some (.int .i32 0)) (hz : w.frozen? a = false) :
    Calls Yba.prog 8 #[.pointer (some a)] w fun e w' => e = .returned (.bool true) ∧ w' = w.setCell a (.int .i32 1) := by
  have hd := disable
  have he := enable
  have ha := acquire
  have hcas := cas hc hz
  have h0' : (w.setCell a (.int .i32 1)).cell? a = some (.int .i32 1) := World.cell?_setCell_same _ _ _ hc
  have hcv := conv h0'
  have k1 := and5
  have k2 := or1
  go_enter Yba.func8, Yba.ntmps8
  go_wp2
  go_ret
  exact ⟨rfl, rfl⟩
end Go.Proofs.Ybulkbsuk
