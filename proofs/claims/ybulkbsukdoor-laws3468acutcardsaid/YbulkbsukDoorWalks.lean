/-
  LawS3468AExact: THE CONTRACTS: the lock of one goroutine, atomic.Pointer, idle.
-/
import Derived.Test.YbulkbsukDoorAt
import Derived.Test.YbulkbsukDoorProg
import Derived.Defers
namespace Go.Proofs.YbulkbsukDoor
open Go Go.RowKit

theorem disable (w : World) : (callFunc 26 #[]).run Ybad.prog w = .ok (.value (.tuple #[])) w := run_call_mark0 Ybad.func26 (by kernel_rfl) (by kernel_rfl) (by kernel_rfl) .disable (by kernel_rfl) w
theorem enable (w : World) : (callFunc 28 #[]).run Ybad.prog w = .ok (.value (.tuple #[])) w := run_call_mark0 Ybad.func28 (by kernel_rfl) (by kernel_rfl) (by kernel_rfl) .enable (by kernel_rfl) w
theorem acquire (a : Addr) (w : World) : (callFunc 29 #[.pointer (some a)]).run Ybad.prog w = .ok (.value (.tuple #[])) w := run_call_marked Ybad.func29 (by kernel_rfl) (by kernel_rfl) (by kernel_rfl) .acquire (by kernel_rfl) a w
theorem releaseMerge (a : Addr) (w : World) : (callFunc 32 #[.pointer (some a)]).run Ybad.prog w = .ok (.value (.tuple #[])) w := run_call_marked Ybad.func32 (by kernel_rfl) (by kernel_rfl) (by kernel_rfl) .releaseMerge (by kernel_rfl) a w
theorem cas {w : World} {a : Addr} (hc : w.cell? a = some (.int .i32 0)) (hz : w.frozen? a = false) : (callFunc 27 #[.pointer (some a), .int .i32 0, .int .i32 1]).run Ybad.prog w = .ok (.value (.bool true)) (w.setCell a (.int .i32 1)) :=
  run_call_cas_hit (P := Ybad.prog) Ybad.func27 (by kernel_rfl) (by kernel_rfl) (by kernel_rfl) .i32 (by kernel_rfl) hc hz
theorem addm {w : World} {a : Addr} (hc : w.cell? a = some (.int .i32 1)) (hz : w.frozen? a = false) : (callFunc 33 #[.pointer (some a), .int .i32 (-1)]).run Ybad.prog w = .ok (.value (.int .i32 0)) (w.setCell a (.int .i32 0)) :=
  run_call_add (P := Ybad.prog) Ybad.func33 (by kernel_rfl) (by kernel_rfl) (by kernel_rfl) .i32 (by kernel_rfl) (y := -1) (s := 0) hc hz (by simp [go_sem]; rfl)
/-- A pointer to a variable that is there, turned into the library's bare pointer (type 39). -/
theorem conv_to {src t : Nat} (hs : Ybad.prog.underlying src = some (.pointer t)) (hsz : (Ybad.prog.info? t).map (fun i => decide (i.size = 0)) = some false) {w : World} {a : Addr} {v : Value} (hc : w.cell? a = some v) :
    (convert src 39 (.pointer (some a))).run Ybad.prog w = .ok (.pointer (some a)) w := by
  obtain ⟨e, n, hsh, hlt, hsp⟩ := World.shape?_of_cell? hc
  obtain ⟨i, hi, hz0⟩ := Option.map_eq_some_iff.1 hsz
  have hz : i.size ≠ 0 := by simpa using hz0
  have hge : ¬ (n ≤ a.off) := by omega
  simp [convert, run_underlying hs, run_underlying Ybad.underlying39]
  change Sem.run Ybad.prog ((_ : Sem TypeDesc) >>= _) w = _
  simp [Conv.seenAt, viewAt, cellsIn, sizeOf, typeInfo, run_underlying hs, run_underlying Ybad.underlying39, hi, hz, hsh, hge, Result.andThen]
theorem conv_nil_to {src t : Nat} (hs : Ybad.prog.underlying src = some (.pointer t)) (w : World) : (convert src 39 (.pointer none)).run Ybad.prog w = .ok (.pointer none) w := by
  simp [convert, run_underlying hs, run_underlying Ybad.underlying39]
  change Sem.run Ybad.prog ((_ : Sem TypeDesc) >>= _) w = _
  simp [run_underlying hs, run_underlying Ybad.underlying39]
theorem conv_nil_from {dst t : Nat} (hd : Ybad.prog.underlying dst = some (.pointer t)) (w : World) : (convert 39 dst (.pointer none)).run Ybad.prog w = .ok (.pointer none) w := by
  simp [convert, run_underlying hd, run_underlying Ybad.underlying39]
  change Sem.run Ybad.prog ((_ : Sem TypeDesc) >>= _) w = _
  simp [run_underlying hd, run_underlying Ybad.underlying39]
/-- The library's bare pointer, back: it leads to a variable of just that type. -/
theorem conv_from {dst t e n : Nat} (hd : Ybad.prog.underlying dst = some (.pointer t)) {b : Nat} {c : Array Value} {w : World}
    (hb : w.heap[b]? = some (.cells c e (0, 0))) (hn : c.size = n) (hl : liesAt Ybad.prog Ybad.prog.depth e (n / Ybad.prog.cellsOf e) 0 t 1 = true) (hsz : ∃ i, Ybad.prog.info? t = some i) :
    (convert 39 dst (.pointer (some ⟨b, 0, none⟩))).run Ybad.prog w = .ok (.pointer (some ⟨b, 0, none⟩)) w := by
  have hsh : w.shape? b = some (e, n) := by simp [World.shape?, hb, hn]
  obtain ⟨i, hi⟩ := hsz
  simp [convert, run_underlying hd, run_underlying Ybad.underlying39]
  change Sem.run Ybad.prog ((_ : Sem TypeDesc) >>= _) w = _
  simp [Conv.seenAt, viewAt, sizeOf, typeInfo, variablesAt, run_underlying hd, run_underlying Ybad.underlying39, hi, hsh, hl, Result.andThen]
theorem conv {w : World} {a : Addr} {v : Value} (hc : w.cell? a = some v) : (convert 95 39 (.pointer (some a))).run Ybad.prog w = .ok (.pointer (some a)) w :=
  conv_to Ybad.underlying95 (by kernel_rfl) hc

set_option maxRecDepth 100000 in
set_option maxHeartbeats 800000 in
/-- '(*sync.Mutex).Lock', the lock free. -/
theorem lock_any (a : Addr) (w : World) (hc : w.cell? a = some (.int .i32 0)) (hz : w.frozen? a = false) :
    Calls Ybad.prog 7 #[.pointer (some a)] w fun e w' => e = .returned (.tuple #[]) ∧ w' = w.setCell a (.int .i32 1) := by
  have hd := disable
  have he := enable
  have ha := acquire
  have hcas := cas hc hz
  have h0' : (w.setCell a (.int .i32 1)).cell? a = some (.int .i32 1) := World.cell?_setCell_same _ _ _ hc
  have hcv := conv h0'
  go_enter Ybad.func7, Ybad.ntmps7
  go_wp2
  refine bodyPost_ret (results_none rfl _ _ _) rfl ?_
  go_wp2
  go_end0
  exact ⟨rfl, rfl⟩

set_option maxRecDepth 100000 in
set_option maxHeartbeats 800000 in
theorem unlock_any (a : Addr) (w : World) (hc : w.cell? a = some (.int .i32 1)) (hz : w.frozen? a = false) :
    Calls Ybad.prog 9 #[.pointer (some a)] w fun e w' => e = .returned (.tuple #[]) ∧ w' = w.setCell a (.int .i32 0) := by
  have hd := disable
  have he := enable
  have hr := releaseMerge
  have hcv := conv hc
  have hadd := addm hc hz
  go_enter Ybad.func9, Ybad.ntmps9
  go_wp2
  go_end0
  go_wp2
  go_end0
  exact ⟨rfl, rfl⟩

set_option maxRecDepth 100000 in
set_option maxHeartbeats 800000 in
theorem unlock_deferred (a : Addr) (u : FrameMode) (w : World) (hc : w.cell? a = some (.int .i32 1)) (hz : w.frozen? a = false) :
    CallsD Ybad.prog 9 #[.pointer (some a)] u w fun e u' w' => u' = u ∧ (e = .returned (.tuple #[]) ∧ w' = w.setCell a (.int .i32 0)) := by
  have hd := disable
  have he := enable
  have hr := releaseMerge
  have hcv := conv hc
  have hadd := addm hc hz
  go_enter_d Ybad.func9, Ybad.ntmps9
  go_wp2
  go_end0
  go_wp2
  go_end0
  exact ⟨rfl, rfl⟩

theorem and5 : bits .and .i32 0 5 = 0 := by decide
theorem or1 : bits .or .i32 0 1 = 1 := by decide
set_option maxRecDepth 100000 in
set_option maxHeartbeats 800000 in
/-- '(*sync.Mutex).TryLock', the lock free. -/
theorem trylock_any (a : Addr) (w : World) (hc : w.cell? a = some (.int .i32 0)) (hz : w.frozen? a = false) :
    Calls Ybad.prog 12 #[.pointer (some a)] w fun e w' => e = .returned (.bool true) ∧ w' = w.setCell a (.int .i32 1) := by
  have hd := disable
  have he := enable
  have ha := acquire
  have hcas := cas hc hz
  have h0' : (w.setCell a (.int .i32 1)).cell? a = some (.int .i32 1) := World.cell?_setCell_same _ _ _ hc
  have hcv := conv h0'
  have k1 := and5
  have k2 := or1
  go_enter Ybad.func12, Ybad.ntmps12
  go_wp2
  go_ret
  exact ⟨rfl, rfl⟩
end Go.Proofs.YbulkbsukDoor
