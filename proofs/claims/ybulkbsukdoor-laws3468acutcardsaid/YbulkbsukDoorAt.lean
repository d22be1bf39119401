/-
  FOR A WALK OF ONE GOROUTINE THROUGH sync/atomic.Pointer: what LoadPointer, StorePointer, SwapPointer do. Of whatever program. (After the guide's Derived/Laws/LoneSync.lean, which has the integers.)
-/
import Derived.Laws.LoneSync
import Derived.WalkKit
import Derived.WalkLawsBesides
import Derived.LaidEqlPtr
namespace Go.Proofs.YbulkbsukDoor
open Go
section
variable {P : Program} {f : FuncId} {fn : Func}

theorem call_loadPtr (hf : P.funcs[f]? = some fn) (hname : (fn.name == "runtime.NumGoroutine") = false) (hb : fn.body.isNone = true) (hn : Extern.findNext fn = none)
    (he : Extern.find fn = some (Extern.Atomic.loadT .ptr)) {a : Addr} {x : Option Addr} {w : World} (hc : w.cell? a = some (.pointer x)) :
    (callFunc f #[.pointer (some a)]).run P w = .ok (.value (.pointer x)) w := by
  rw [run_callFunc_extern hf hname hb hn he]
  change (Sem.run P (do Extern.Atomic.read .ptr (← asAddr (.pointer (some a)))) w).andThen _ = _
  simp [Extern.Atomic.read, asAddr, hc, Result.andThen]
theorem call_storePtr (hf : P.funcs[f]? = some fn) (hname : (fn.name == "runtime.NumGoroutine") = false) (hb : fn.body.isNone = true) (hn : Extern.findNext fn = none)
    (he : Extern.find fn = some Extern.Atomic.storeT) {a : Addr} {y : Option Addr} {u : Value} {w : World} (hc : w.cell? a = some u) (hz : w.frozen? a = false) :
    (callFunc f #[.pointer (some a), .pointer y]).run P w = .ok (.value (.tuple #[])) (w.setCell a (.pointer y)) := by
  rw [run_callFunc_extern hf hname hb hn he]
  change (Sem.run P (do
    store (← asAddr (.pointer (some a))) (.pointer y) .atomic
    pure Extern.Atomic.none_) w).andThen _ = _
  simp [asAddr, hc, hz, run_store P w a (.pointer y) .atomic rfl, Result.andThen, Extern.Atomic.none_]
theorem call_swapPtr (hf : P.funcs[f]? = some fn) (hname : (fn.name == "runtime.NumGoroutine") = false) (hb : fn.body.isNone = true) (hn : Extern.findNext fn = none)
    (he : Extern.find fn = some (Extern.Atomic.swapT .ptr)) {a : Addr} {x y : Option Addr} {w : World} (hc : w.cell? a = some (.pointer x)) (hz : w.frozen? a = false) :
    (callFunc f #[.pointer (some a), .pointer y]).run P w = .ok (.value (.pointer x)) (w.setCell a (.pointer y)) := by
  rw [run_callFunc_extern hf hname hb hn he]
  change (Sem.run P (do
    let a' ← asAddr (.pointer (some a))
    let old ← Extern.Atomic.read .ptr a'
    store a' (.pointer y) .atomic
    pure old) w).andThen _ = _
  simp [Extern.Atomic.read, asAddr, hc, hz, run_store P w a (.pointer y) .atomic rfl, Result.andThen]
end
end Go.Proofs.YbulkbsukDoor
