/-
  FOR A WALK OF ONE GOROUTINE THROUGH sync/atomic.Pointer: what LoadPointer, StorePointer, SwapPointer do, and the conversions from and to unsafe.Pointer. Of whatever program. (After the guide's Derived/Laws/LoneSync.lean, which has the integers.)
-/
import Derived.Laws.LoneSync
import Derived.WalkKit
import Derived.WalkLawsBesides
import Derived.LaidEqlPtr
namespace Go.Proofs.Ybulkbsuk
open Go
section
variable {P : Program} {f : FuncId} {fn : Func}

theorem call_loadPtr (hf : P.funcs[f]? = some fn) (hname : (fn.name == "runtime.NumGoroutine") = false) (hb : fn.body.isNone = true) (hn : Extern.findNext fn = none)
    (he : Extern.find fn = some (Extern.Atomic.loadT .ptr)) {a : Addr} {x : Option Addr} {w : World} (hc : w.cell? a = some (.pointer x)) :
    (callFunc f #[.pointer (some a)]).run P w = .ok (.value (.pointer x)) w := by
  rw [run_callFunc_extern hf hname hb hn he]
  change (Sem.run P (do Extern.Atomic.read .ptr (← asAddr (.pointer (some a)))) w).andThen _ = _
  simp [Extern.Atomic.read, asAddr, hc, Result.andThen]
theorem call_storePtr (hf : P.funcs[f]? = some fn) (hname : (fn.name == "runtime.NumGoroutine") = false) (hb : fn.body.isNone = true) (hn : Extern.findNext fn = none)
    (he : Extern.find fn = some Extern.Atomic.storeT) {a : Addr} {y : Option Addr} {u : Value} {w : World} (hc : w.cell? a = some u) (hz : w.frozen? a = false) :
    (callFunc f #[.pointer (some a), .pointer y]).run P w = .ok (.value (.tuple #[])) (w.setCell a (.pointer y)) := by
  rw [run_callFunc_extern hf hname hb hn he]
  change (Sem.run P (do
    store (← asAddr (.pointer (some a))) (.pointer y) .atomic
    pure Extern.Atomic.none_) w).andThen _ = _
  simp [asAddr, hc, hz, run_store P w a (.pointer y) .atomic rfl, Result.andThen, Extern.Atomic.none_]
theorem call_swapPtr (hf : P.funcs[f]? = some fn) (hname : (fn.name == "runtime.NumGoroutine") = false) (hb : fn.body.isNone = true) (hn : Extern.findNext fn = none)
    (he : Extern.find fn = some (Extern.Atomic.swapT .ptr)) {a : Addr} {x y : Option Addr} {w : World} (hc : w.cell? a = some (.pointer x)) (hz : w.frozen? a = false) :
    (callFunc f #[.pointer (some a), .pointer y]).run P w = .ok (.value (.pointer x)) (w.setCell a (.pointer y)) := by
  rw [run_callFunc_extern hf hname hb hn he]
  change (Sem.run P (do
    let a' ← asAddr (.pointer (some a))
    let old ← Extern.Atomic.read .ptr a'
    store a' (.pointer y) .atomic
    pure old) w).andThen _ = _
  simp [Extern.Atomic.read, asAddr, hc, hz, run_store P w a (.pointer y) .atomic rfl, Result.andThen]

theorem convert_nil_to {src dst t : TypeId} (hs : P.underlying src = some (.pointer t)) (hd : P.underlying dst = some .unsafePointer) (w : World) :
    (convert src dst (.pointer none)).run P w = .ok (.pointer none) w := by
  simp [convert, Conv.unsafePointer, run_underlying hs, run_underlying hd]
theorem convert_nil_from {src dst t : TypeId} (hs : P.underlying src = some .unsafePointer) (hd : P.underlying dst = some (.pointer t)) (w : World) :
    (convert src dst (.pointer none)).run P w = .ok (.pointer none) w := by
  simp [convert, Conv.unsafePointer, run_underlying hs, run_underlying hd]
/-- An unsafe.Pointer that leads to a variable of just that type. -/
theorem convert_from {src dst t e n : Nat} (hs : P.underlying src = some .unsafePointer) (hd : P.underlying dst = some (.pointer t)) {b : Nat} {c : Array Value} {w : World}
    (hb : w.heap[b]? = some (.cells c e (0, 0))) (hn : c.size = n) (hl : liesAt P P.depth e (n / P.cellsOf e) 0 t 1 = true) (hsz : ∃ i, P.info? t = some i) :
    (convert src dst (.pointer (some ⟨b, 0, none⟩))).run P w = .ok (.pointer (some ⟨b, 0, none⟩)) w := by
  have hsh : w.shape? b = some (e, n) := by simp [World.shape?, hb, hn]
  obtain ⟨i, hi⟩ := hsz
  simp [convert, Conv.unsafePointer, Conv.seenAt, viewAt, sizeOf, typeInfo, variablesAt, run_underlying hs, run_underlying hd, hi, hsh, hl, Result.andThen]
end
end Go.Proofs.Ybulkbsuk
