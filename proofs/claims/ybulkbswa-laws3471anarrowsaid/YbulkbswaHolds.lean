/-
  AllSpans, Holds.
-/
import Derived.Test.YbulkbswaOver
import Derived.Deep.RegionWith
namespace Go.Proofs.Ybulkbswa
open Go Go.RowKit

set_option maxRecDepth 100000 in
theorem unix_at (e : Int) (he : 0 ≤ e) (he2 : e < 1000000000) (w : World) :
    Calls Yba.prog 17 #[timeV e] w fun r w' => r = .returned (.int .i64 (e - 62135596800)) ∧ w' = w.alloc (.cells (timeC e) 26) := by
  have f1 : (w.alloc (.cells (timeC e) 26)).heap[w.heap.size]? = some (.cells (timeC e) 26 (0, 0)) := heap_alloc_new w _
  have hs := unixSec_any w.heap.size e he he2 (w.alloc (.cells (timeC e) 26)) (bc f1 (by show 0 < 3; decide)) (bc f1 (by show 1 < 3; decide))
  clear f1
  go_enter Yba.func17, Yba.ntmps17
  go_wp2_with fail
  refine hs.mono ?_
  rintro e w1 ⟨rfl, rfl⟩
  go_wp2_with fail
  go_ret
  exact ⟨rfl, rfl⟩

set_option maxRecDepth 100000 in
theorem days_at_raw (e : Int) (k : Nat) (he0 : 0 ≤ e) (he1 : e < 1000000000) (hq : (e - 62135596800).tdiv 86400 = -719162 + (k : Int)) (hk : k < 256) (w : World) :
    Calls Yba.prog 12 #[timeV e] w fun r w' => r = .returned (.int .i64 (-719162 + (k : Int))) ∧ w' = (w.alloc (.cells (timeC e) 28)).alloc (.cells (timeC e) 26) := by
  have hu := unix_at e he0 he1 (w.alloc (.cells (timeC e) 28))
  go_enter Yba.func12, Yba.ntmps12
  go_wp2_with fail
  refine hu.mono ?_
  rintro r w1 ⟨rfl, rfl⟩
  go_wp2_with fail
  go_ret
  exact ⟨rfl, rfl⟩
theorem days_at (k : Nat) (hk : k < 256) (w : World) :
    Calls Yba.prog 12 #[timeV (sec k)] w fun r w' => r = .returned (.int .i64 (day k)) ∧ w' = (w.alloc (.cells (timeC (sec k)) 28)).alloc (.cells (timeC (sec k)) 26) :=
  days_at_raw _ k (by show 0 ≤ (k : Int) * 86400; omega) (by show (k : Int) * 86400 < 1000000000; omega) (by
    have : (k : Int) * 86400 - 62135596800 = (-719162 + (k : Int)) * 86400 := by omega
    rw [this, Int.mul_tdiv_cancel _ (by decide)]) hk w

set_option maxRecDepth 100000 in
set_option maxHeartbeats 4000000 in
theorem holds_any (a b : Nat) (ha : a < 256) (hb : b < 256) (fa fu tf tb : Int) (w : World) :
    Calls Yba.prog 10 #[.agg (setC fa fu tf tb), spanV (sec a) (sec b)] w fun e w' => e = .returned (.bool (decide (fa < day a) && decide (day a ≤ fu) && decide (tf ≤ day b) && decide (day b < tb))) ∧ Below w.heap.size w w' := by
  have hda := days_at a ha
  have hdb := days_at b hb
  generalize sec a = sa at *
  generalize sec b = sb at *
  generalize day a = A at *
  generalize day b = B at *
  go_enter Yba.func10, Yba.ntmps10
  go_wp2_with fail
  go_region_with (first
    | (go_at_call_of 12 sa; refine (hda _).mono ?_; rintro e w' ⟨rfl, rfl⟩)
    | (go_at_call_of 12 sb; refine (hdb _).mono ?_; rintro e w' ⟨rfl, rfl⟩))
  all_goals
    go_wp2_with fail
  all_goals
    go_ret
    refine ⟨by simp [*]; try omega, ?_⟩
    repeat (first | exact Below.refl _ _ | (refine Below.alloc ?_ (by simp; try omega) _) | (refine Below.drew ?_))
end Go.Proofs.Ybulkbswa
