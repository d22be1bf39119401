/-
  Span.Overlaps, Spans.Overlaps, AllSpans, Holds.
-/
import Derived.Test.YbulkbswaTime
import Derived.Deep.DeepCutAuto
import Derived.Deep.QuietTactic
import Derived.BigQuiet
namespace Go.Proofs.Ybulkbswa
open Go Go.RowKit

/-- A span's cells, from the day a to the day b (as seconds). -/
abbrev spanC (a b : Int) : Array Value := #[.int .u64 0, .int .i64 a, .pointer none, .int .u64 0, .int .i64 b, .pointer none]
abbrev spanV (a b : Int) : Value := .agg (spanC a b)
abbrev sec (k : Nat) : Int := (k : Int) * 86400
def day (k : Nat) : Int := -719162 + (k : Int)

set_option maxRecDepth 100000 in
set_option maxHeartbeats 1000000 in
theorem overlaps_any (a b : Nat) (ha : a < 256) (hb : b < 256) (f t : Int) (w : World) :
    Calls Yba.prog 9 #[spanV (sec a) (sec b), .int .i64 f, .int .i64 t] w fun e w' => e = .returned (.bool (decide (f ≤ day b) && decide (day a ≤ t))) ∧ Below w.heap.size w w' := by
  have hda : ∀ w, Calls Yba.prog 12 #[timeV (sec a)] w fun r w' => r = .returned (.int .i64 (day a)) ∧ Below w.heap.size w w' := fun w => days_any a ha w
  have hdb : ∀ w, Calls Yba.prog 12 #[timeV (sec b)] w fun r w' => r = .returned (.int .i64 (day b)) ∧ Below w.heap.size w w' := fun w => days_any b hb w
  generalize sec a = sa at *
  generalize sec b = sb at *
  generalize day a = A at *
  generalize day b = B at *
  have f1 : (w.alloc (.cells (spanC sa sb) 31)).heap[w.heap.size]? = some (.cells (spanC sa sb) 31 (0, 0)) := heap_alloc_new w _
  have hbe : Below w.heap.size w (w.alloc (.cells (spanC sa sb) 31)) := (Below.refl _ _).alloc (Nat.le_refl _) _
  have hz : (w.alloc (.cells (spanC sa sb) 31)).heap.size = w.heap.size + 1 := by simp
  have HB := hid hbe
  have HF := hid f1
  have HZ := hid hz
  clear f1 hbe hz
  by_cases h1 : f ≤ B
  · go_enter Yba.func9, Yba.ntmps9
    go_wp2_with fail
    refine (hdb _).mono ?_
    rintro r w1 ⟨rfl, b1⟩
    have g2 : w1.heap[w.heap.size]? = some (.cells (spanC sa sb) 31 (0, 0)) := (b1.block _ (by rw [HZ.out]; omega)).trans HF.out
    have b2 := HB.out.trans (b1.mono HB.out.size)
    have e0 : w1.cell? ⟨w.heap.size, 0, none⟩ = some (.int .u64 0) := bc g2 (by show 0 < 6; decide)
    have e1 : w1.cell? ⟨w.heap.size, 1, none⟩ = some (.int .i64 sa) := bc g2 (by show 1 < 6; decide)
    have e2 : w1.cell? ⟨w.heap.size, 2, none⟩ = some (.pointer none) := bc g2 (by show 2 < 6; decide)
    clear b1 g2
    have HB2 := hid b2
    clear b2
    go_wp2_with fail
    refine (hda _).mono ?_
    rintro r w2 ⟨rfl, b1⟩
    have HB3 := hid (HB2.out.trans (b1.mono HB2.out.size))
    clear b1
    go_wp2_with fail
    all_goals
      go_ret
      exact ⟨by simp [*], HB3.out⟩
  · go_enter Yba.func9, Yba.ntmps9
    go_wp2_with fail
    refine (hdb _).mono ?_
    rintro r w1 ⟨rfl, b1⟩
    have HB3 := hid (HB.out.trans (b1.mono HB.out.size))
    clear b1
    go_wp2_with fail
    all_goals
      go_ret
      exact ⟨by simp [*]; omega, HB3.out⟩

/-- A set's cells. -/
abbrev setC (fa fu tf tb : Int) : Array Value := #[.int .i64 fa, .int .i64 fu, .int .i64 tf, .int .i64 tb]
/-- Nothing that was there has turned, but for block b. -/
structure But (b : Nat) (w w' : World) : Prop where
  os : w'.os = w.os
  tape : w'.tape = w.tape
  output : w'.output = w.output
  size : w.heap.size ≤ w'.heap.size
  block : ∀ i, i < w.heap.size → i ≠ b → w'.heap[i]? = w.heap[i]?
theorem But.below {b : Nat} {w w1 w2 : World} (h : Below w.heap.size w w1) (k : But b w1 w2) (hb : w.heap.size ≤ b) : Below w.heap.size w w2 :=
  ⟨k.os.trans h.os, k.tape.trans h.tape, k.output.trans h.output, Nat.le_trans h.size k.size, fun i hi => (k.block i (by have := h.size; omega) (by omega)).trans (h.block i hi)⟩
theorem But.of {b : Nat} {w w' : World} (h : Below w.heap.size w w') : But b w w' := ⟨h.os, h.tape, h.output, h.size, fun i hi _ => h.block i hi⟩
theorem But.set {b o : Nat} {w w' : World} (h : But b w w') (v : Value) : But b w (w'.setCell ⟨b, o, none⟩ v) :=
  ⟨h.os, h.tape, h.output, by simp [World.setCell]; exact h.size, fun i hi hne => (Below.heap_setCell _ _ _ _ (by simpa using hne)).trans (h.block i hi hne)⟩

set_option maxRecDepth 100000 in
set_option maxHeartbeats 1600000 in
theorem narrow_hit (sb a b : Nat) (ha : a < 256) (hb : b < 256) (f t fa fu tf tb : Int) (w : World) (hs : w.heap[sb]? = some (.cells (setC fa fu tf tb) 34 (0, 0))) (h1 : f ≤ day b) (h2 : day a ≤ t) :
    Calls Yba.prog 7 #[.pointer (some ⟨sb, 0, none⟩), .int .i64 f, .int .i64 t, spanV (sec a) (sec b)] w fun e w' => e = .returned (.bool true) ∧ w'.heap[sb]? = some (.cells (setC fa (min fu t) (max tf f) tb) 34 (0, 0)) ∧ But sb w w' := by
  have ho := overlaps_any a b ha hb f t (w.alloc (.cells (spanC (sec a) (sec b)) 31))
  rw [decide_eq_true h1, decide_eq_true h2] at ho
  have hsl : sb < w.heap.size := by
    rcases Nat.lt_or_ge sb w.heap.size with h' | h'
    · exact h'
    · rw [Array.getElem?_eq_none h'] at hs; cases hs
  generalize sec a = sa at *
  generalize sec b = sb' at *
  have hbe : Below w.heap.size w (w.alloc (.cells (spanC sa sb') 31)) := (Below.refl _ _).alloc (Nat.le_refl _) _
  have HB := hid hbe
  clear hbe
  go_enter Yba.func7, Yba.ntmps7
  go_wp2_with fail
  refine ho.mono ?_
  rintro r w1 ⟨rfl, b1⟩
  have hb1 := HB.out.trans (b1.mono HB.out.size)
  have s1 : w1.heap[sb]? = some (.cells (setC fa fu tf tb) 34 (0, 0)) := (hb1.block _ hsl).trans hs
  have e1 : w1.cell? ⟨sb, 1, none⟩ = some (.int .i64 fu) := bc s1 (by show 1 < 4; decide)
  have e2 : w1.cell? ⟨sb, 2, none⟩ = some (.int .i64 tf) := bc s1 (by show 2 < 4; decide)
  have y1 : w1.frozen? ⟨sb, 1, none⟩ = false := bz s1
  have y2 : w1.frozen? ⟨sb, 2, none⟩ = false := bz s1
  have HS := hid s1
  have HB1 := hid hb1
  clear s1 hb1 b1 hs ho
  go_wp2_with fail
  all_goals
    go_ret
    refine ⟨rfl, ?_, ((But.of HB1.out).set _).set _⟩
    rw [bs (k := 2) (bs (k := 1) HS.out _) _]
    simp
    try omega

set_option maxRecDepth 100000 in
set_option maxHeartbeats 1600000 in
theorem narrow_late (sb a b : Nat) (ha : a < 256) (hb : b < 256) (f t fa fu tf tb : Int) (w : World) (hs : w.heap[sb]? = some (.cells (setC fa fu tf tb) 34 (0, 0))) (h1 : ¬ f ≤ day b) :
    Calls Yba.prog 7 #[.pointer (some ⟨sb, 0, none⟩), .int .i64 f, .int .i64 t, spanV (sec a) (sec b)] w fun e w' => e = .returned (.bool false) ∧ w'.heap[sb]? = some (.cells (setC fa fu tf (min tb f)) 34 (0, 0)) ∧ But sb w w' := by
  have ho := overlaps_any a b ha hb f t (w.alloc (.cells (spanC (sec a) (sec b)) 31))
  rw [decide_eq_false h1, Bool.false_and] at ho
  have hdb : ∀ w, Calls Yba.prog 12 #[timeV (sec b)] w fun r w' => r = .returned (.int .i64 (day b)) ∧ Below w.heap.size w w' := fun w => days_any b hb w
  have hsl : sb < w.heap.size := by
    rcases Nat.lt_or_ge sb w.heap.size with h' | h'
    · exact h'
    · rw [Array.getElem?_eq_none h'] at hs; cases hs
  generalize sec a = sa at *
  generalize sec b = sb' at *
  generalize day b = B at *
  have hbe : Below w.heap.size w (w.alloc (.cells (spanC sa sb') 31)) := (Below.refl _ _).alloc (Nat.le_refl _) _
  have f1 : (w.alloc (.cells (spanC sa sb') 31)).heap[w.heap.size]? = some (.cells (spanC sa sb') 31 (0, 0)) := heap_alloc_new w _
  have hz : (w.alloc (.cells (spanC sa sb') 31)).heap.size = w.heap.size + 1 := by simp
  have HB := hid hbe
  have HF := hid f1
  have HZ := hid hz
  clear hbe f1 hz
  go_enter Yba.func7, Yba.ntmps7
  go_wp2_with fail
  refine ho.mono ?_
  rintro r w1 ⟨rfl, b1⟩
  have hb1 := HB.out.trans (b1.mono HB.out.size)
  have g2 : w1.heap[w.heap.size]? = some (.cells (spanC sa sb') 31 (0, 0)) := (b1.block _ (by rw [HZ.out]; omega)).trans HF.out
  have e3 : w1.cell? ⟨w.heap.size, 3, none⟩ = some (.int .u64 0) := bc g2 (by show 3 < 6; decide)
  have e4 : w1.cell? ⟨w.heap.size, 4, none⟩ = some (.int .i64 sb') := bc g2 (by show 4 < 6; decide)
  have e5 : w1.cell? ⟨w.heap.size, 5, none⟩ = some (.pointer none) := bc g2 (by show 5 < 6; decide)
  have HS1 := hid ((hb1.block _ hsl).trans hs)
  have HB1 := hid hb1
  clear b1 hs ho g2 hb1
  go_wp2_with fail
  refine (hdb _).mono ?_
  rintro r w2 ⟨rfl, b2⟩
  have hsz1 := HB1.out.size
  have s2 : w2.heap[sb]? = some (.cells (setC fa fu tf tb) 34 (0, 0)) := (b2.block _ (by omega)).trans HS1.out
  have q3 : w2.cell? ⟨sb, 3, none⟩ = some (.int .i64 tb) := bc s2 (by show 3 < 4; decide)
  have y3 : w2.frozen? ⟨sb, 3, none⟩ = false := bz s2
  have HS := hid s2
  have HB2 := hid (HB1.out.trans (b2.mono hsz1))
  clear s2 b2 e3 e4 e5 HB1 HS1 hsz1
  go_wp2_with fail
  all_goals
    go_ret
    refine ⟨rfl, ?_, (But.of HB2.out).set _⟩
    rw [bs (k := 3) HS.out _]
    simp
    try omega

set_option maxRecDepth 100000 in
set_option maxHeartbeats 1600000 in
theorem narrow_early (sb a b : Nat) (ha : a < 256) (hb : b < 256) (f t fa fu tf tb : Int) (w : World) (hs : w.heap[sb]? = some (.cells (setC fa fu tf tb) 34 (0, 0))) (h1 : f ≤ day b) (h2 : ¬ day a ≤ t) :
    Calls Yba.prog 7 #[.pointer (some ⟨sb, 0, none⟩), .int .i64 f, .int .i64 t, spanV (sec a) (sec b)] w fun e w' => e = .returned (.bool false) ∧ w'.heap[sb]? = some (.cells (setC (max fa t) fu tf tb) 34 (0, 0)) ∧ But sb w w' := by
  have ho := overlaps_any a b ha hb f t (w.alloc (.cells (spanC (sec a) (sec b)) 31))
  rw [decide_eq_false h2, Bool.and_false] at ho
  have hdb : ∀ w, Calls Yba.prog 12 #[timeV (sec b)] w fun r w' => r = .returned (.int .i64 (day b)) ∧ Below w.heap.size w w' := fun w => days_any b hb w
  have hsl : sb < w.heap.size := by
    rcases Nat.lt_or_ge sb w.heap.size with h' | h'
    · exact h'
    · rw [Array.getElem?_eq_none h'] at hs; cases hs
  generalize sec a = sa at *
  generalize sec b = sb' at *
  generalize day b = B at *
  have hbe : Below w.heap.size w (w.alloc (.cells (spanC sa sb') 31)) := (Below.refl _ _).alloc (Nat.le_refl _) _
  have f1 : (w.alloc (.cells (spanC sa sb') 31)).heap[w.heap.size]? = some (.cells (spanC sa sb') 31 (0, 0)) := heap_alloc_new w _
  have hz : (w.alloc (.cells (spanC sa sb') 31)).heap.size = w.heap.size + 1 := by simp
  have HB := hid hbe
  have HF := hid f1
  have HZ := hid hz
  clear hbe f1 hz
  go_enter Yba.func7, Yba.ntmps7
  go_wp2_with fail
  refine ho.mono ?_
  rintro r w1 ⟨rfl, b1⟩
  have hb1 := HB.out.trans (b1.mono HB.out.size)
  have g2 : w1.heap[w.heap.size]? = some (.cells (spanC sa sb') 31 (0, 0)) := (b1.block _ (by rw [HZ.out]; omega)).trans HF.out
  have e3 : w1.cell? ⟨w.heap.size, 3, none⟩ = some (.int .u64 0) := bc g2 (by show 3 < 6; decide)
  have e4 : w1.cell? ⟨w.heap.size, 4, none⟩ = some (.int .i64 sb') := bc g2 (by show 4 < 6; decide)
  have e5 : w1.cell? ⟨w.heap.size, 5, none⟩ = some (.pointer none) := bc g2 (by show 5 < 6; decide)
  have HS1 := hid ((hb1.block _ hsl).trans hs)
  have HB1 := hid hb1
  clear b1 hs ho g2 hb1 h2
  go_wp2_with fail
  refine (hdb _).mono ?_
  rintro r w2 ⟨rfl, b2⟩
  have hsz1 := HB1.out.size
  have s2 : w2.heap[sb]? = some (.cells (setC fa fu tf tb) 34 (0, 0)) := (b2.block _ (by omega)).trans HS1.out
  have q0 : w2.cell? ⟨sb, 0, none⟩ = some (.int .i64 fa) := bc s2 (by show 0 < 4; decide)
  have y0 : w2.frozen? ⟨sb, 0, none⟩ = false := bz s2
  have HS := hid s2
  have HB2 := hid (HB1.out.trans (b2.mono hsz1))
  clear s2 b2 e3 e4 e5 HB1 HS1 hsz1
  go_wp2_with fail
  all_goals
    go_ret
    refine ⟨rfl, ?_, (But.of HB2.out).set _⟩
    rw [bs (k := 0) HS.out _]
    simp
    try omega
end Go.Proofs.Ybulkbswa
