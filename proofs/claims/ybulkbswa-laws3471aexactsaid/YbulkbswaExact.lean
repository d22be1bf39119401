/-
  LawS3471AExact: THE WALK (three ways: the days meet the span; they begin behind it; they end ahead of it).
-/
import Derived.Test.YbulkbswaOver
import Derived.Laws.StructEq
namespace Go.Proofs.Ybulkbswa
open Go Go.RowKit

set_option maxRecDepth 100000 in
set_option maxHeartbeats 4000000 in
theorem exact_hit (fa fu tf tb x y p q : Int) (kx ky a b : Nat) (hx0 : 0 ≤ x) (hy0 : 0 ≤ y) (hp0 : 0 ≤ p) (hq0 : 0 ≤ q) (hx : x % 256 = (kx : Int)) (hy : y % 256 = (ky : Int)) (hp : p % 256 = (a : Int)) (hq : q % 256 = (b : Int))
    (hkx : kx < 256) (hky : ky < 256) (ha : a < 256) (hb : b < 256) (w : World) (h1 : day kx ≤ day b) (h2 : day a ≤ day ky) :
    Calls Yba.prog 3 #[.int .i64 fa, .int .i64 fu, .int .i64 tf, .int .i64 tb, .int .u32 x, .int .u32 y, .int .u32 p, .int .u32 q] w fun e w' => e = .returned (.bool true) ∧ Below w.heap.size w w' := by
  have d1 := day_any x kx hx0 hx hkx
  have d2 := day_any y ky hy0 hy hky
  have d3 := day_any p a hp0 hp ha
  have d4 := day_any q b hq0 hq hb
  have t1 := date_any p a hp0 hp ha
  have t2 := date_any q b hq0 hq hb
  have hov := fun (sb : Nat) (w : World) hs => narrow_hit sb a b ha hb (day kx) (day ky) fa fu tf tb w hs h1 h2
  change ∀ w, Calls Yba.prog 6 #[.int .u32 x] w fun e w' => e = .returned (.int .i64 (day kx)) ∧ w' = w at d1
  change ∀ w, Calls Yba.prog 6 #[.int .u32 y] w fun e w' => e = .returned (.int .i64 (day ky)) ∧ w' = w at d2
  change ∀ w, Calls Yba.prog 6 #[.int .u32 p] w fun e w' => e = .returned (.int .i64 (day a)) ∧ w' = w at d3
  change ∀ w, Calls Yba.prog 6 #[.int .u32 q] w fun e w' => e = .returned (.int .i64 (day b)) ∧ w' = w at d4
  change ∀ w, Calls Yba.prog 5 #[.int .u32 p] w fun e w' => e = .returned (timeV (sec a)) ∧ Below w.heap.size w w' at t1
  change ∀ w, Calls Yba.prog 5 #[.int .u32 q] w fun e w' => e = .returned (timeV (sec b)) ∧ Below w.heap.size w w' at t2
  clear hx0 hy0 hp0 hq0 hx hy hp hq
  generalize sec a = sa at *
  generalize sec b = sb at *
  generalize day a = A at *
  generalize day b = B at *
  generalize day kx = F at *
  generalize day ky = T at *
  go_enter Yba.func3, Yba.ntmps3
  go_wp2_with fail
  refine (t1 w).mono ?_
  rintro r w1 ⟨rfl, b1⟩
  have HB1 := hid b1
  clear b1 t1
  go_wp2_with fail
  refine (t2 w1).mono ?_
  rintro r w2 ⟨rfl, b2⟩
  have HB2 := hid (HB1.out.trans (b2.mono HB1.out.size))
  clear b2 t2 HB1
  go_wp2_with fail
  refine (d1 _).mono ?_
  rintro r w3 ⟨rfl, rfl⟩
  go_wp2_with fail
  refine (d2 _).mono ?_
  rintro r w3 ⟨rfl, rfl⟩
  go_wp2_with fail
  refine (d3 _).mono ?_
  rintro r w3 ⟨rfl, rfl⟩
  go_wp2_with fail
  refine (d4 _).mono ?_
  rintro r w3 ⟨rfl, rfl⟩
  have z2 : (w2.alloc (.cells (spanC sa sb) 31)).heap.size = w2.heap.size + 1 := by simp
  have z3 : ((w2.alloc (.cells (spanC sa sb) 31)).alloc (.cells (setC fa fu tf tb) 34)).heap.size = w2.heap.size + 2 := by simp
  have hal : ((w2.alloc (.cells (spanC sa sb) 31)).alloc (.cells (setC fa fu tf tb) 34)).heap[w2.heap.size + 1]? = some (.cells (setC fa fu tf tb) 34 (0, 0)) := by
    rw [← z2]
    exact heap_alloc_new _ _
  have hob := hov (w2.heap.size + 1) _ hal
  have hsw := HB2.out.size
  have HBX := hid ((HB2.out.alloc hsw (.cells (spanC sa sb) 31)).alloc (by rw [z2]; omega) (.cells (setC fa fu tf tb) 34))
  have HZ3 := hid z3
  clear hov d1 d2 d3 d4 hal z2 z3
  go_wp2_with fail
  refine hob.mono ?_
  rintro r w3 ⟨rfl, hs3, hbut⟩
  have HB3 := hid (But.below HBX.out hbut (by omega))
  have hlt : w2.heap.size + 1 < w3.heap.size := by have := hbut.size; rw [HZ3.out] at this; omega
  have c0 : w3.cell? ⟨w2.heap.size + 1, 0, none⟩ = _ := bc hs3 (k := 0) (by show 0 < 4; decide)
  have c1 : w3.cell? ⟨w2.heap.size + 1, 1, none⟩ = _ := bc hs3 (k := 1) (by show 1 < 4; decide)
  have c2 : w3.cell? ⟨w2.heap.size + 1, 2, none⟩ = _ := bc hs3 (k := 2) (by show 2 < 4; decide)
  have c3 : w3.cell? ⟨w2.heap.size + 1, 3, none⟩ = _ := bc hs3 (k := 3) (by show 3 < 4; decide)
  change w3.cell? _ = some (.int .i64 fa) at c0
  change w3.cell? _ = some (.int .i64 (min fu T)) at c1
  change w3.cell? _ = some (.int .i64 (max tf F)) at c2
  change w3.cell? _ = some (.int .i64 tb) at c3
  clear hs3 hbut hob HBX HZ3 HB2
  go_wp2_with fail
  all_goals
    go_ret
    refine ⟨?_, HB3.out.trans ((Below.refl _ _).alloc HB3.out.size _)⟩
    simp
    try omega

set_option maxRecDepth 100000 in
set_option maxHeartbeats 4000000 in
theorem exact_late (fa fu tf tb x y p q : Int) (kx ky a b : Nat) (hx0 : 0 ≤ x) (hy0 : 0 ≤ y) (hp0 : 0 ≤ p) (hq0 : 0 ≤ q) (hx : x % 256 = (kx : Int)) (hy : y % 256 = (ky : Int)) (hp : p % 256 = (a : Int)) (hq : q % 256 = (b : Int))
    (hkx : kx < 256) (hky : ky < 256) (ha : a < 256) (hb : b < 256) (w : World) (h1 : ¬ day kx ≤ day b) :
    Calls Yba.prog 3 #[.int .i64 fa, .int .i64 fu, .int .i64 tf, .int .i64 tb, .int .u32 x, .int .u32 y, .int .u32 p, .int .u32 q] w fun e w' => e = .returned (.bool true) ∧ Below w.heap.size w w' := by
  have d1 := day_any x kx hx0 hx hkx
  have d2 := day_any y ky hy0 hy hky
  have d3 := day_any p a hp0 hp ha
  have d4 := day_any q b hq0 hq hb
  have t1 := date_any p a hp0 hp ha
  have t2 := date_any q b hq0 hq hb
  have hov := fun (sb : Nat) (w : World) hs => narrow_late sb a b ha hb (day kx) (day ky) fa fu tf tb w hs h1
  change ∀ w, Calls Yba.prog 6 #[.int .u32 x] w fun e w' => e = .returned (.int .i64 (day kx)) ∧ w' = w at d1
  change ∀ w, Calls Yba.prog 6 #[.int .u32 y] w fun e w' => e = .returned (.int .i64 (day ky)) ∧ w' = w at d2
  change ∀ w, Calls Yba.prog 6 #[.int .u32 p] w fun e w' => e = .returned (.int .i64 (day a)) ∧ w' = w at d3
  change ∀ w, Calls Yba.prog 6 #[.int .u32 q] w fun e w' => e = .returned (.int .i64 (day b)) ∧ w' = w at d4
  change ∀ w, Calls Yba.prog 5 #[.int .u32 p] w fun e w' => e = .returned (timeV (sec a)) ∧ Below w.heap.size w w' at t1
  change ∀ w, Calls Yba.prog 5 #[.int .u32 q] w fun e w' => e = .returned (timeV (sec b)) ∧ Below w.heap.size w w' at t2
  clear hx0 hy0 hp0 hq0 hx hy hp hq
  generalize sec a = sa at *
  generalize sec b = sb at *
  generalize day a = A at *
  generalize day b = B at *
  generalize day kx = F at *
  generalize day ky = T at *
  go_enter Yba.func3, Yba.ntmps3
  go_wp2_with fail
  refine (t1 w).mono ?_
  rintro r w1 ⟨rfl, b1⟩
  have HB1 := hid b1
  clear b1 t1
  go_wp2_with fail
  refine (t2 w1).mono ?_
  rintro r w2 ⟨rfl, b2⟩
  have HB2 := hid (HB1.out.trans (b2.mono HB1.out.size))
  clear b2 t2 HB1
  go_wp2_with fail
  refine (d1 _).mono ?_
  rintro r w3 ⟨rfl, rfl⟩
  go_wp2_with fail
  refine (d2 _).mono ?_
  rintro r w3 ⟨rfl, rfl⟩
  go_wp2_with fail
  refine (d3 _).mono ?_
  rintro r w3 ⟨rfl, rfl⟩
  go_wp2_with fail
  refine (d4 _).mono ?_
  rintro r w3 ⟨rfl, rfl⟩
  have z2 : (w2.alloc (.cells (spanC sa sb) 31)).heap.size = w2.heap.size + 1 := by simp
  have z3 : ((w2.alloc (.cells (spanC sa sb) 31)).alloc (.cells (setC fa fu tf tb) 34)).heap.size = w2.heap.size + 2 := by simp
  have hal : ((w2.alloc (.cells (spanC sa sb) 31)).alloc (.cells (setC fa fu tf tb) 34)).heap[w2.heap.size + 1]? = some (.cells (setC fa fu tf tb) 34 (0, 0)) := by
    rw [← z2]
    exact heap_alloc_new _ _
  have hob := hov (w2.heap.size + 1) _ hal
  have hsw := HB2.out.size
  have HBX := hid ((HB2.out.alloc hsw (.cells (spanC sa sb) 31)).alloc (by rw [z2]; omega) (.cells (setC fa fu tf tb) 34))
  have HZ3 := hid z3
  clear hov d1 d2 d3 d4 hal z2 z3
  go_wp2_with fail
  refine hob.mono ?_
  rintro r w3 ⟨rfl, hs3, hbut⟩
  have HB3 := hid (But.below HBX.out hbut (by omega))
  have hlt : w2.heap.size + 1 < w3.heap.size := by have := hbut.size; rw [HZ3.out] at this; omega
  have c0 : w3.cell? ⟨w2.heap.size + 1, 0, none⟩ = _ := bc hs3 (k := 0) (by show 0 < 4; decide)
  have c1 : w3.cell? ⟨w2.heap.size + 1, 1, none⟩ = _ := bc hs3 (k := 1) (by show 1 < 4; decide)
  have c2 : w3.cell? ⟨w2.heap.size + 1, 2, none⟩ = _ := bc hs3 (k := 2) (by show 2 < 4; decide)
  have c3 : w3.cell? ⟨w2.heap.size + 1, 3, none⟩ = _ := bc hs3 (k := 3) (by show 3 < 4; decide)
  change w3.cell? _ = some (.int .i64 fa) at c0
  change w3.cell? _ = some (.int .i64 fu) at c1
  change w3.cell? _ = some (.int .i64 tf) at c2
  change w3.cell? _ = some (.int .i64 (min tb F)) at c3
  clear hs3 hbut hob HBX HZ3 HB2
  go_wp2_with fail
  all_goals
    go_ret
    refine ⟨?_, HB3.out.trans ((Below.refl _ _).alloc HB3.out.size _)⟩
    simp
    try omega

set_option maxRecDepth 100000 in
set_option maxHeartbeats 4000000 in
theorem exact_early (fa fu tf tb x y p q : Int) (kx ky a b : Nat) (hx0 : 0 ≤ x) (hy0 : 0 ≤ y) (hp0 : 0 ≤ p) (hq0 : 0 ≤ q) (hx : x % 256 = (kx : Int)) (hy : y % 256 = (ky : Int)) (hp : p % 256 = (a : Int)) (hq : q % 256 = (b : Int))
    (hkx : kx < 256) (hky : ky < 256) (ha : a < 256) (hb : b < 256) (w : World) (h1 : day kx ≤ day b) (h2 : ¬ day a ≤ day ky) :
    Calls Yba.prog 3 #[.int .i64 fa, .int .i64 fu, .int .i64 tf, .int .i64 tb, .int .u32 x, .int .u32 y, .int .u32 p, .int .u32 q] w fun e w' => e = .returned (.bool true) ∧ Below w.heap.size w w' := by
  have d1 := day_any x kx hx0 hx hkx
  have d2 := day_any y ky hy0 hy hky
  have d3 := day_any p a hp0 hp ha
  have d4 := day_any q b hq0 hq hb
  have t1 := date_any p a hp0 hp ha
  have t2 := date_any q b hq0 hq hb
  have hov := fun (sb : Nat) (w : World) hs => narrow_early sb a b ha hb (day kx) (day ky) fa fu tf tb w hs h1 h2
  change ∀ w, Calls Yba.prog 6 #[.int .u32 x] w fun e w' => e = .returned (.int .i64 (day kx)) ∧ w' = w at d1
  change ∀ w, Calls Yba.prog 6 #[.int .u32 y] w fun e w' => e = .returned (.int .i64 (day ky)) ∧ w' = w at d2
  change ∀ w, Calls Yba.prog 6 #[.int .u32 p] w fun e w' => e = .returned (.int .i64 (day a)) ∧ w' = w at d3
  change ∀ w, Calls Yba.prog 6 #[.int .u32 q] w fun e w' => e = .returned (.int .i64 (day b)) ∧ w' = w at d4
  change ∀ w, Calls Yba.prog 5 #[.int .u32 p] w fun e w' => e = .returned (timeV (sec a)) ∧ Below w.heap.size w w' at t1
  change ∀ w, Calls Yba.prog 5 #[.int .u32 q] w fun e w' => e = .returned (timeV (sec b)) ∧ Below w.heap.size w w' at t2
  clear hx0 hy0 hp0 hq0 hx hy hp hq
  generalize sec a = sa at *
  generalize sec b = sb at *
  generalize day a = A at *
  generalize day b = B at *
  generalize day kx = F at *
  generalize day ky = T at *
  go_enter Yba.func3, Yba.ntmps3
  go_wp2_with fail
  refine (t1 w).mono ?_
  rintro r w1 ⟨rfl, b1⟩
  have HB1 := hid b1
  clear b1 t1
  go_wp2_with fail
  refine (t2 w1).mono ?_
  rintro r w2 ⟨rfl, b2⟩
  have HB2 := hid (HB1.out.trans (b2.mono HB1.out.size))
  clear b2 t2 HB1
  go_wp2_with fail
  refine (d1 _).mono ?_
  rintro r w3 ⟨rfl, rfl⟩
  go_wp2_with fail
  refine (d2 _).mono ?_
  rintro r w3 ⟨rfl, rfl⟩
  go_wp2_with fail
  refine (d3 _).mono ?_
  rintro r w3 ⟨rfl, rfl⟩
  go_wp2_with fail
  refine (d4 _).mono ?_
  rintro r w3 ⟨rfl, rfl⟩
  have z2 : (w2.alloc (.cells (spanC sa sb) 31)).heap.size = w2.heap.size + 1 := by simp
  have z3 : ((w2.alloc (.cells (spanC sa sb) 31)).alloc (.cells (setC fa fu tf tb) 34)).heap.size = w2.heap.size + 2 := by simp
  have hal : ((w2.alloc (.cells (spanC sa sb) 31)).alloc (.cells (setC fa fu tf tb) 34)).heap[w2.heap.size + 1]? = some (.cells (setC fa fu tf tb) 34 (0, 0)) := by
    rw [← z2]
    exact heap_alloc_new _ _
  have hob := hov (w2.heap.size + 1) _ hal
  have hsw := HB2.out.size
  have HBX := hid ((HB2.out.alloc hsw (.cells (spanC sa sb) 31)).alloc (by rw [z2]; omega) (.cells (setC fa fu tf tb) 34))
  have HZ3 := hid z3
  clear hov d1 d2 d3 d4 hal z2 z3
  go_wp2_with fail
  refine hob.mono ?_
  rintro r w3 ⟨rfl, hs3, hbut⟩
  have HB3 := hid (But.below HBX.out hbut (by omega))
  have hlt : w2.heap.size + 1 < w3.heap.size := by have := hbut.size; rw [HZ3.out] at this; omega
  have c0 : w3.cell? ⟨w2.heap.size + 1, 0, none⟩ = _ := bc hs3 (k := 0) (by show 0 < 4; decide)
  have c1 : w3.cell? ⟨w2.heap.size + 1, 1, none⟩ = _ := bc hs3 (k := 1) (by show 1 < 4; decide)
  have c2 : w3.cell? ⟨w2.heap.size + 1, 2, none⟩ = _ := bc hs3 (k := 2) (by show 2 < 4; decide)
  have c3 : w3.cell? ⟨w2.heap.size + 1, 3, none⟩ = _ := bc hs3 (k := 3) (by show 3 < 4; decide)
  change w3.cell? _ = some (.int .i64 (max fa T)) at c0
  change w3.cell? _ = some (.int .i64 fu) at c1
  change w3.cell? _ = some (.int .i64 tf) at c2
  change w3.cell? _ = some (.int .i64 tb) at c3
  clear hs3 hbut hob HBX HZ3 HB2
  go_wp2_with fail
  all_goals
    go_ret
    refine ⟨?_, HB3.out.trans ((Below.refl _ _).alloc HB3.out.size _)⟩
    simp
    try omega

end Go.Proofs.Ybulkbswa
