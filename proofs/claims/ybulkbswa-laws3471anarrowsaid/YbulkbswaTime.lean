/-
  LawS3471AExact, LawS3471ANarrow: time.Time's Add and Unix at dates of midnight UTC; zzs3471adate, zzs3471aday, Date.Days.
-/
import Derived.Test.YbulkbswaProg
import Derived.WalkKit
import Derived.WalkLawsBesides
namespace Go.Proofs.Ybulkbswa
open Go Go.RowKit

theorem hid {p : Prop} (h : p) : Hid p := h
/-- A time's cells: no monotonic clock, no nanoseconds, e seconds, UTC. -/
abbrev timeC (e : Int) : Array Value := #[.int .u64 0, .int .i64 e, .pointer none]
abbrev timeV (e : Int) : Value := .agg (timeC e)

theorem and0a : bits .and .u64 0 1073741823 = 0 := by decide
theorem and0b : bits .and .u64 0 9223372036854775808 = 0 := by decide
theorem andn0 : bits .andNot .u64 0 1073741823 = 0 := by decide
theorem or0 : bits .or .u64 0 0 = 0 := by decide

set_option maxRecDepth 100000 in
theorem nsec_any (b : Nat) (w : World) (h0 : w.cell? ⟨b, 0, none⟩ = some (.int .u64 0)) :
    Calls Yba.prog 14 #[.pointer (some ⟨b, 0, none⟩)] w fun e w' => e = .returned (.int .i32 0) ∧ w' = w := by
  have k1 := and0a
  go_enter Yba.func14, Yba.ntmps14
  go_wp2_with fail
  go_ret
  exact ⟨rfl, rfl⟩

set_option maxRecDepth 100000 in
theorem addSec_any (b : Nat) (d : Int) (hd0 : 0 ≤ d) (hd : d < 1000000000000) (w : World) (h0 : w.cell? ⟨b, 0, none⟩ = some (.int .u64 0)) (h1 : w.cell? ⟨b, 1, none⟩ = some (.int .i64 0)) (z1 : w.frozen? ⟨b, 1, none⟩ = false) :
    Calls Yba.prog 15 #[.pointer (some ⟨b, 0, none⟩), .int .i64 d] w fun e w' => e = .returned (.tuple #[]) ∧ w' = w.setCell ⟨b, 1, none⟩ (.int .i64 d) := by
  have k1 := and0b
  go_enter Yba.func15, Yba.ntmps15
  go_wp2_with fail
  go_end0
  exact ⟨rfl, rfl⟩

theorem bc {w : World} {b k : Nat} {c : Array Value} {t : TypeId} (h : w.heap[b]? = some (.cells c t (0, 0))) (hk : k < c.size) : w.cell? ⟨b, k, none⟩ = some c[k] := by
  simp [World.cell?, h, hk]
theorem bz {w : World} {b k : Nat} {c : Array Value} {t : TypeId} (h : w.heap[b]? = some (.cells c t (0, 0))) : w.frozen? ⟨b, k, none⟩ = false := by
  simp [World.frozen?, h]
theorem bs {w : World} {g k : Nat} {c : Array Value} {t : TypeId} (h : w.heap[g]? = some (.cells c t (0, 0))) (v : Value) : (w.setCell ⟨g, k, none⟩ v).heap[g]? = some (.cells (c.setIfInBounds k v) t (0, 0)) := by
  simp [World.setCell, Array.getElem?_modify, h]

set_option maxRecDepth 100000 in
set_option maxHeartbeats 1000000 in
theorem add_raw (D S : Int) (hD : 0 ≤ D) (hD2 : D < 100000000000000000) (hS : 0 ≤ S) (_hS2 : S < 100000000) (hq : D / 1000000000 = S) (hr : D % 1000000000 = 0) (w : World) :
    Calls Yba.prog 11 #[timeV 0, .int .i64 D] w fun e w' => e = .returned (timeV S) ∧ Below w.heap.size w w' := by
  have k1 := and0b
  have k2 := andn0
  have k3 := or0
  obtain ⟨W, HW⟩ : ∃ W, Hid (W = (w.alloc (.cells (timeC 0) 26)).alloc (.cells (timeC 0) 26)) := ⟨_, rfl⟩
  have f1 : W.heap[w.heap.size]? = some (.cells (timeC 0) 26 (0, 0)) := by rw [HW.out, Below.heap_alloc _ _ _ (by simp)]; exact heap_alloc_new w _
  have f2 : W.heap[w.heap.size + 1]? = some (.cells (timeC 0) 26 (0, 0)) := by
    rw [HW.out, show w.heap.size + 1 = (w.alloc (.cells (timeC 0) 26)).heap.size by simp]
    exact heap_alloc_new _ _
  have b1 : Below w.heap.size w W := by rw [HW.out]; exact ((Below.refl _ _).alloc (Nat.le_refl _) _).alloc (by simp) _
  have hn := nsec_any w.heap.size W (bc f1 (by decide))
  have ha := addSec_any w.heap.size S hS (by omega) W (bc f1 (by decide)) (bc f1 (by decide)) (bz f1)
  have g1 : (W.setCell ⟨w.heap.size, 1, none⟩ (.int .i64 S)).heap[w.heap.size]? = some (.cells (timeC S) 26 (0, 0)) := bs (k := 1) f1 _
  have g2 : (W.setCell ⟨w.heap.size, 1, none⟩ (.int .i64 S)).heap[w.heap.size + 1]? = some (.cells (timeC 0) 26 (0, 0)) := (Below.heap_setCell _ _ _ _ (by simp)).trans f2
  have b2 : Below w.heap.size w (W.setCell ⟨w.heap.size, 1, none⟩ (.int .i64 S)) := b1.setCell (Nat.le_refl _) _
  generalize W.setCell ⟨w.heap.size, 1, none⟩ (.int .i64 S) = V at *
  have c0 : V.cell? ⟨w.heap.size, 0, none⟩ = some (.int .u64 0) := bc g1 (by show 0 < 3; decide)
  have c1 : V.cell? ⟨w.heap.size, 1, none⟩ = some (.int .i64 S) := bc g1 (by show 1 < 3; decide)
  have c2 : V.cell? ⟨w.heap.size, 2, none⟩ = some (.pointer none) := bc g1 (by show 2 < 3; decide)
  have e0 : V.cell? ⟨w.heap.size + 1, 0, none⟩ = some (.int .u64 0) := bc g2 (by show 0 < 3; decide)
  have e1 : V.cell? ⟨w.heap.size + 1, 1, none⟩ = some (.int .i64 0) := bc g2 (by show 1 < 3; decide)
  have e2 : V.cell? ⟨w.heap.size + 1, 2, none⟩ = some (.pointer none) := bc g2 (by show 2 < 3; decide)
  have y0 : V.frozen? ⟨w.heap.size + 1, 0, none⟩ = false := bz g2
  have y1 : V.frozen? ⟨w.heap.size + 1, 1, none⟩ = false := bz g2
  have y2 : V.frozen? ⟨w.heap.size + 1, 2, none⟩ = false := bz g2
  rw [HW.out] at hn ha
  clear f1 f2 b1 HW
  go_enter Yba.func11, Yba.ntmps11
  go_wp2_with fail
  refine hn.mono ?_
  rintro e w1 ⟨rfl, rfl⟩
  go_wp2_with fail
  refine ha.mono ?_
  rintro e w1 ⟨rfl, rfl⟩
  go_wp2_with fail
  have h3 : (((w1.setCell ⟨w.heap.size + 1, 0, none⟩ (.int .u64 0)).setCell ⟨w.heap.size + 1, 1, none⟩ (.int .i64 S)).setCell ⟨w.heap.size + 1, 2, none⟩ (.pointer none)).heap[w.heap.size + 1]? = some (.cells (timeC S) 26 (0, 0)) :=
    bs (k := 2) (bs (k := 1) (bs (k := 0) g2 (.int .u64 0)) (.int .i64 S)) (.pointer none)
  have b3 : Below w.heap.size w (((w1.setCell ⟨w.heap.size + 1, 0, none⟩ (.int .u64 0)).setCell ⟨w.heap.size + 1, 1, none⟩ (.int .i64 S)).setCell ⟨w.heap.size + 1, 2, none⟩ (.pointer none)) := ((b2.setCell (by simp) _).setCell (by simp) _).setCell (by simp) _
  generalize ((w1.setCell ⟨w.heap.size + 1, 0, none⟩ (.int .u64 0)).setCell ⟨w.heap.size + 1, 1, none⟩ (.int .i64 S)).setCell ⟨w.heap.size + 1, 2, none⟩ (.pointer none) = U at h3 b3 ⊢
  have t0 : U.cell? ⟨w.heap.size + 1, 0, none⟩ = some (.int .u64 0) := bc h3 (by show 0 < 3; decide)
  have t1 : U.cell? ⟨w.heap.size + 1, 1, none⟩ = some (.int .i64 S) := bc h3 (by show 1 < 3; decide)
  have t2 : U.cell? ⟨w.heap.size + 1, 2, none⟩ = some (.pointer none) := bc h3 (by show 2 < 3; decide)
  refine bodyPost_ret (v := timeV S) (by simp [results, Yba.results11, go_sem, t0, t1, t2]) rfl ?_
  exact ⟨rfl, b3⟩

theorem add_any (k : Nat) (hk : k < 256) (w : World) :
    Calls Yba.prog 11 #[timeV 0, .int .i64 ((k : Int) * 86400000000000)] w fun e w' => e = .returned (timeV ((k : Int) * 86400)) ∧ Below w.heap.size w w' :=
  add_raw _ _ (by omega) (by omega) (by omega) (by omega) (by omega) (by omega) w

/-- The date k days after 0001-01-01. -/
abbrev dateV (k : Nat) : Value := timeV ((k : Int) * 86400)

set_option maxRecDepth 100000 in
theorem date_any (x : Int) (k : Nat) (h0 : 0 ≤ x) (hm : x % 256 = (k : Int)) (hk2 : k < 256) (w : World) :
    Calls Yba.prog 5 #[.int .u32 x] w fun e w' => e = .returned (dateV k) ∧ Below w.heap.size w w' := by
  have e1 : (k : Int) * 24 * 3600000000000 = (k : Int) * 86400000000000 := by omega
  have f1 : (w.alloc (.cells (timeC 0) 28)).heap[w.heap.size]? = some (.cells (timeC 0) 28 (0, 0)) := heap_alloc_new w _
  have hb : Below w.heap.size w (w.alloc (.cells (timeC 0) 28)) := (Below.refl _ _).alloc (Nat.le_refl _) _
  have hz : (w.alloc (.cells (timeC 0) 28)).heap.size = w.heap.size + 1 := by simp
  have ha := add_any k hk2 (w.alloc (.cells (timeC 0) 28))
  have HB := hid hb
  have HF := hid f1
  have HZ := hid hz
  clear f1 hb hz
  obtain ⟨S, HS⟩ : ∃ S : Int, Hid (S = (k : Int) * 86400) := ⟨_, rfl⟩
  rw [dateV, ← HS.out]
  rw [← HS.out] at ha
  go_enter Yba.func5, Yba.ntmps5
  go_wp2_with fail
  refine ha.mono ?_
  rintro r w1 ⟨rfl, b1⟩
  have g2 : w1.heap[w.heap.size]? = some (.cells (timeC 0) 28 (0, 0)) := (b1.block _ (by rw [HZ.out]; omega)).trans HF.out
  have b2 := HB.out.trans (b1.mono HB.out.size)
  have e0 : w1.cell? ⟨w.heap.size, 0, none⟩ = some (.int .u64 0) := bc g2 (by show 0 < 3; decide)
  have e1 : w1.cell? ⟨w.heap.size, 1, none⟩ = some (.int .i64 0) := bc g2 (by show 1 < 3; decide)
  have e2 : w1.cell? ⟨w.heap.size, 2, none⟩ = some (.pointer none) := bc g2 (by show 2 < 3; decide)
  have y0 : w1.frozen? ⟨w.heap.size, 0, none⟩ = false := bz g2
  have y1 : w1.frozen? ⟨w.heap.size, 1, none⟩ = false := bz g2
  have y2 : w1.frozen? ⟨w.heap.size, 2, none⟩ = false := bz g2
  clear b1 ha
  go_wp2_with fail
  have h3 : (((w1.setCell ⟨w.heap.size, 0, none⟩ (.int .u64 0)).setCell ⟨w.heap.size, 1, none⟩ (.int .i64 S)).setCell ⟨w.heap.size, 2, none⟩ (.pointer none)).heap[w.heap.size]? = some (.cells (timeC S) 28 (0, 0)) :=
    bs (k := 2) (bs (k := 1) (bs (k := 0) g2 (.int .u64 0)) (.int .i64 S)) (.pointer none)
  have b3 : Below w.heap.size w (((w1.setCell ⟨w.heap.size, 0, none⟩ (.int .u64 0)).setCell ⟨w.heap.size, 1, none⟩ (.int .i64 S)).setCell ⟨w.heap.size, 2, none⟩ (.pointer none)) := ((b2.setCell (by simp) _).setCell (by simp) _).setCell (by simp) _
  generalize ((w1.setCell ⟨w.heap.size, 0, none⟩ (.int .u64 0)).setCell ⟨w.heap.size, 1, none⟩ (.int .i64 S)).setCell ⟨w.heap.size, 2, none⟩ (.pointer none) = U at h3 b3 ⊢
  have t0 : U.cell? ⟨w.heap.size, 0, none⟩ = some (.int .u64 0) := bc h3 (by show 0 < 3; decide)
  have t1 : U.cell? ⟨w.heap.size, 1, none⟩ = some (.int .i64 S) := bc h3 (by show 1 < 3; decide)
  have t2 : U.cell? ⟨w.heap.size, 2, none⟩ = some (.pointer none) := bc h3 (by show 2 < 3; decide)
  refine bodyPost_ret (v := timeV S) (by simp [results, Yba.results5, go_sem, t0, t1, t2]) rfl ?_
  exact ⟨rfl, b3⟩

set_option maxRecDepth 100000 in
theorem day_any (x : Int) (k : Nat) (h0 : 0 ≤ x) (hm : x % 256 = (k : Int)) (_hk2 : k < 256) (w : World) :
    Calls Yba.prog 6 #[.int .u32 x] w fun e w' => e = .returned (.int .i64 (-719162 + (k : Int))) ∧ w' = w := by
  go_enter Yba.func6, Yba.ntmps6
  go_wp2_with fail
  go_ret
  exact ⟨rfl, rfl⟩

set_option maxRecDepth 100000 in
theorem sec_any (b : Nat) (e : Int) (w : World) (h0 : w.cell? ⟨b, 0, none⟩ = some (.int .u64 0)) (h1 : w.cell? ⟨b, 1, none⟩ = some (.int .i64 e)) :
    Calls Yba.prog 18 #[.pointer (some ⟨b, 0, none⟩)] w fun r w' => r = .returned (.int .i64 e) ∧ w' = w := by
  have k1 := and0b
  go_enter Yba.func18, Yba.ntmps18
  go_wp2_with fail
  go_ret
  exact ⟨rfl, rfl⟩

set_option maxRecDepth 100000 in
theorem unixSec_any (b : Nat) (e : Int) (he : 0 ≤ e) (he2 : e < 1000000000) (w : World) (h0 : w.cell? ⟨b, 0, none⟩ = some (.int .u64 0)) (h1 : w.cell? ⟨b, 1, none⟩ = some (.int .i64 e)) :
    Calls Yba.prog 19 #[.pointer (some ⟨b, 0, none⟩)] w fun r w' => r = .returned (.int .i64 (e - 62135596800)) ∧ w' = w := by
  have hs := sec_any b e w h0 h1
  go_enter Yba.func19, Yba.ntmps19
  go_wp2_with fail
  refine hs.mono ?_
  rintro e w1 ⟨rfl, rfl⟩
  go_wp2_with fail
  go_ret
  exact ⟨by simp; omega, rfl⟩

set_option maxRecDepth 100000 in
theorem unix_any (e : Int) (he : 0 ≤ e) (he2 : e < 1000000000) (w : World) :
    Calls Yba.prog 17 #[timeV e] w fun r w' => r = .returned (.int .i64 (e - 62135596800)) ∧ Below w.heap.size w w' := by
  have f1 : (w.alloc (.cells (timeC e) 26)).heap[w.heap.size]? = some (.cells (timeC e) 26 (0, 0)) := heap_alloc_new w _
  have hs := unixSec_any w.heap.size e he he2 (w.alloc (.cells (timeC e) 26)) (bc f1 (by show 0 < 3; decide)) (bc f1 (by show 1 < 3; decide))
  clear f1
  go_enter Yba.func17, Yba.ntmps17
  go_wp2_with fail
  refine hs.mono ?_
  rintro e w1 ⟨rfl, rfl⟩
  go_wp2_with fail
  go_ret
  exact ⟨rfl, (Below.refl _ _).alloc (Nat.le_refl _) _⟩

set_option maxRecDepth 100000 in
theorem days_raw (e : Int) (k : Nat) (he0 : 0 ≤ e) (he1 : e < 1000000000) (hq : (e - 62135596800).tdiv 86400 = -719162 + (k : Int)) (hk : k < 256) (w : World) :
    Calls Yba.prog 12 #[timeV e] w fun r w' => r = .returned (.int .i64 (-719162 + (k : Int))) ∧ Below w.heap.size w w' := by
  have hu := unix_any e he0 he1 (w.alloc (.cells (timeC e) 28))
  have hb : Below w.heap.size w (w.alloc (.cells (timeC e) 28)) := (Below.refl _ _).alloc (Nat.le_refl _) _
  have HB := hid hb
  clear hb
  go_enter Yba.func12, Yba.ntmps12
  go_wp2_with fail
  refine hu.mono ?_
  rintro r w1 ⟨rfl, b1⟩
  have hB2 := hid (HB.out.trans (b1.mono HB.out.size))
  clear hu b1
  go_wp2_with fail
  go_ret
  exact ⟨rfl, hB2.out⟩
theorem days_any (k : Nat) (hk : k < 256) (w : World) :
    Calls Yba.prog 12 #[dateV k] w fun r w' => r = .returned (.int .i64 (-719162 + (k : Int))) ∧ Below w.heap.size w w' :=
  days_raw _ k (by omega) (by omega) (by
    have : (k : Int) * 86400 - 62135596800 = (-719162 + (k : Int)) * 86400 := by omega
    rw [this, Int.mul_tdiv_cancel _ (by decide)]) hk w
end Go.Proofs.Ybulkbswa
