/-
  LawS3471ANarrow: THE WALK.
-/
import Derived.Test.YbulkbswaPlain
import Derived.Deep.CutBlock
import Derived.Deep.RegionHeld3
namespace Go.Proofs.Ybulkbswa
open Go Go.RowKit

abbrev Bd.cells (z : Bd) : Array Value := setC z.fa z.fu z.tf z.tb
theorem narrow_any (sb a b : Nat) (ha : a < 256) (hb : b < 256) (f t : Int) (z : Bd) (w : World) (hs : w.heap[sb]? = some (.cells z.cells 34 (0, 0))) :
    Calls Yba.prog 7 #[.pointer (some ⟨sb, 0, none⟩), .int .i64 f, .int .i64 t, spanV (sec a) (sec b)] w fun e w' => e = .returned (.bool (meet f t (day a) (day b))) ∧ w'.heap[sb]? = some (.cells (z.step f t (day a) (day b)).cells 34 (0, 0)) ∧ But sb w w' := by
  by_cases h1 : f ≤ day b
  · by_cases h2 : day a ≤ t
    · rw [meet, decide_eq_true h1, decide_eq_true h2, Bd.step, if_pos h1, if_pos h2]
      exact narrow_hit sb a b ha hb f t z.fa z.fu z.tf z.tb w hs h1 h2
    · rw [meet, decide_eq_false h2, Bool.and_false, Bd.step, if_pos h1, if_neg h2]
      exact narrow_early sb a b ha hb f t z.fa z.fu z.tf z.tb w hs h1 h2
  · rw [meet, decide_eq_false h1, Bool.false_and, Bd.step, if_neg h1]
    exact narrow_late sb a b ha hb f t z.fa z.fu z.tf z.tb w hs h1

/-- A question's day. -/
def qday (x : Int) : Int := -719162 + x % 256
/-- The questions that came in: two uint32s each. -/
def CameQ (w : World) (ao : Option Addr) (qs : List (Int × Int)) : Prop := qs = [] ∨ ∃ b o, ao = some ⟨b, o, none⟩ ∧ ∀ j (h : j < qs.length), w.cell? ⟨b, o + j * 2, none⟩ = some (.int .u32 qs[j].1) ∧ w.cell? ⟨b, o + j * 2 + 1, none⟩ = some (.int .u32 qs[j].2)

/-- 'make([]bool, n)'. -/
theorem info4 : ∃ i, Yba.prog.info? 4 = some i ∧ i.zero = some (.bool false) ∧ i.size = 1 ∧ i.bytes = 1 := by
  have h : (Yba.prog.info? 4).map (fun i => (i.zero, i.size, i.bytes)) = some (some (.bool false), 1, 1) := by kernel_rfl
  obtain ⟨i, hi, he⟩ := Option.map_eq_some_iff.1 h
  simp only [Prod.mk.injEq] at he
  exact ⟨i, hi, he.1, he.2.1, he.2.2⟩
theorem made_bools (n : Nat) : madeCells #[.bool false] n = ((List.replicate n false).map Value.bool).toArray := by
  simp only [madeCells]
  apply Array.ext'
  simp
  apply List.ext_getElem
  · simp
  · intro i h1 h2
    simp [Nat.mod_one]
theorem makeBools (n : Nat) (hn : n ≤ 1000000) (w : World) :
    (Instr.makeSlice 39 (.int .i64 (n : Int)) (.int .i64 (n : Int))).run Yba.prog w = .ok (.slice (some ⟨w.heap.size, 0, none⟩) n n) (w.alloc (.cells (((List.replicate n false).map Value.bool).toArray) 4)) := by
  obtain ⟨i, hi, hz, hs, hb⟩ := info4
  have h := run_make (P := Yba.prog) w 39 4 i (.bool false) Yba.underlying39 hi hz .i64 .i64 (n : Int) (n : Int) (by omega) (by omega) (by rw [hb]; omega) (by omega)
  rw [h, hs, ← made_bools]
  simp [Value.cells]
/-- The law's memory: s, t, the set, the answers. -/
structure St (w W : World) (S1 S2 S3 S4 : Nat) (sa sb sc sd : Int) (z : Bd) (an : List Bool) : Prop where
  f1 : W.heap[S1]? = some (.cells (spanC sa sb) 31 (0, 0))
  f2 : W.heap[S2]? = some (.cells (spanC sc sd) 31 (0, 0))
  f3 : W.heap[S3]? = some (.cells z.cells 34 (0, 0))
  f4 : W.heap[S4]? = some (.cells (an.map Value.bool).toArray 4 (0, 0))
  be : Below w.heap.size w W
theorem blk_lt {w : World} {b : Nat} {o : Obj} (h : w.heap[b]? = some o) : b < w.heap.size := by
  rcases Nat.lt_or_ge b w.heap.size with h' | h'
  · exact h'
  · rw [Array.getElem?_eq_none h'] at h; cases h
theorem St.keep {w W W' : World} {S1 S2 S3 S4 : Nat} {sa sb sc sd : Int} {z : Bd} {an : List Bool} (h : St w W S1 S2 S3 S4 sa sb sc sd z an) (k : Below W.heap.size W W') : St w W' S1 S2 S3 S4 sa sb sc sd z an :=
  ⟨(k.block _ (blk_lt h.f1)).trans h.f1, (k.block _ (blk_lt h.f2)).trans h.f2, (k.block _ (blk_lt h.f3)).trans h.f3, (k.block _ (blk_lt h.f4)).trans h.f4, h.be.trans (k.mono h.be.size)⟩
theorem St.but {w W W' : World} {S1 S2 S3 S4 : Nat} {sa sb sc sd : Int} {z z' : Bd} {an : List Bool} (h : St w W S1 S2 S3 S4 sa sb sc sd z an) (k : But S3 W W') (h3 : W'.heap[S3]? = some (.cells z'.cells 34 (0, 0))) (g : w.heap.size ≤ S3)
    (n1 : S1 ≠ S3) (n2 : S2 ≠ S3) (n4 : S4 ≠ S3) : St w W' S1 S2 S3 S4 sa sb sc sd z' an :=
  ⟨(k.block _ (blk_lt h.f1) n1).trans h.f1, (k.block _ (blk_lt h.f2) n2).trans h.f2, h3, (k.block _ (blk_lt h.f4) n4).trans h.f4, But.below h.be k g⟩
theorem St.ans {w W : World} {S1 S2 S3 S4 : Nat} {sa sb sc sd : Int} {z : Bd} {an : List Bool} (h : St w W S1 S2 S3 S4 sa sb sc sd z an) (i : Nat) (v : Bool) (g : w.heap.size ≤ S4) (n1 : S1 ≠ S4) (n2 : S2 ≠ S4) (n3 : S3 ≠ S4) :
    St w (W.setCell ⟨S4, i, none⟩ (.bool v)) S1 S2 S3 S4 sa sb sc sd z (an.set i v) :=
  ⟨(Below.heap_setCell _ _ _ _ n1).trans h.f1, (Below.heap_setCell _ _ _ _ n2).trans h.f2, (Below.heap_setCell _ _ _ _ n3).trans h.f3, by
    rw [bs h.f4]
    simp [List.map_set], h.be.setCell g _⟩
theorem St.cellA {w W : World} {S1 S2 S3 S4 : Nat} {sa sb sc sd : Int} {z : Bd} {an : List Bool} (h : St w W S1 S2 S3 S4 sa sb sc sd z an) {i : Nat} (hi : i < an.length) : W.cell? ⟨S4, i, none⟩ = some (.bool an[i]) := by
  rw [bc h.f4 (by simp; exact hi)]
  simp

theorem qday_any (x : Int) (h0 : 0 ≤ x) (w : World) : Calls Yba.prog 6 #[.int .u32 x] w fun e w' => e = .returned (.int .i64 (qday x)) ∧ w' = w := by
  have h := day_any x (x % 256).toNat h0 (by omega) (by omega) w
  have e : -719162 + ((x % 256).toNat : Int) = qday x := by unfold qday; omega
  rw [e] at h
  exact h

theorem nine_cells {X X' : World} {p0 p1 p2 p3 p4 p5 p6 p7 p8 : Addr} {v0 v1 v2 v3 v4 v5 v6 v7 v8 : Value} (h : Below X.heap.size X X') (c0 : X.cell? p0 = some v0) (c1 : X.cell? p1 = some v1) (c2 : X.cell? p2 = some v2) (c3 : X.cell? p3 = some v3) (c4 : X.cell? p4 = some v4)
    (c5 : X.cell? p5 = some v5) (c6 : X.cell? p6 = some v6) (c7 : X.cell? p7 = some v7) (c8 : X.cell? p8 = some v8) :
    X'.cell? p0 = some v0 ∧ X'.cell? p1 = some v1 ∧ X'.cell? p2 = some v2 ∧ X'.cell? p3 = some v3 ∧ X'.cell? p4 = some v4 ∧ X'.cell? p5 = some v5 ∧ X'.cell? p6 = some v6 ∧ X'.cell? p7 = some v7 ∧ X'.cell? p8 = some v8 :=
  have k : ∀ {p v}, X.cell? p = some v → X'.cell? p = some v := fun c => (h.cell (World.block_lt_of_cell? _ _ c)).trans c
  ⟨k c0, k c1, k c2, k c3, k c4, k c5, k c6, k c7, k c8⟩

set_option maxRecDepth 100000 in
set_option maxHeartbeats 4000000 in
theorem narrow_walk (w : World) (ao : Option Addr) (cap : Nat) (qs : List (Int × Int)) (p q r s : Int) (a b c d : Nat) (hp0 : 0 ≤ p) (hq0 : 0 ≤ q) (hr0 : 0 ≤ r) (hs0 : 0 ≤ s)
    (hp : p % 256 = (a : Int)) (hq : q % 256 = (b : Int)) (hr : r % 256 = (c : Int)) (hs : s % 256 = (d : Int)) (ha : a < 256) (hb : b < 256) (hc : c < 256) (hd : d < 256) (hn : qs.length ≤ 1024) (hQ : CameQ w ao qs) (hqs : ∀ x ∈ qs, 0 ≤ x.1 ∧ 0 ≤ x.2) :
    Calls Yba.prog 4 #[.slice ao qs.length cap, .int .u32 p, .int .u32 q, .int .u32 r, .int .u32 s] w fun e w' => e = .returned (.bool true) ∧ Below w.heap.size w w' := by
  have t1 : ∀ w, Calls Yba.prog 5 #[.int .u32 p] w fun e w' => e = .returned (timeV (sec a)) ∧ Below w.heap.size w w' := date_any p a hp0 hp ha
  have t2 : ∀ w, Calls Yba.prog 5 #[.int .u32 q] w fun e w' => e = .returned (timeV (sec b)) ∧ Below w.heap.size w w' := date_any q b hq0 hq hb
  have t3 : ∀ w, Calls Yba.prog 5 #[.int .u32 r] w fun e w' => e = .returned (timeV (sec c)) ∧ Below w.heap.size w w' := date_any r c hr0 hr hc
  have t4 : ∀ w, Calls Yba.prog 5 #[.int .u32 s] w fun e w' => e = .returned (timeV (sec d)) ∧ Below w.heap.size w w' := date_any s d hs0 hs hd
  have t5 := allSpans_any
  have hn' : ¬ ((1024 : Int) < (qs.length : Int)) := by omega
  clear hp0 hq0 hr0 hs0 hp hq hr hs
  generalize hsa : sec a = sa at *
  generalize hsb : sec b = sb at *
  generalize hsc : sec c = sc at *
  generalize hsd : sec d = sd at *
  go_enter Yba.func4, Yba.ntmps4
  go_wp2_with fail
  refine (t1 w).mono ?_
  rintro r w1 ⟨rfl, b1⟩
  have HB1 := hid b1
  clear b1
  go_wp2_with fail
  refine (t2 w1).mono ?_
  rintro r w2 ⟨rfl, b2⟩
  have HB2 := hid (HB1.out.trans (b2.mono HB1.out.size))
  clear b2 HB1
  go_wp2_with fail
  refine (t3 _).mono ?_
  rintro r w3 ⟨rfl, b3⟩
  obtain ⟨S1, HS1⟩ : ∃ S1, Hid (S1 = w2.heap.size) := ⟨_, rfl⟩
  have f1 : w3.heap[S1]? = some (.cells (spanC sa sb) 31 (0, 0)) := by
    rw [HS1.out]
    exact (b3.block _ (by simp)).trans (heap_alloc_new w2 _)
  have l1 : S1 < w3.heap.size := by have := b3.size; simp at this; rw [HS1.out]; omega
  have g1 : w.heap.size ≤ S1 := by rw [HS1.out]; exact HB2.out.size
  have HB3 := hid ((HB2.out.alloc HB2.out.size _).trans (b3.mono (by have := HB2.out.size; simp; omega)))
  rw [← HS1.out]
  clear b3 HB2
  go_wp2_with fail
  refine (t4 _).mono ?_
  rintro r w4 ⟨rfl, b4⟩
  have f2 : w4.heap[S1]? = some (.cells (spanC sa sb) 31 (0, 0)) := (b4.block _ l1).trans f1
  have l2 : S1 < w4.heap.size := Nat.lt_of_lt_of_le l1 b4.size
  have HB4 := hid (HB3.out.trans (b4.mono HB3.out.size))
  clear b4 HB3 f1 l1
  go_wp2_with fail
  refine (t5 _).mono ?_
  rintro r w5 ⟨rfl, b5⟩
  obtain ⟨S2, HS2⟩ : ∃ S2, Hid (S2 = w4.heap.size) := ⟨_, rfl⟩
  have k1 : w5.heap[S1]? = some (.cells (spanC sa sb) 31 (0, 0)) := (b5.block _ (by simp; omega)).trans ((Below.heap_alloc _ _ _ l2).trans f2)
  have k2 : w5.heap[S2]? = some (.cells (spanC sc sd) 31 (0, 0)) := by
    rw [HS2.out]
    exact (b5.block _ (by simp)).trans (heap_alloc_new w4 _)
  have HB5 := hid ((HB4.out.alloc HB4.out.size _).trans (b5.mono (by have := HB4.out.size; simp; omega)))
  have l3 : S1 < S2 := by rw [HS2.out]; exact l2
  rw [← HS2.out]
  clear b5 HB4 f2 l2 t1 t2 t3 t4 t5
  obtain ⟨S3, HS3⟩ : ∃ S3, Hid (S3 = w5.heap.size) := ⟨_, rfl⟩
  have l4 : S2 < S3 := by rw [HS3.out]; exact blk_lt k2
  have hmk := makeBools qs.length (by omega)
  generalize hA0 : (((List.replicate qs.length false).map Value.bool).toArray) = A0 at hmk
  have HA0 := hid hA0
  clear hA0
  obtain ⟨W0, HW0⟩ : ∃ W0, Hid (W0 = (w5.alloc (.cells (setC (-9223372036854775808) 9223372036854775807 (-9223372036854775808) 9223372036854775807) 34)).alloc (.cells A0 4)) := ⟨_, rfl⟩
  have hst : St w W0 S1 S2 S3 (S3 + 1) sa sb sc sd ⟨-9223372036854775808, 9223372036854775807, -9223372036854775808, 9223372036854775807⟩ (List.replicate qs.length false) := by
    have e3 : S3 + 1 = (w5.alloc (.cells (setC (-9223372036854775808) 9223372036854775807 (-9223372036854775808) 9223372036854775807) 34)).heap.size := by rw [HS3.out]; simp
    rw [HW0.out]
    have x1 := blk_lt k1
    have x2 := blk_lt k2
    refine ⟨(Below.heap_alloc _ _ _ (by simp; omega)).trans ((Below.heap_alloc _ _ _ x1).trans k1), (Below.heap_alloc _ _ _ (by simp; omega)).trans ((Below.heap_alloc _ _ _ x2).trans k2), ?_, ?_, (HB5.out.alloc HB5.out.size _).alloc (by have := HB5.out.size; simp; omega) _⟩
    · rw [HS3.out]
      exact (Below.heap_alloc _ _ _ (by simp)).trans (heap_alloc_new w5 _)
    · rw [e3, HA0.out]
      exact heap_alloc_new _ _
  clear k1 k2 HB5
  have hz4 : (w5.alloc (.cells (setC (-9223372036854775808) 9223372036854775807 (-9223372036854775808) 9223372036854775807) 34)).heap.size = S3 + 1 := by rw [HS3.out]; simp
  go_upto_block 0 with fail
  rw [← HS3.out, ← HW0.out]
  clear hmk HW0 hz4 HA0 HS1 HS2 HS3
  go_wp2_with fail
  go_loopw [38] (fun vi wr => ∃ (i : Nat) (z : Bd) (an : List Bool), vi = .int .i64 (i : Int) ∧ i ≤ qs.length ∧ an.length = qs.length ∧ St w wr S1 S2 S3 (S3 + 1) sa sb sc sd z an ∧ z.has (day a) (day b) ∧
      ∀ j (h : j < qs.length) (h2 : j < an.length), j < i → an[j] = meet (qday qs[j].1) (qday qs[j].2) (day a) (day b) ∧ ∀ C D, z.has C D → meet (qday qs[j].1) (qday qs[j].2) C D = an[j]) (fun vi _ => qs.length - (intOf vi).toNat)
  case atStart => exact ⟨0, _, _, rfl, Nat.zero_le _, by simp, hst, by unfold Bd.has day; simp only; omega, fun j _ _ h => absurd h (Nat.not_lt_zero _)⟩
  case round =>
    obtain ⟨i, z, an, rfl, hi, hal, hS, hz, hinv⟩ := hrel
    by_cases hlt : i < qs.length
    · have hlt' : (i : Int) < (qs.length : Int) := by omega
      obtain ⟨qb, qo, rfl, hq1, hq2⟩ : ∃ qb qo, ao = some ⟨qb, qo, none⟩ ∧ wr.cell? ⟨qb, qo + i * 2, none⟩ = some (.int .u32 qs[i].1) ∧ wr.cell? ⟨qb, qo + i * 2 + 1, none⟩ = some (.int .u32 qs[i].2) := by
        rcases hQ with rfl | ⟨b, o, h1, h2⟩
        · simp at hlt
        · obtain ⟨x1, x2⟩ := h2 i hlt
          exact ⟨b, o, h1, (hS.be.cell (World.block_lt_of_cell? _ _ x1)).trans x1, (hS.be.cell (World.block_lt_of_cell? _ _ x2)).trans x2⟩
      obtain ⟨hx0, hy0⟩ := hqs qs[i] (List.getElem_mem hlt)
      have d1 := qday_any qs[i].1 hx0
      have d2 := qday_any qs[i].2 hy0
      have HI := hid hinv
      clear hinv
      generalize hx : qs[i].1 = x at *
      generalize hy : qs[i].2 = y at *
      have HX := hid hx
      have HY := hid hy
      clear hx hy
      have hnar := narrow_any S3 a b ha hb (qday x) (qday y) z wr hS.f3
      rw [hsa, hsb] at hnar
      have s0 : wr.cell? ⟨S1, 0, none⟩ = some (.int .u64 0) := bc hS.f1 (by show 0 < 6; decide)
      have s1 : wr.cell? ⟨S1, 1, none⟩ = some (.int .i64 sa) := bc hS.f1 (by show 1 < 6; decide)
      have s2 : wr.cell? ⟨S1, 2, none⟩ = some (.pointer none) := bc hS.f1 (by show 2 < 6; decide)
      have s3 : wr.cell? ⟨S1, 3, none⟩ = some (.int .u64 0) := bc hS.f1 (by show 3 < 6; decide)
      have s4 : wr.cell? ⟨S1, 4, none⟩ = some (.int .i64 sb) := bc hS.f1 (by show 4 < 6; decide)
      have s5 : wr.cell? ⟨S1, 5, none⟩ = some (.pointer none) := bc hS.f1 (by show 5 < 6; decide)
      have ca := hS.cellA (i := i) (by omega)
      have ya : ∀ k, wr.frozen? ⟨S3 + 1, k, none⟩ = false := fun k => bz hS.f4
      go_wp2_with fail
      refine (d1 _).mono ?_
      rintro e w6 ⟨rfl, rfl⟩
      go_wp2_with fail
      refine (d2 _).mono ?_
      rintro e w6 ⟨rfl, rfl⟩
      go_wp2_with fail
      refine hnar.mono ?_
      rintro e w6 ⟨rfl, hz6, hbut⟩
      have hS6 := hS.but hbut hz6 (by omega) (by omega) (by omega) (by omega)
      have c6 := hS6.cellA (i := i) (by omega)
      have y6 : ∀ k, w6.frozen? ⟨S3 + 1, k, none⟩ = false := fun k => bz hS6.f4
      have hS7 := hS6.ans i (meet (qday x) (qday y) (day a) (day b)) (by omega) (by omega) (by omega) (by omega)
      have hov : ∀ X, Calls Yba.prog 9 #[spanV sa sb, .int .i64 (qday x), .int .i64 (qday y)] X fun e w' => e = .returned (.bool (meet (qday x) (qday y) (day a) (day b))) ∧ Below X.heap.size X w' := fun X => by
        rw [← hsa, ← hsb]
        exact overlaps_any a b ha hb (qday x) (qday y) X
      clear hnar d1 d2 hz6 hbut hS hS6 s0 s1 s2 s3 s4 s5 ca ya
      generalize hm : meet (qday x) (qday y) (day a) (day b) = mm at *
      go_upto_region 13 with fail
      have c7 : (w6.setCell ⟨S3 + 1, i, none⟩ (.bool mm)).cell? ⟨S3 + 1, i, none⟩ = some (.bool mm) := World.cell?_setCell_same _ _ _ c6
      generalize w6.setCell ⟨S3 + 1, i, none⟩ (.bool mm) = W7 at *
      clear c6 y6
      have s0 : W7.cell? ⟨S1, 0, none⟩ = some (.int .u64 0) := bc hS7.f1 (by show 0 < 6; decide)
      have s1 : W7.cell? ⟨S1, 1, none⟩ = some (.int .i64 sa) := bc hS7.f1 (by show 1 < 6; decide)
      have s2 : W7.cell? ⟨S1, 2, none⟩ = some (.pointer none) := bc hS7.f1 (by show 2 < 6; decide)
      have s3 : W7.cell? ⟨S1, 3, none⟩ = some (.int .u64 0) := bc hS7.f1 (by show 3 < 6; decide)
      have s4 : W7.cell? ⟨S1, 4, none⟩ = some (.int .i64 sb) := bc hS7.f1 (by show 4 < 6; decide)
      have s5 : W7.cell? ⟨S1, 5, none⟩ = some (.pointer none) := bc hS7.f1 (by show 5 < 6; decide)
      go_cut [38, 68] from 38 to 69 (fun vi vb wx => vi = .int .i64 (i : Int) ∧ vb = .bool false ∧ Below W7.heap.size W7 wx)
      case first =>
        go_region_with (go_at_call 9; refine (hov _).mono ?_; rintro e w' ⟨rfl, hb8⟩; have c8 := (hb8.cell (p := ⟨S3 + 1, i, none⟩) (World.block_lt_of_cell? _ _ c7)).trans c7)
        all_goals
          have HB8 := hid hb8
          clear hb8
          go_wp2_with fail
          go_meet
          case rel => exact ⟨rfl, by simp, HB8.out.os, HB8.out.tape, HB8.out.output, HB8.out.size, HB8.out.block⟩
      case rest =>
        obtain ⟨rfl, rfl, hb9⟩ := hcut
        have HS9 := hid (hS7.keep hb9)
        clear hb9 hS7 s0 s1 s2 s3 s4 s5 c7
        go_wp2_with fail
        go_roundw
        case rel =>
          refine ⟨i + 1, _, _, by go_num, by omega, by simp [hal], HS9.out, Bd.step_has hz, fun j h h2 hj => ?_⟩
          by_cases hji : j = i
          · subst hji
            have e1 : (an.set j mm)[j] = mm := by simp
            rw [e1, HX.out, HY.out]
            exact ⟨hm.symm, fun C D hcd => (Bd.step_meet hcd).trans hm⟩
          · have e1 : (an.set i mm)[j] = an[j]'(by simpa using h2) := by rw [List.getElem_set_ne (by omega)]
            rw [e1]
            obtain ⟨x1, x2⟩ := HI.out j h (by simpa using h2) (by omega)
            exact ⟨x1, fun C D hcd => x2 C D (Bd.step_sub hcd)⟩
        case measure => simp [intOf]; omega
    · have hlt' : ¬ (i : Int) < (qs.length : Int) := by omega
      obtain rfl : i = qs.length := by omega
      have HI := hid hinv
      clear hinv
      have s0 : wr.cell? ⟨S1, 0, none⟩ = some (.int .u64 0) := bc hS.f1 (by show 0 < 6; decide)
      have s1 : wr.cell? ⟨S1, 1, none⟩ = some (.int .i64 sa) := bc hS.f1 (by show 1 < 6; decide)
      have s2 : wr.cell? ⟨S1, 2, none⟩ = some (.pointer none) := bc hS.f1 (by show 2 < 6; decide)
      have s3 : wr.cell? ⟨S1, 3, none⟩ = some (.int .u64 0) := bc hS.f1 (by show 3 < 6; decide)
      have s4 : wr.cell? ⟨S1, 4, none⟩ = some (.int .i64 sb) := bc hS.f1 (by show 4 < 6; decide)
      have s5 : wr.cell? ⟨S1, 5, none⟩ = some (.pointer none) := bc hS.f1 (by show 5 < 6; decide)
      have z0 : wr.cell? ⟨S3, 0, none⟩ = some (.int .i64 z.fa) := bc hS.f3 (by show 0 < 4; decide)
      have z1 : wr.cell? ⟨S3, 1, none⟩ = some (.int .i64 z.fu) := bc hS.f3 (by show 1 < 4; decide)
      have z2 : wr.cell? ⟨S3, 2, none⟩ = some (.int .i64 z.tf) := bc hS.f3 (by show 2 < 4; decide)
      have z3 : wr.cell? ⟨S3, 3, none⟩ = some (.int .i64 z.tb) := bc hS.f3 (by show 3 < 4; decide)
      have hh : ∀ X, Calls Yba.prog 10 #[.agg z.cells, spanV sa sb] X fun e w' => e = .returned (.bool true) ∧ Below X.heap.size X w' := fun X => by
        have h := holds_any a b ha hb z.fa z.fu z.tf z.tb X
        rw [hsa, hsb, decide_eq_true hz.1, decide_eq_true hz.2.1, decide_eq_true hz.2.2.1, decide_eq_true hz.2.2.2] at h
        exact h
      go_wp2_with fail
      refine (hh _).mono ?_
      rintro e w6 ⟨rfl, b6⟩
      have hS6 := hS.keep b6
      clear hh hS b6 s0 s1 s2 s3 s4 s5 z0 z1 z2 z3
      have z0 : w6.cell? ⟨S3, 0, none⟩ = some (.int .i64 z.fa) := bc hS6.f3 (by show 0 < 4; decide)
      have z1 : w6.cell? ⟨S3, 1, none⟩ = some (.int .i64 z.fu) := bc hS6.f3 (by show 1 < 4; decide)
      have z2 : w6.cell? ⟨S3, 2, none⟩ = some (.int .i64 z.tf) := bc hS6.f3 (by show 2 < 4; decide)
      have z3 : w6.cell? ⟨S3, 3, none⟩ = some (.int .i64 z.tb) := bc hS6.f3 (by show 3 < 4; decide)
      have s0 : w6.cell? ⟨S2, 0, none⟩ = some (.int .u64 0) := bc hS6.f2 (by show 0 < 6; decide)
      have s1 : w6.cell? ⟨S2, 1, none⟩ = some (.int .i64 sc) := bc hS6.f2 (by show 1 < 6; decide)
      have s2 : w6.cell? ⟨S2, 2, none⟩ = some (.pointer none) := bc hS6.f2 (by show 2 < 6; decide)
      have s3 : w6.cell? ⟨S2, 3, none⟩ = some (.int .u64 0) := bc hS6.f2 (by show 3 < 6; decide)
      have s4 : w6.cell? ⟨S2, 4, none⟩ = some (.int .i64 sd) := bc hS6.f2 (by show 4 < 6; decide)
      have s5 : w6.cell? ⟨S2, 5, none⟩ = some (.pointer none) := bc hS6.f2 (by show 5 < 6; decide)
      by_cases hcd : z.has (day c) (day d)
      · have hh : ∀ X, Calls Yba.prog 10 #[.agg z.cells, spanV sc sd] X fun e w' => e = .returned (.bool true) ∧ Below X.heap.size X w' := fun X => by
          have h := holds_any c d hc hd z.fa z.fu z.tf z.tb X
          rw [hsc, hsd, decide_eq_true hcd.1, decide_eq_true hcd.2.1, decide_eq_true hcd.2.2.1, decide_eq_true hcd.2.2.2] at h
          exact h
        go_wp2_with fail
        refine (hh _).mono ?_
        rintro e w7 ⟨rfl, b7⟩
        have hS7 := hS6.keep b7
        clear hh hS6 b7 s0 s1 s2 s3 s4 s5 z0 z1 z2 z3
        go_wp2_with fail
        go_loopw [79] (fun vi wr => ∃ (i : Nat), vi = .int .i64 (i : Int) ∧ i ≤ qs.length ∧ St w wr S1 S2 S3 (S3 + 1) sa sb sc sd z an) (fun vi _ => qs.length - (intOf vi).toNat)
        case atStart => exact ⟨0, rfl, Nat.zero_le _, hS7⟩
        case round =>
          obtain ⟨i, rfl, hi, hS⟩ := hrel
          by_cases hlt : i < qs.length
          · have hlt' : (i : Int) < (qs.length : Int) := by omega
            obtain ⟨qb, qo, rfl, hq1, hq2⟩ : ∃ qb qo, ao = some ⟨qb, qo, none⟩ ∧ wr.cell? ⟨qb, qo + i * 2, none⟩ = some (.int .u32 qs[i].1) ∧ wr.cell? ⟨qb, qo + i * 2 + 1, none⟩ = some (.int .u32 qs[i].2) := by
              rcases hQ with rfl | ⟨b, o, h1, h2⟩
              · simp at hlt
              · obtain ⟨x1, x2⟩ := h2 i hlt
                exact ⟨b, o, h1, (hS.be.cell (World.block_lt_of_cell? _ _ x1)).trans x1, (hS.be.cell (World.block_lt_of_cell? _ _ x2)).trans x2⟩
            obtain ⟨hx0, hy0⟩ := hqs qs[i] (List.getElem_mem hlt)
            have d1 := qday_any qs[i].1 hx0
            have d2 := qday_any qs[i].2 hy0
            have hov : ∀ X, Calls Yba.prog 9 #[spanV sc sd, .int .i64 (qday qs[i].1), .int .i64 (qday qs[i].2)] X fun e w' => e = .returned (.bool an[i]) ∧ Below X.heap.size X w' := fun X => by
              have h := overlaps_any c d hc hd (qday qs[i].1) (qday qs[i].2) X
              rw [hsc, hsd] at h
              have e := (HI.out i hlt (by omega) hlt).2 (day c) (day d) hcd
              rw [← e]
              exact h
            have c7 := hS.cellA (i := i) (by omega)
            clear hqs
            generalize qs[i].1 = x at *
            generalize qs[i].2 = y at *
            generalize hm : an[i] = mm at *
            have HQ1 := hid hq1
            have HQ2 := hid hq2
            have s0 : wr.cell? ⟨S2, 0, none⟩ = some (.int .u64 0) := bc hS.f2 (by show 0 < 6; decide)
            have s1 : wr.cell? ⟨S2, 1, none⟩ = some (.int .i64 sc) := bc hS.f2 (by show 1 < 6; decide)
            have s2 : wr.cell? ⟨S2, 2, none⟩ = some (.pointer none) := bc hS.f2 (by show 2 < 6; decide)
            have s3 : wr.cell? ⟨S2, 3, none⟩ = some (.int .u64 0) := bc hS.f2 (by show 3 < 6; decide)
            have s4 : wr.cell? ⟨S2, 4, none⟩ = some (.int .i64 sd) := bc hS.f2 (by show 4 < 6; decide)
            have s5 : wr.cell? ⟨S2, 5, none⟩ = some (.pointer none) := bc hS.f2 (by show 5 < 6; decide)
            go_upto_region 22 with fail
            go_cut [79, 100] from 79 to 101 (fun vi vb wx => vi = .int .i64 (i : Int) ∧ vb = .bool false ∧ Below wr.heap.size wr wx)
            case first =>
              go_region_held3 (fun w' => w'.cell? ⟨qb, qo + i * 2, none⟩ = some (.int .u32 x) ∧ w'.cell? ⟨qb, qo + i * 2 + 1, none⟩ = some (.int .u32 y) ∧ w'.cell? ⟨S2, 0, none⟩ = some (.int .u64 0) ∧ w'.cell? ⟨S2, 1, none⟩ = some (.int .i64 sc) ∧ w'.cell? ⟨S2, 2, none⟩ = some (.pointer none) ∧
                  w'.cell? ⟨S2, 3, none⟩ = some (.int .u64 0) ∧ w'.cell? ⟨S2, 4, none⟩ = some (.int .i64 sd) ∧ w'.cell? ⟨S2, 5, none⟩ = some (.pointer none) ∧ w'.cell? ⟨S3 + 1, i, none⟩ = some (.bool mm))
                (first | assumption | go_keep)
                (first
                | (go_at_call_of 6 x; refine (d1 _).mono ?_; rintro e w' ⟨rfl, rfl⟩)
                | (go_at_call_of 6 y; refine (d2 _).mono ?_; rintro e w' ⟨rfl, rfl⟩)
                | (go_at_call 9; refine (hov _).mono ?_; rintro e w' ⟨rfl, hb8⟩; have c8 := nine_cells hb8 hq1 hq2 s0 s1 s2 s3 s4 s5 c7))
              all_goals
                have HB8 := hid hb8
                clear hb8
                go_wp2_with fail
                go_meet
                case rel => exact ⟨rfl, by simp, HB8.out.os, HB8.out.tape, HB8.out.output, HB8.out.size, HB8.out.block⟩
            case rest =>
              obtain ⟨rfl, rfl, hb9⟩ := hcut
              have HS9 := hid (hS.keep hb9)
              clear hb9 hS s0 s1 s2 s3 s4 s5 c7
              go_wp2_with fail
              go_roundw
              case rel => exact ⟨i + 1, by go_num, by omega, HS9.out⟩
              case measure => simp [intOf]; omega
          · have hlt' : ¬ (i : Int) < (qs.length : Int) := by omega
            go_wp2_with fail
            go_ret
            exact ⟨rfl, hS.be⟩
      · have hh : ∀ X, Calls Yba.prog 10 #[.agg z.cells, spanV sc sd] X fun e w' => e = .returned (.bool false) ∧ Below X.heap.size X w' := fun X => by
          have h := holds_any c d hc hd z.fa z.fu z.tf z.tb X
          have hdec : (decide (z.fa < day c) && decide (day c ≤ z.fu) && decide (z.tf ≤ day d) && decide (day d < z.tb)) = false := by
            rw [Bool.eq_false_iff]
            intro hx
            simp only [Bool.and_eq_true, decide_eq_true_eq] at hx
            exact hcd ⟨hx.1.1.1, hx.1.1.2, hx.1.2, hx.2⟩
          rw [hdec, hsc, hsd] at h
          exact h
        go_wp2_with fail
        refine (hh _).mono ?_
        rintro e w7 ⟨rfl, b7⟩
        have hS7 := hS6.keep b7
        clear hh hS6 b7 s0 s1 s2 s3 s4 s5 z0 z1 z2 z3
        go_wp2_with fail
        go_ret
        exact ⟨rfl, hS7.be⟩

set_option maxRecDepth 100000 in
theorem narrow_long (w : World) (ao : Option Addr) (n cap : Nat) (p q r s : Int) (hn : 1024 < n) :
    Calls Yba.prog 4 #[.slice ao n cap, .int .u32 p, .int .u32 q, .int .u32 r, .int .u32 s] w fun e w' => e = .returned (.bool true) ∧ Below w.heap.size w w' := by
  have hn' : (1024 : Int) < (n : Int) := by omega
  go_enter Yba.func4, Yba.ntmps4
  go_wp2_with fail
  go_ret
  exact ⟨rfl, Below.refl _ _⟩
end Go.Proofs.Ybulkbswa
