/-
  readFrame OVER THE LAWS' READER: a stop; a frame with a flag that nobody knows.
-/
import Derived.Test.YbulkbsrsFmtErrf
import Derived.Test.YbulkbsrsFmtCut
namespace Go.Proofs.YbulkbsrsFmt
open Go Go.RowKit

set_option maxHeartbeats 2000000 in
set_option maxRecDepth 100000 in
theorem readFrame_bad (w : World) (rb gb cap i d r : Nat) (fl : UInt8) (l rest : List UInt8) (h : Rd w rb gb cap l i)
    (hd : 1 ≤ d) (hd2 : d < 9223372036854775808) (hr2 : r < 9223372036854775808)
    (hl : l.drop i = Lib.uvarint d ++ (Lib.uvarint r ++ (fl :: rest)))
    (hk : (bits .andNot .u8 (fl.toNat : Int) 31 != 0) = true) :
    Calls Ybaf.prog 7 #[rdr rb] w fun e w' => ∃ (a : Addr) (c : Array Value), e = .returned (.tuple #[.agg frame0, err a]) ∧ w.heap.size ≤ a.block ∧ w'.heap[a.block]? = some (.cells c 89 (0, 0)) ∧ w.grownBy w' (some rb) ∧ Rd w' rb gb cap l (i + (Lib.uvarint d).length + (Lib.uvarint r).length + 1) := by
  obtain ⟨b1, h1⟩ : ∃ b1, (bits .and .u8 (fl.toNat : Int) 1 != 0) = b1 := ⟨_, rfl⟩
  obtain ⟨b2, h2⟩ : ∃ b2, (bits .and .u8 (fl.toNat : Int) 2 != 0) = b2 := ⟨_, rfl⟩
  obtain ⟨b4, h4⟩ : ∃ b4, (bits .and .u8 (fl.toNat : Int) 4 != 0) = b4 := ⟨_, rfl⟩
  obtain ⟨b8, h8⟩ : ∃ b8, (bits .and .u8 (fl.toNat : Int) 8 != 0) = b8 := ⟨_, rfl⟩
  obtain ⟨b16, h16⟩ : ∃ b16, (bits .and .u8 (fl.toNat : Int) 16 != 0) = b16 := ⟨_, rfl⟩
  have hx0 := Rd.drop_add hl
  have mm := mRB
  go_enter Ybaf.func7, Ybaf.ntmps7
  go_wp2_with fail
  refine (readUint_ok _ rb gb cap i d l _ (h.alloc _) hd2 hl).mono ?_
  rintro e w1 ⟨rfl, hg1, hrd1⟩
  clear hl
  generalize hI1 : i + (Lib.uvarint d).length = i1 at *
  have HI1 := hid hI1
  clear hI1
  have hd0 : ((d : Int) == 0) = false := by simp; omega
  have HX0 : Hid (l.drop i1 = Lib.uvarint r ++ (fl :: rest)) := hx0
  clear hx0
  go_wp2_with fail
  refine (readUint_ok _ rb gb cap i1 r l _ hrd1 hr2 HX0.out).mono ?_
  rintro e w2 ⟨rfl, hg2, hrd2⟩
  have HX1 : Hid (l.drop (i1 + (Lib.uvarint r).length) = fl :: rest) := Rd.drop_add HX0.out
  generalize hI2 : i1 + (Lib.uvarint r).length = i2 at *
  have HIX : Hid (i2 + 1 = i + (Lib.uvarint d).length + (Lib.uvarint r).length + 1) := by
    show _ = _
    rw [← hI2, ← HI1.out]
  clear hI2
  have hi2 : i2 < l.length := by
    have := congrArg List.length HX1.out
    simp at this
    omega
  have HF : Hid (l[i2] = fl) := by
    have := HX1.out
    rw [List.drop_eq_getElem_cons hi2] at this
    exact (List.cons.inj this).1
  go_wp2_with fail
  have hB := readByte_ok w2 rb gb cap i2 l hrd2 hi2
  rw [HF.out] at hB
  refine hB.mono ?_
  rintro e w3 ⟨rfl, hg3, hrd3⟩
  go_wp2_with fail
  refine (flagFields_any _ w3.heap.size).mono ?_
  rintro e w4 ⟨rfl, hg4⟩
  obtain ⟨fb, HB⟩ : ∃ fb, Hid (fb = w3.heap.size) := ⟨_, rfl⟩
  obtain ⟨rs, HR⟩ : ∃ rs, Hid (rs = w.heap.size) := ⟨_, rfl⟩
  have hrs : rb < rs := by rw [HR.out]; exact h.size
  have hwl : w.heap.size ≤ rs := by rw [HR.out]; exact Nat.le_refl _
  have hfb : rs < fb := by
    have a1 := hg1.size
    have a2 := hg2.size
    have a3 := hg3.size
    rw [World.size_alloc] at a1
    have e1 := HR.out
    have e2 := HB.out
    omega
  have hwR : w4.heap[rs]? = some (.cells frame0 33 (0, 0)) := by
    have e1 : (w.alloc (Obj.cells frame0 33)).heap[rs]? = some (.cells frame0 33 (0, 0)) := by rw [HR.out, heap_alloc_new]
    have e2 := blk_grown hg3 (blk_grown hg2 (blk_grown hg1 e1 hrs) hrs) hrs
    refine (hg4.block rs ?_ (by simp)).trans ?_
    · have := blk_lt e2; simp; omega
    · rw [Below.heap_alloc _ _ _ (blk_lt e2)]; exact e2
  have hwF : w4.heap[fb]? = some (.cells (flagging d r b1 b2 b4 b8 b16 0) 33 (0, 0)) := by
    refine (hg4.block fb (by rw [HB.out]; simp) (by simp)).trans ?_
    rw [HB.out, heap_alloc_new]
    rfl
  have hgr4 : w.grownBy w4 (some rb) := by
    refine grown_trans (grown_trans (grown_trans (grown_trans (grown_alloc w _ _) hg1) hg2) hg3) ?_
    exact grown_trans (grown_alloc w3 _ _) ⟨hg4.os, hg4.tape, hg4.output, hg4.size, fun k hk _ => hg4.block k hk (by simp)⟩
  have hrd4 : Rd w4 rb gb cap l (i2 + 1) := (hrd3.alloc _).keep fun k hk => hg4.block k (by have := hrd3.size; simp; omega) (by simp)
  rw [← HB.out, ← HR.out]
  clear hg1 hg2 hg3 hg4 hrd1 hrd2 hrd3 hB HB
  go_wp2_with fail
  go_loopw [9, 47] (fun vk vi wr => ∃ k : Nat, vi = .int .i64 k ∧ vk = .int .u8 (known k) ∧ k ≤ 5 ∧ wr.heap[fb]? = some (.cells (flagging d r b1 b2 b4 b8 b16 k) 33 (0, 0)) ∧ wr.heap[rs]? = some (.cells frame0 33 (0, 0)) ∧ Rd wr rb gb cap l (i2 + 1) ∧ w.grownBy wr (some rb))
    (fun _ vi _ => 5 - (intOf vi).toNat)
  case atStart => exact ⟨0, rfl, rfl, by omega, hwF, hwR, hrd4, hgr4⟩
  case round =>
    obtain ⟨k, rfl, rfl, hk5, hF, hS, hrd, hgr⟩ := hrel
    clear hwF hwR hrd4 hgr4
    have hfl := blk_lt hF
    have hz := fun j => blk_frozen (k := j) hF
    have hcase : k = 0 ∨ k = 1 ∨ k = 2 ∨ k = 3 ∨ k = 4 ∨ k = 5 := by omega
    rcases hcase with rfl | rfl | rfl | rfl | rfl | rfl
    · have hix := idx0 fb
      have hor : bits .or .u8 (known 0) 1 = known 1 := or0
      have hc := blk_cell (k := 2) hF (by show 2 < 10; decide)
      have hz2 := hz 2
      go_wp2_with fail
      obtain ⟨q1, q2, q3, q4⟩ := flag_round (j := 2) (v := .bool b1) (.cells #[.int .u8 1, .pointer (some ⟨fb, 2, none⟩)] 54) hrs hfb hwl hF hS hrd hgr rfl
      exact ⟨⟨1, rfl, rfl, by omega, q1, q2, q3, q4⟩, by decide⟩
    · have hix := idx1 fb
      have hor : bits .or .u8 (known 1) 2 = known 2 := or1
      have hc := blk_cell (k := 4) hF (by show 4 < 10; decide)
      have hz2 := hz 4
      go_wp2_with fail
      obtain ⟨q1, q2, q3, q4⟩ := flag_round (j := 4) (v := .bool b2) (.cells #[.int .u8 2, .pointer (some ⟨fb, 4, none⟩)] 54) hrs hfb hwl hF hS hrd hgr rfl
      exact ⟨⟨2, rfl, rfl, by omega, q1, q2, q3, q4⟩, by decide⟩
    · have hix := idx2 fb
      have hor : bits .or .u8 (known 2) 4 = known 3 := or2
      have hc := blk_cell (k := 5) hF (by show 5 < 10; decide)
      have hz2 := hz 5
      go_wp2_with fail
      obtain ⟨q1, q2, q3, q4⟩ := flag_round (j := 5) (v := .bool b4) (.cells #[.int .u8 4, .pointer (some ⟨fb, 5, none⟩)] 54) hrs hfb hwl hF hS hrd hgr rfl
      exact ⟨⟨3, rfl, rfl, by omega, q1, q2, q3, q4⟩, by decide⟩
    · have hix := idx3 fb
      have hor : bits .or .u8 (known 3) 8 = known 4 := or3
      have hc := blk_cell (k := 6) hF (by show 6 < 10; decide)
      have hz2 := hz 6
      go_wp2_with fail
      obtain ⟨q1, q2, q3, q4⟩ := flag_round (j := 6) (v := .bool b8) (.cells #[.int .u8 8, .pointer (some ⟨fb, 6, none⟩)] 54) hrs hfb hwl hF hS hrd hgr rfl
      exact ⟨⟨4, rfl, rfl, by omega, q1, q2, q3, q4⟩, by decide⟩
    · have hix := idx4 fb
      have hor : bits .or .u8 (known 4) 16 = known 5 := or4
      have hc := blk_cell (k := 7) hF (by show 7 < 10; decide)
      have hz2 := hz 7
      go_wp2_with fail
      obtain ⟨q1, q2, q3, q4⟩ := flag_round (j := 7) (v := .bool b16) (.cells #[.int .u8 16, .pointer (some ⟨fb, 7, none⟩)] 54) hrs hfb hwl hF hS hrd hgr rfl
      exact ⟨⟨5, rfl, rfl, by omega, q1, q2, q3, q4⟩, by decide⟩
    · have hkn : (bits .andNot .u8 (fl.toNat : Int) (known 5) != 0) = true := hk
      clear hz hk HX0 HX1 HF
      have hSl := blk_lt hS
      have hgw : w.heap.size ≤ wr.heap.size := hgr.size
      obtain ⟨s0, s1, s2, s3, s4, s5, s6, s7, s8, s9⟩ := frameCells (show wr.heap[rs]? = some (.cells (frameOf 0 0 false nilS false false false false 0 nilS) 33 (0, 0)) from hS)
      have zs := fun j => blk_frozen (k := j) hS
      go_wp2_with fail
      refine (errorf_any _ wr.heap.size (r : Int) (fl.toNat : Int) (known 5) (by simp) (by simp) (by simp)).mono ?_
      rintro e w5 ⟨s, rfl, rfl⟩
      go_wp2_with fail
      have T1 := ten_same hS (.int .i64 0) (.int .i64 0) (.bool false) (.slice none 0 0) (.bool false) (.bool false) (.bool false) (.bool false) (.int .i64 0) (.slice none 0 0)
      have T3 := tenR hgr hrd hrs hwl (.int .i64 0) (.int .i64 0) (.bool false) (.slice none 0 0) (.bool false) (.bool false) (.bool false) (.bool false) (.int .i64 0) (.slice none 0 0)
      have T4 : ((((((((((wr.setCell ⟨rs, 0, none⟩ (.int .i64 0)).setCell ⟨rs, 1, none⟩ (.int .i64 0)).setCell ⟨rs, 2, none⟩ (.bool false)).setCell ⟨rs, 3, none⟩ (.slice none 0 0)).setCell ⟨rs, 4, none⟩ (.bool false)).setCell ⟨rs, 5, none⟩ (.bool false)).setCell ⟨rs, 6, none⟩ (.bool false)).setCell ⟨rs, 7, none⟩ (.bool false)).setCell ⟨rs, 8, none⟩ (.int .i64 0)).setCell ⟨rs, 9, none⟩ (.slice none 0 0)).heap.size = wr.heap.size := by simp
      generalize (((((((((wr.setCell ⟨rs, 0, none⟩ (.int .i64 0)).setCell ⟨rs, 1, none⟩ (.int .i64 0)).setCell ⟨rs, 2, none⟩ (.bool false)).setCell ⟨rs, 3, none⟩ (.slice none 0 0)).setCell ⟨rs, 4, none⟩ (.bool false)).setCell ⟨rs, 5, none⟩ (.bool false)).setCell ⟨rs, 6, none⟩ (.bool false)).setCell ⟨rs, 7, none⟩ (.bool false)).setCell ⟨rs, 8, none⟩ (.int .i64 0)).setCell ⟨rs, 9, none⟩ (.slice none 0 0) = wz at *
      have e1 : ((wz.alloc (.cells #[.iface 3 (.int .i64 (r : Int)), .iface 5 (.int .u8 (fl.toNat : Int)), .iface 5 (.int .u8 (known 5))] 20)).alloc (.cells #[.string s] 89)).drew.heap[rs]? = some (.cells (frameOf 0 0 false nilS false false false false 0 nilS) 33 (0, 0)) :=
        (Below.heap_alloc _ _ rs (by simp; omega)).trans ((Below.heap_alloc wz _ rs (by omega)).trans T1)
      have e2 : ((wz.alloc (.cells #[.iface 3 (.int .i64 (r : Int)), .iface 5 (.int .u8 (fl.toNat : Int)), .iface 5 (.int .u8 (known 5))] 20)).alloc (.cells #[.string s] 89)).drew.heap[wr.heap.size + 1]? = some (.cells #[.string s] 89 (0, 0)) := by
        have := heap_alloc_new (wz.alloc (.cells #[.iface 3 (.int .i64 (r : Int)), .iface 5 (.int .u8 (fl.toNat : Int)), .iface 5 (.int .u8 (known 5))] 20)) (.cells #[.string s] 89)
        rw [World.size_alloc, T4] at this
        exact this
      have e3 := grown_allocR (grown_allocR T3.2 (.cells #[.iface 3 (.int .i64 (r : Int)), .iface 5 (.int .u8 (fl.toNat : Int)), .iface 5 (.int .u8 (known 5))] 20)) (.cells #[.string s] 89)
      have e4 := (T3.1.alloc (.cells #[.iface 3 (.int .i64 (r : Int)), .iface 5 (.int .u8 (fl.toNat : Int)), .iface 5 (.int .u8 (known 5))] 20)).alloc (.cells #[.string s] 89)
      obtain ⟨t0, t1, t2, t3, t4, t5, t6, t7, t8, t9⟩ := frameCells e1
      refine bodyPost_ret (v := .tuple #[.agg frame0, err ⟨wr.heap.size + 1, 0, none⟩]) (by simp only [World.cell?_drew] at t0 t1 t2 t3 t4 t5 t6 t7 t8 t9; simp [results, Ybaf.results7, go_sem, t0, t1, t2, t3, t4, t5, t6, t7, t8, t9]) rfl ?_
      have HI := HIX.out
      exact ⟨⟨wr.heap.size + 1, 0, none⟩, _, rfl, by show w.heap.size ≤ wr.heap.size + 1; omega, e2, ⟨e3.os, e3.tape, e3.output, e3.size, e3.block⟩, by rw [← HI]; exact e4.drewN 1⟩

set_option maxHeartbeats 4000000 in
set_option maxRecDepth 100000 in
theorem readFrame_stop (w : World) (rb gb cap i : Nat) (l rest : List UInt8) (h : Rd w rb gb cap l i) (aE aU aS aO : Addr) (hgl : Gl w aE aU aS aO) (hrb : 4 ≤ rb) (hl : l.drop i = 0 :: rest) :
    Calls Ybaf.prog 7 #[rdr rb] w fun e w' => e = .returned (.tuple #[.agg frame0, err aS]) ∧ w.grownBy w' (some rb) ∧ Rd w' rb gb cap l (i + 1) := by
  obtain ⟨rs, HR⟩ : ∃ rs, Hid (rs = w.heap.size) := ⟨_, rfl⟩
  have hrs : rb < rs := by rw [HR.out]; exact h.size
  have hwl : w.heap.size ≤ rs := by rw [HR.out]; exact Nat.le_refl _
  have hS0 : (w.alloc (Obj.cells frame0 33)).heap[rs]? = some (.cells frame0 33 (0, 0)) := by rw [HR.out, heap_alloc_new]
  have hglA : Gl (w.alloc (Obj.cells frame0 33)) aE aU aS aO := hgl.grown (grown_alloc w _ (some rb)) hrb
  have hGA := grown_alloc w (Obj.cells frame0 33) (some rb)
  have hu0 : Lib.uvarint 0 = [0] := Lib.uvarint_small (by decide)
  have hU := readUint_ok (w.alloc (Obj.cells frame0 33)) rb gb cap i 0 l rest (h.alloc _) (by decide) (by rw [hu0]; exact hl)
  rw [hu0] at hU
  clear hl hu0
  go_enter Ybaf.func7, Ybaf.ntmps7
  go_wp2_with fail
  refine hU.mono ?_
  rintro e w1 ⟨rfl, hg1, hrd1⟩
  have hS1 := blk_grown hg1 hS0 hrs
  have hG1 := grown_trans hGA hg1
  have g2 := (hglA.grown hg1 hrb).g2
  rw [← HR.out]
  clear hU hg1 hGA hS0
  obtain ⟨s0, s1, s2, s3, s4, s5, s6, s7, s8, s9⟩ := frameCells (show w1.heap[rs]? = some (.cells (frameOf 0 0 false nilS false false false false 0 nilS) 33 (0, 0)) from hS1)
  have zs := fun j => blk_frozen (k := j) hS1
  have h2r : ¬ (2 : Nat) = rs := by omega
  have hr2 : ¬ rs = 2 := by omega
  go_wp2_with fail
  go_region
  all_goals go_wp2
  have T1 := ten_same hS1 (.int .i64 0) (.int .i64 0) (.bool false) (.slice none 0 0) (.bool false) (.bool false) (.bool false) (.bool false) (.int .i64 0) (.slice none 0 0)
  have T3 := tenR hG1 hrd1 hrs hwl (.int .i64 0) (.int .i64 0) (.bool false) (.slice none 0 0) (.bool false) (.bool false) (.bool false) (.bool false) (.int .i64 0) (.slice none 0 0)
  generalize (((((((((w1.setCell ⟨rs, 0, none⟩ (.int .i64 0)).setCell ⟨rs, 1, none⟩ (.int .i64 0)).setCell ⟨rs, 2, none⟩ (.bool false)).setCell ⟨rs, 3, none⟩ (.slice none 0 0)).setCell ⟨rs, 4, none⟩ (.bool false)).setCell ⟨rs, 5, none⟩ (.bool false)).setCell ⟨rs, 6, none⟩ (.bool false)).setCell ⟨rs, 7, none⟩ (.bool false)).setCell ⟨rs, 8, none⟩ (.int .i64 0)).setCell ⟨rs, 9, none⟩ (.slice none 0 0) = wz at *
  obtain ⟨t0, t1, t2, t3, t4, t5, t6, t7, t8, t9⟩ := frameCells (show wz.heap[rs]? = some (.cells (frameOf 0 0 false nilS false false false false 0 nilS) 33 (0, 0)) from T1)
  refine bodyPost_ret (v := .tuple #[.agg frame0, err aS]) (by simp [results, Ybaf.results7, go_sem, t0, t1, t2, t3, t4, t5, t6, t7, t8, t9]) rfl ?_
  exact ⟨rfl, grown_trans T3.2 (grown_drewN _ 1 _), T3.1.drewN 1⟩
end Go.Proofs.YbulkbsrsFmt
