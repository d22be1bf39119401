/-
  readFrame OVER THE LAWS' READER: a frame whose first three parts are whole: the rest is whole, or is cut short. (The eight ways through its tail by a program of the prover's own.)
-/
import Derived.Test.YbulkbsrsFmtFrameA
namespace Go.Proofs.YbulkbsrsFmt
open Go Go.RowKit

theorem hid {p : Prop} (h : p) : Hid p := h

set_option linter.unusedSimpArgs false in
set_option maxHeartbeats 8000000 in
set_option maxRecDepth 100000 in
theorem readFrame_mid (sc : Nat) (w : World) (rb gb cap i d r : Nat) (fl : UInt8) (b1 b2 b4 b8 b16 : Bool) (l rest : List UInt8) (h : Rd w rb gb cap l i) (aE aU aS aO : Addr) (hgl : Gl w aE aU aS aO) (hrb : 4 ≤ rb)
    (vs : List Int) (x : Int) (ps : List Nat) (rest2 suf : List UInt8) (hvn : vs.length ≤ 65536) (hvf : ∀ v ∈ vs, Fits v) (hx : Fits x) (hpn : ps.length ≤ 65536) (hpi : Inc ps)
    (hd : 1 ≤ d) (hd2 : d < 9223372036854775808) (hr2 : r < 9223372036854775808)
    (hl : l.drop i = Lib.uvarint d ++ (Lib.uvarint r ++ (fl :: rest)))
    (h1 : (bits .and .u8 (fl.toNat : Int) 1 != 0) = b1) (h2 : (bits .and .u8 (fl.toNat : Int) 2 != 0) = b2) (h4 : (bits .and .u8 (fl.toNat : Int) 4 != 0) = b4) (h8 : (bits .and .u8 (fl.toNat : Int) 8 != 0) = b8) (h16 : (bits .and .u8 (fl.toNat : Int) 16 != 0) = b16)
    (hk : (bits .andNot .u8 (fl.toNat : Int) 31 != 0) = false)
    (hA : sc = 0 → rest = encV b1 vs ++ (encX b2 x ++ (Lib.uvarint ps.length ++ (encU ps ++ rest2))))
    (hB : sc = 1 → suf ≠ [] ∧ rest ++ suf = encV b1 vs ++ (encX b2 x ++ (Lib.uvarint ps.length ++ encU ps))) (hsc : sc = 0 ∨ sc = 1) :
    Calls Ybaf.prog 7 #[rdr rb] w fun e w' => FramePost sc e w w' rb gb cap d r b1 b2 b4 b8 b16 l vs x ps rest2 aE aU := by
  have hx0 := Rd.drop_add hl
  have mm := mRB
  go_enter Ybaf.func7, Ybaf.ntmps7
  go_wp2_with fail
  refine (readUint_ok _ rb gb cap i d l _ (h.alloc _) hd2 hl).mono ?_
  rintro e w1 ⟨rfl, hg1, hrd1⟩
  clear hl
  generalize i + (Lib.uvarint d).length = i1 at *
  have hd0 : ((d : Int) == 0) = false := by simp; omega
  have HX0 : Hid (l.drop i1 = Lib.uvarint r ++ (fl :: rest)) := hx0
  clear hx0
  go_wp2_with fail
  refine (readUint_ok _ rb gb cap i1 r l _ hrd1 hr2 HX0.out).mono ?_
  rintro e w2 ⟨rfl, hg2, hrd2⟩
  have HX1 : Hid (l.drop (i1 + (Lib.uvarint r).length) = fl :: rest) := Rd.drop_add HX0.out
  generalize i1 + (Lib.uvarint r).length = i2 at *
  have hi2 : i2 < l.length := by
    have := congrArg List.length HX1.out
    simp at this
    omega
  have HF : Hid (l[i2] = fl) := by
    have := HX1.out
    rw [List.drop_eq_getElem_cons hi2] at this
    exact (List.cons.inj this).1
  go_wp2_with fail
  have hRB := readByte_ok w2 rb gb cap i2 l hrd2 hi2
  rw [HF.out] at hRB
  refine hRB.mono ?_
  rintro e w3 ⟨rfl, hg3, hrd3⟩
  go_wp2_with fail
  refine (flagFields_any _ w3.heap.size).mono ?_
  rintro e w4 ⟨rfl, hg4⟩
  obtain ⟨fb, HB⟩ : ∃ fb, Hid (fb = w3.heap.size) := ⟨_, rfl⟩
  obtain ⟨rs, HR⟩ : ∃ rs, Hid (rs = w.heap.size) := ⟨_, rfl⟩
  have hrs : rb < rs := by rw [HR.out]; exact h.size
  have hwl : w.heap.size ≤ rs := by rw [HR.out]; exact Nat.le_refl _
  have hfb : rs < fb := by
    have a1 := hg1.size
    have a2 := hg2.size
    have a3 := hg3.size
    rw [World.size_alloc] at a1
    have e1 := HR.out
    have e2 := HB.out
    omega
  have hwR : w4.heap[rs]? = some (.cells frame0 33 (0, 0)) := by
    have e1 : (w.alloc (Obj.cells frame0 33)).heap[rs]? = some (.cells frame0 33 (0, 0)) := by rw [HR.out, heap_alloc_new]
    have e2 := blk_grown hg3 (blk_grown hg2 (blk_grown hg1 e1 hrs) hrs) hrs
    refine (hg4.block rs ?_ (by simp)).trans ?_
    · have := blk_lt e2; simp; omega
    · rw [Below.heap_alloc _ _ _ (blk_lt e2)]; exact e2
  have hwF : w4.heap[fb]? = some (.cells (flagging d r b1 b2 b4 b8 b16 0) 33 (0, 0)) := by
    refine (hg4.block fb (by rw [HB.out]; simp) (by simp)).trans ?_
    rw [HB.out, heap_alloc_new]
    rfl
  have hgr4 : w.grownBy w4 (some rb) := by
    refine grown_trans (grown_trans (grown_trans (grown_trans (grown_alloc w _ _) hg1) hg2) hg3) ?_
    exact grown_trans (grown_alloc w3 _ _) ⟨hg4.os, hg4.tape, hg4.output, hg4.size, fun k hk _ => hg4.block k hk (by simp)⟩
  have hrd4 : Rd w4 rb gb cap l (i2 + 1) := (hrd3.alloc _).keep fun k hk => hg4.block k (by have := hrd3.size; simp; omega) (by simp)
  rw [← HB.out, ← HR.out]
  clear hg1 hg2 hg3 hg4 hrd1 hrd2 hrd3 hRB HB
  go_wp2_with fail
  go_loopw [9, 47] (fun vk vi wr => ∃ k : Nat, vi = .int .i64 k ∧ vk = .int .u8 (known k) ∧ k ≤ 5 ∧ wr.heap[fb]? = some (.cells (flagging d r b1 b2 b4 b8 b16 k) 33 (0, 0)) ∧ wr.heap[rs]? = some (.cells frame0 33 (0, 0)) ∧ Rd wr rb gb cap l (i2 + 1) ∧ w.grownBy wr (some rb))
    (fun _ vi _ => 5 - (intOf vi).toNat)
  case atStart => exact ⟨0, rfl, rfl, by omega, hwF, hwR, hrd4, hgr4⟩
  case round =>
    obtain ⟨k, rfl, rfl, hk5, hF, hS, hrd, hgr⟩ := hrel
    clear hwF hwR hrd4 hgr4
    have hfl := blk_lt hF
    have hz := fun j => blk_frozen (k := j) hF
    have hcase : k = 0 ∨ k = 1 ∨ k = 2 ∨ k = 3 ∨ k = 4 ∨ k = 5 := by omega
    rcases hcase with rfl | rfl | rfl | rfl | rfl | rfl
    · have hix := idx0 fb
      have hor : bits .or .u8 (known 0) 1 = known 1 := or0
      have hc := blk_cell (k := 2) hF (by show 2 < 10; decide)
      have hz2 := hz 2
      go_wp2_with fail
      obtain ⟨q1, q2, q3, q4⟩ := flag_round (j := 2) (v := .bool b1) (.cells #[.int .u8 1, .pointer (some ⟨fb, 2, none⟩)] 54) hrs hfb hwl hF hS hrd hgr rfl
      exact ⟨⟨1, rfl, rfl, by omega, q1, q2, q3, q4⟩, by decide⟩
    · have hix := idx1 fb
      have hor : bits .or .u8 (known 1) 2 = known 2 := or1
      have hc := blk_cell (k := 4) hF (by show 4 < 10; decide)
      have hz2 := hz 4
      go_wp2_with fail
      obtain ⟨q1, q2, q3, q4⟩ := flag_round (j := 4) (v := .bool b2) (.cells #[.int .u8 2, .pointer (some ⟨fb, 4, none⟩)] 54) hrs hfb hwl hF hS hrd hgr rfl
      exact ⟨⟨2, rfl, rfl, by omega, q1, q2, q3, q4⟩, by decide⟩
    · have hix := idx2 fb
      have hor : bits .or .u8 (known 2) 4 = known 3 := or2
      have hc := blk_cell (k := 5) hF (by show 5 < 10; decide)
      have hz2 := hz 5
      go_wp2_with fail
      obtain ⟨q1, q2, q3, q4⟩ := flag_round (j := 5) (v := .bool b4) (.cells #[.int .u8 4, .pointer (some ⟨fb, 5, none⟩)] 54) hrs hfb hwl hF hS hrd hgr rfl
      exact ⟨⟨3, rfl, rfl, by omega, q1, q2, q3, q4⟩, by decide⟩
    · have hix := idx3 fb
      have hor : bits .or .u8 (known 3) 8 = known 4 := or3
      have hc := blk_cell (k := 6) hF (by show 6 < 10; decide)
      have hz2 := hz 6
      go_wp2_with fail
      obtain ⟨q1, q2, q3, q4⟩ := flag_round (j := 6) (v := .bool b8) (.cells #[.int .u8 8, .pointer (some ⟨fb, 6, none⟩)] 54) hrs hfb hwl hF hS hrd hgr rfl
      exact ⟨⟨4, rfl, rfl, by omega, q1, q2, q3, q4⟩, by decide⟩
    · have hix := idx4 fb
      have hor : bits .or .u8 (known 4) 16 = known 5 := or4
      have hc := blk_cell (k := 7) hF (by show 7 < 10; decide)
      have hz2 := hz 7
      go_wp2_with fail
      obtain ⟨q1, q2, q3, q4⟩ := flag_round (j := 7) (v := .bool b16) (.cells #[.int .u8 16, .pointer (some ⟨fb, 7, none⟩)] 54) hrs hfb hwl hF hS hrd hgr rfl
      exact ⟨⟨5, rfl, rfl, by omega, q1, q2, q3, q4⟩, by decide⟩
    · have hkn : (bits .andNot .u8 (fl.toNat : Int) (known 5) != 0) = false := hk
      have HX2 : Hid (l.drop (i2 + 1) = rest) := by
        have := HX1.out
        rw [List.drop_eq_getElem_cons hi2] at this
        exact (List.cons.inj this).2
      generalize i2 + 1 = i3 at *
      clear hz hk HX0 HX1 HF
      have HA : Hid (sc = 0 → rest = encV b1 vs ++ (encX b2 x ++ (Lib.uvarint ps.length ++ (encU ps ++ rest2)))) := hA
      have HBB : Hid (sc = 1 → suf ≠ [] ∧ rest ++ suf = encV b1 vs ++ (encX b2 x ++ (Lib.uvarint ps.length ++ encU ps))) := hB
      clear hA hB
      have st0 : St w wr rb gb cap fb rs i3 l (frameOf d r b1 nilS b2 b4 b8 b16 0 nilS) := ⟨hF, hS, hrd, hgr⟩
      have hws := blk_lt hF
      clear hF hS hrd hgr
      obtain ⟨-, -, c2, -, c4, -, -, -, -, -⟩ := frameCells st0.F
      by_cases h0 : sc = 0
      · have HR0 := hid (HA.out h0)
        clear HA HBB
        cases b1 <;> cases b2
        · have HQ := HX2.out
          rw [HR0.out] at HQ
          simp only [encV, encX, Bool.false_eq_true, if_true, if_false, List.nil_append, List.append_assoc] at HQ
          have HDX := hid HQ
          clear HQ
          go_wp2_with fail
          obtain ⟨px, HPX⟩ : ∃ px, px = i3 := ⟨_, rfl⟩
          rw [← HPX] at HDX st0
          clear HPX
          refine (readCrashed_ok wr rb gb cap px r ps l _ st0.R hpn hpi HDX.out).mono ?_
          rintro e we ⟨g2, rfl, hown, hge, p, hrde, hdp⟩
          have HDP : Hid (l.drop p = rest2) := hdp
          clear hdp
          have st5 := st0.call hrs hfb hge hrde
          have hownF := own_set hown (b := fb) (o := 9) (.slice (some ⟨g2, 0, none⟩) ps.length ps.length) (blk_lt st0.F)
          have z9 := blk_frozen (k := 9) st5.F
          have st6 := st5.set hrs hfb hwl 9 (.slice (some ⟨g2, 0, none⟩) ps.length ps.length) (c' := frameOf d r false nilS false b4 b8 b16 0 (.slice (some ⟨g2, 0, none⟩) ps.length ps.length)) rfl
          obtain ⟨a0, a1, a2, a3, a4, a5, a6, a7, a8, a9⟩ := frameCells st5.F
          obtain ⟨s0, s1, s2, s3, s4, s5, s6, s7, s8, s9⟩ := frameCells (show we.heap[rs]? = some (.cells (frameOf 0 0 false nilS false false false false 0 nilS) 33 (0, 0)) from st5.S)
          have zs := fun j => blk_frozen (k := j) st5.S
          have hnf : ¬ fb = rs := by omega
          have hnr : ¬ rs = fb := by omega
          go_wp2_with fail
          have T1 := ten_same st6.S (.int .i64 d) (.int .i64 r) (.bool false) (.slice none 0 0) (.bool false) (.bool b4) (.bool b8) (.bool b16) (.int .i64 0) (.slice (some ⟨g2, 0, none⟩) ps.length ps.length)
          have T2 := ten (we.setCell ⟨fb, 9, none⟩ (.slice (some ⟨g2, 0, none⟩) ps.length ps.length)) rs (.int .i64 d) (.int .i64 r) (.bool false) (.slice none 0 0) (.bool false) (.bool b4) (.bool b8) (.bool b16) (.int .i64 0) (.slice (some ⟨g2, 0, none⟩) ps.length ps.length)
          have T3 := st6.ten hrs hwl (.int .i64 d) (.int .i64 r) (.bool false) (.slice none 0 0) (.bool false) (.bool b4) (.bool b8) (.bool b16) (.int .i64 0) (.slice (some ⟨g2, 0, none⟩) ps.length ps.length)
          generalize ((((((((((we.setCell ⟨fb, 9, none⟩ (.slice (some ⟨g2, 0, none⟩) ps.length ps.length)).setCell ⟨rs, 0, none⟩ (.int .i64 d)).setCell ⟨rs, 1, none⟩ (.int .i64 r)).setCell ⟨rs, 2, none⟩ (.bool false)).setCell ⟨rs, 3, none⟩ (.slice none 0 0)).setCell ⟨rs, 4, none⟩ (.bool false)).setCell ⟨rs, 5, none⟩ (.bool b4)).setCell ⟨rs, 6, none⟩ (.bool b8)).setCell ⟨rs, 7, none⟩ (.bool b16)).setCell ⟨rs, 8, none⟩ (.int .i64 0)).setCell ⟨rs, 9, none⟩ (.slice (some ⟨g2, 0, none⟩) ps.length ps.length) = wz at *
          obtain ⟨t0, t1, t2, t3, t4, t5, t6, t7, t8, t9⟩ := frameCells T1
          refine bodyPost_ret (v := .tuple #[.agg (frameOf d r false nilS false b4 b8 b16 0 (.slice (some ⟨g2, 0, none⟩) ps.length ps.length)), .nilIface]) (by simp [results, Ybaf.results7, go_sem, frameOf, t0, t1, t2, t3, t4, t5, t6, t7, t8, t9]) rfl ?_
          refine ⟨fun _ => ?_, fun hq => by omega⟩
          exact ⟨_, _, g2, p, rfl, (fun h => by cases h), (fun _ => rfl), rfl, own_keep hownF (T2 g2 (by have := (hown.lt g2 rfl).1; have := blk_lt st0.S; omega)) st0.G.size, T3.2, T3.1, HDP.out⟩
        · have HQ := HX2.out
          rw [HR0.out] at HQ
          simp only [encV, encX, Bool.false_eq_true, if_true, if_false, List.nil_append, List.append_assoc] at HQ
          have HDV := hid HQ
          clear HQ
          go_wp2_with fail
          obtain ⟨pv, HPV⟩ : ∃ pv, pv = i3 := ⟨_, rfl⟩
          rw [← HPV] at HDV st0
          clear HPV
          refine (readInt_ok wr rb gb cap pv x r l _ st0.R hx.1 hx.2 HDV.out).mono ?_
          rintro e wc ⟨rfl, hgc, hrdc⟩
          have HDX := hid (Rd.drop_add HDV.out)
          generalize pv + (Lib.uvarint (Lib.zigzag x)).length = px at *
          have st3 := st0.call hrs hfb hgc hrdc
          obtain ⟨-, -, -, -, -, -, -, -, a8, -⟩ := frameCells st3.F
          have z8 := blk_frozen (k := 8) st3.F
          go_wp2_with fail
          have st4 := st3.set hrs hfb hwl 8 (.int .i64 x) (c' := frameOf d r false nilS true b4 b8 b16 x nilS) rfl
          generalize wc.setCell ⟨fb, 8, none⟩ (.int .i64 x) = wd at *
          clear a8 z8 st3  hrdc hgc
          refine (readCrashed_ok wd rb gb cap px r ps l _ st4.R hpn hpi HDX.out).mono ?_
          rintro e we ⟨g2, rfl, hown, hge, p, hrde, hdp⟩
          have HDP : Hid (l.drop p = rest2) := hdp
          clear hdp
          have st5 := st4.call hrs hfb hge hrde
          have hownF := own_set hown (b := fb) (o := 9) (.slice (some ⟨g2, 0, none⟩) ps.length ps.length) (blk_lt st4.F)
          have z9 := blk_frozen (k := 9) st5.F
          have st6 := st5.set hrs hfb hwl 9 (.slice (some ⟨g2, 0, none⟩) ps.length ps.length) (c' := frameOf d r false nilS true b4 b8 b16 x (.slice (some ⟨g2, 0, none⟩) ps.length ps.length)) rfl
          obtain ⟨a0, a1, a2, a3, a4, a5, a6, a7, a8, a9⟩ := frameCells st5.F
          obtain ⟨s0, s1, s2, s3, s4, s5, s6, s7, s8, s9⟩ := frameCells (show we.heap[rs]? = some (.cells (frameOf 0 0 false nilS false false false false 0 nilS) 33 (0, 0)) from st5.S)
          have zs := fun j => blk_frozen (k := j) st5.S
          have hnf : ¬ fb = rs := by omega
          have hnr : ¬ rs = fb := by omega
          go_wp2_with fail
          have T1 := ten_same st6.S (.int .i64 d) (.int .i64 r) (.bool false) (.slice none 0 0) (.bool true) (.bool b4) (.bool b8) (.bool b16) (.int .i64 x) (.slice (some ⟨g2, 0, none⟩) ps.length ps.length)
          have T2 := ten (we.setCell ⟨fb, 9, none⟩ (.slice (some ⟨g2, 0, none⟩) ps.length ps.length)) rs (.int .i64 d) (.int .i64 r) (.bool false) (.slice none 0 0) (.bool true) (.bool b4) (.bool b8) (.bool b16) (.int .i64 x) (.slice (some ⟨g2, 0, none⟩) ps.length ps.length)
          have T3 := st6.ten hrs hwl (.int .i64 d) (.int .i64 r) (.bool false) (.slice none 0 0) (.bool true) (.bool b4) (.bool b8) (.bool b16) (.int .i64 x) (.slice (some ⟨g2, 0, none⟩) ps.length ps.length)
          generalize ((((((((((we.setCell ⟨fb, 9, none⟩ (.slice (some ⟨g2, 0, none⟩) ps.length ps.length)).setCell ⟨rs, 0, none⟩ (.int .i64 d)).setCell ⟨rs, 1, none⟩ (.int .i64 r)).setCell ⟨rs, 2, none⟩ (.bool false)).setCell ⟨rs, 3, none⟩ (.slice none 0 0)).setCell ⟨rs, 4, none⟩ (.bool true)).setCell ⟨rs, 5, none⟩ (.bool b4)).setCell ⟨rs, 6, none⟩ (.bool b8)).setCell ⟨rs, 7, none⟩ (.bool b16)).setCell ⟨rs, 8, none⟩ (.int .i64 x)).setCell ⟨rs, 9, none⟩ (.slice (some ⟨g2, 0, none⟩) ps.length ps.length) = wz at *
          obtain ⟨t0, t1, t2, t3, t4, t5, t6, t7, t8, t9⟩ := frameCells T1
          refine bodyPost_ret (v := .tuple #[.agg (frameOf d r false nilS true b4 b8 b16 x (.slice (some ⟨g2, 0, none⟩) ps.length ps.length)), .nilIface]) (by simp [results, Ybaf.results7, go_sem, frameOf, t0, t1, t2, t3, t4, t5, t6, t7, t8, t9]) rfl ?_
          refine ⟨fun _ => ?_, fun hq => by omega⟩
          exact ⟨_, _, g2, p, rfl, (fun h => by cases h), (fun _ => rfl), rfl, own_keep hownF (T2 g2 (by have := (hown.lt g2 rfl).1; have := blk_lt st4.S; omega)) st4.G.size, T3.2, T3.1, HDP.out⟩
        · have HQ := HX2.out
          rw [HR0.out] at HQ
          simp only [encV, encX, Bool.false_eq_true, if_true, if_false, List.nil_append, List.append_assoc] at HQ
          replace HQ := hid HQ
          have hV := readValues_ok wr rb gb cap i3 r vs l _ st0.R hvn hvf HQ.out
          go_wp2_with fail
          refine hV.mono ?_
          rintro e wa ⟨g, rfl, hgw, hv, hga, pv, hrda, hdv⟩
          have HDV := hid hdv
          clear hdv hV
          have st1 := st0.call hrs hfb hga hrda
          obtain ⟨-, -, -, a3, a4, -, -, -, -, -⟩ := frameCells st1.F
          have z3 := blk_frozen (k := 3) st1.F
          go_wp2_with fail
          have st2 := st1.set hrs hfb hwl 3 (.slice (some ⟨g, 0, none⟩) vs.length vs.length) (c' := frameOf d r true (.slice (some ⟨g, 0, none⟩) vs.length vs.length) false b4 b8 b16 0 nilS) rfl
          have hvx : (wa.setCell ⟨fb, 3, none⟩ (.slice (some ⟨g, 0, none⟩) vs.length vs.length)).heap[g]? = some (.cells (vs.map (Value.int .i64)).toArray 3 (0, 0)) := (Below.heap_setCell wa _ _ g (by simp; omega)).trans hv
          generalize wa.setCell ⟨fb, 3, none⟩ (.slice (some ⟨g, 0, none⟩) vs.length vs.length) = wb at *
          clear a3 z3 a4 hv hga hrda st1
          have HDX := HDV
          have px := pv
          clear HDX px
          obtain ⟨px, HPX⟩ : ∃ px, px = pv := ⟨_, rfl⟩
          rw [← HPX] at HDV st2
          have HDX := HDV
          clear HPX HDV
          refine (readCrashed_ok wb rb gb cap px r ps l _ st2.R hpn hpi HDX.out).mono ?_
          rintro e we ⟨g2, rfl, hown, hge, p, hrde, hdp⟩
          have HDP : Hid (l.drop p = rest2) := hdp
          clear hdp
          have st5 := st2.call hrs hfb hge hrde
          have hv5 := blk_grown hge hvx (by omega)
          have hownF := own_set hown (b := fb) (o := 9) (.slice (some ⟨g2, 0, none⟩) ps.length ps.length) (blk_lt st2.F)
          have z9 := blk_frozen (k := 9) st5.F
          have st6 := st5.set hrs hfb hwl 9 (.slice (some ⟨g2, 0, none⟩) ps.length ps.length) (c' := frameOf d r true (.slice (some ⟨g, 0, none⟩) vs.length vs.length) false b4 b8 b16 0 (.slice (some ⟨g2, 0, none⟩) ps.length ps.length)) rfl
          have hv6 : (we.setCell ⟨fb, 9, none⟩ (.slice (some ⟨g2, 0, none⟩) ps.length ps.length)).heap[g]? = some (.cells (vs.map (Value.int .i64)).toArray 3 (0, 0)) := (Below.heap_setCell we _ _ g (by simp; omega)).trans hv5
          obtain ⟨a0, a1, a2, a3, a4, a5, a6, a7, a8, a9⟩ := frameCells st5.F
          obtain ⟨s0, s1, s2, s3, s4, s5, s6, s7, s8, s9⟩ := frameCells (show we.heap[rs]? = some (.cells (frameOf 0 0 false nilS false false false false 0 nilS) 33 (0, 0)) from st5.S)
          have zs := fun j => blk_frozen (k := j) st5.S
          have hnf : ¬ fb = rs := by omega
          have hnr : ¬ rs = fb := by omega
          go_wp2_with fail
          have T1 := ten_same st6.S (.int .i64 d) (.int .i64 r) (.bool true) (.slice (some ⟨g, 0, none⟩) vs.length vs.length) (.bool false) (.bool b4) (.bool b8) (.bool b16) (.int .i64 0) (.slice (some ⟨g2, 0, none⟩) ps.length ps.length)
          have T2 := ten (we.setCell ⟨fb, 9, none⟩ (.slice (some ⟨g2, 0, none⟩) ps.length ps.length)) rs (.int .i64 d) (.int .i64 r) (.bool true) (.slice (some ⟨g, 0, none⟩) vs.length vs.length) (.bool false) (.bool b4) (.bool b8) (.bool b16) (.int .i64 0) (.slice (some ⟨g2, 0, none⟩) ps.length ps.length)
          have T3 := st6.ten hrs hwl (.int .i64 d) (.int .i64 r) (.bool true) (.slice (some ⟨g, 0, none⟩) vs.length vs.length) (.bool false) (.bool b4) (.bool b8) (.bool b16) (.int .i64 0) (.slice (some ⟨g2, 0, none⟩) ps.length ps.length)
          generalize ((((((((((we.setCell ⟨fb, 9, none⟩ (.slice (some ⟨g2, 0, none⟩) ps.length ps.length)).setCell ⟨rs, 0, none⟩ (.int .i64 d)).setCell ⟨rs, 1, none⟩ (.int .i64 r)).setCell ⟨rs, 2, none⟩ (.bool true)).setCell ⟨rs, 3, none⟩ (.slice (some ⟨g, 0, none⟩) vs.length vs.length)).setCell ⟨rs, 4, none⟩ (.bool false)).setCell ⟨rs, 5, none⟩ (.bool b4)).setCell ⟨rs, 6, none⟩ (.bool b8)).setCell ⟨rs, 7, none⟩ (.bool b16)).setCell ⟨rs, 8, none⟩ (.int .i64 0)).setCell ⟨rs, 9, none⟩ (.slice (some ⟨g2, 0, none⟩) ps.length ps.length) = wz at *
          obtain ⟨t0, t1, t2, t3, t4, t5, t6, t7, t8, t9⟩ := frameCells T1
          refine bodyPost_ret (v := .tuple #[.agg (frameOf d r true (.slice (some ⟨g, 0, none⟩) vs.length vs.length) false b4 b8 b16 0 (.slice (some ⟨g2, 0, none⟩) ps.length ps.length)), .nilIface]) (by simp [results, Ybaf.results7, go_sem, frameOf, t0, t1, t2, t3, t4, t5, t6, t7, t8, t9]) rfl ?_
          refine ⟨fun _ => ?_, fun hq => by omega⟩
          exact ⟨_, _, g2, p, rfl, (fun _ => ⟨g, rfl, (T2 g (by omega)).trans hv6⟩), (fun h => by cases h), rfl, own_keep hownF (T2 g2 (by have := (hown.lt g2 rfl).1; have := blk_lt st2.S; omega)) st2.G.size, T3.2, T3.1, HDP.out⟩
        · have HQ := HX2.out
          rw [HR0.out] at HQ
          simp only [encV, encX, Bool.false_eq_true, if_true, if_false, List.nil_append, List.append_assoc] at HQ
          replace HQ := hid HQ
          have hV := readValues_ok wr rb gb cap i3 r vs l _ st0.R hvn hvf HQ.out
          go_wp2_with fail
          refine hV.mono ?_
          rintro e wa ⟨g, rfl, hgw, hv, hga, pv, hrda, hdv⟩
          have HDV := hid hdv
          clear hdv hV
          have st1 := st0.call hrs hfb hga hrda
          obtain ⟨-, -, -, a3, a4, -, -, -, -, -⟩ := frameCells st1.F
          have z3 := blk_frozen (k := 3) st1.F
          go_wp2_with fail
          have st2 := st1.set hrs hfb hwl 3 (.slice (some ⟨g, 0, none⟩) vs.length vs.length) (c' := frameOf d r true (.slice (some ⟨g, 0, none⟩) vs.length vs.length) true b4 b8 b16 0 nilS) rfl
          have hvx : (wa.setCell ⟨fb, 3, none⟩ (.slice (some ⟨g, 0, none⟩) vs.length vs.length)).heap[g]? = some (.cells (vs.map (Value.int .i64)).toArray 3 (0, 0)) := (Below.heap_setCell wa _ _ g (by simp; omega)).trans hv
          generalize wa.setCell ⟨fb, 3, none⟩ (.slice (some ⟨g, 0, none⟩) vs.length vs.length) = wb at *
          clear a3 z3 a4 hv hga hrda st1
          refine (readInt_ok wb rb gb cap pv x r l _ st2.R hx.1 hx.2 HDV.out).mono ?_
          rintro e wc ⟨rfl, hgc, hrdc⟩
          have HDX := hid (Rd.drop_add HDV.out)
          generalize pv + (Lib.uvarint (Lib.zigzag x)).length = px at *
          have st3 := st2.call hrs hfb hgc hrdc
          have hv3 := blk_grown hgc hvx (by omega)
          obtain ⟨-, -, -, -, -, -, -, -, a8, -⟩ := frameCells st3.F
          have z8 := blk_frozen (k := 8) st3.F
          go_wp2_with fail
          have st4 := st3.set hrs hfb hwl 8 (.int .i64 x) (c' := frameOf d r true (.slice (some ⟨g, 0, none⟩) vs.length vs.length) true b4 b8 b16 x nilS) rfl
          clear hvx
          have hvx : (wc.setCell ⟨fb, 8, none⟩ (.int .i64 x)).heap[g]? = some (.cells (vs.map (Value.int .i64)).toArray 3 (0, 0)) := (Below.heap_setCell wc _ _ g (by simp; omega)).trans hv3
          generalize wc.setCell ⟨fb, 8, none⟩ (.int .i64 x) = wd at *
          clear a8 z8 hv3 st3 st2 hrdc hgc
          refine (readCrashed_ok wd rb gb cap px r ps l _ st4.R hpn hpi HDX.out).mono ?_
          rintro e we ⟨g2, rfl, hown, hge, p, hrde, hdp⟩
          have HDP : Hid (l.drop p = rest2) := hdp
          clear hdp
          have st5 := st4.call hrs hfb hge hrde
          have hv5 := blk_grown hge hvx (by omega)
          have hownF := own_set hown (b := fb) (o := 9) (.slice (some ⟨g2, 0, none⟩) ps.length ps.length) (blk_lt st4.F)
          have z9 := blk_frozen (k := 9) st5.F
          have st6 := st5.set hrs hfb hwl 9 (.slice (some ⟨g2, 0, none⟩) ps.length ps.length) (c' := frameOf d r true (.slice (some ⟨g, 0, none⟩) vs.length vs.length) true b4 b8 b16 x (.slice (some ⟨g2, 0, none⟩) ps.length ps.length)) rfl
          have hv6 : (we.setCell ⟨fb, 9, none⟩ (.slice (some ⟨g2, 0, none⟩) ps.length ps.length)).heap[g]? = some (.cells (vs.map (Value.int .i64)).toArray 3 (0, 0)) := (Below.heap_setCell we _ _ g (by simp; omega)).trans hv5
          obtain ⟨a0, a1, a2, a3, a4, a5, a6, a7, a8, a9⟩ := frameCells st5.F
          obtain ⟨s0, s1, s2, s3, s4, s5, s6, s7, s8, s9⟩ := frameCells (show we.heap[rs]? = some (.cells (frameOf 0 0 false nilS false false false false 0 nilS) 33 (0, 0)) from st5.S)
          have zs := fun j => blk_frozen (k := j) st5.S
          have hnf : ¬ fb = rs := by omega
          have hnr : ¬ rs = fb := by omega
          go_wp2_with fail
          have T1 := ten_same st6.S (.int .i64 d) (.int .i64 r) (.bool true) (.slice (some ⟨g, 0, none⟩) vs.length vs.length) (.bool true) (.bool b4) (.bool b8) (.bool b16) (.int .i64 x) (.slice (some ⟨g2, 0, none⟩) ps.length ps.length)
          have T2 := ten (we.setCell ⟨fb, 9, none⟩ (.slice (some ⟨g2, 0, none⟩) ps.length ps.length)) rs (.int .i64 d) (.int .i64 r) (.bool true) (.slice (some ⟨g, 0, none⟩) vs.length vs.length) (.bool true) (.bool b4) (.bool b8) (.bool b16) (.int .i64 x) (.slice (some ⟨g2, 0, none⟩) ps.length ps.length)
          have T3 := st6.ten hrs hwl (.int .i64 d) (.int .i64 r) (.bool true) (.slice (some ⟨g, 0, none⟩) vs.length vs.length) (.bool true) (.bool b4) (.bool b8) (.bool b16) (.int .i64 x) (.slice (some ⟨g2, 0, none⟩) ps.length ps.length)
          generalize ((((((((((we.setCell ⟨fb, 9, none⟩ (.slice (some ⟨g2, 0, none⟩) ps.length ps.length)).setCell ⟨rs, 0, none⟩ (.int .i64 d)).setCell ⟨rs, 1, none⟩ (.int .i64 r)).setCell ⟨rs, 2, none⟩ (.bool true)).setCell ⟨rs, 3, none⟩ (.slice (some ⟨g, 0, none⟩) vs.length vs.length)).setCell ⟨rs, 4, none⟩ (.bool true)).setCell ⟨rs, 5, none⟩ (.bool b4)).setCell ⟨rs, 6, none⟩ (.bool b8)).setCell ⟨rs, 7, none⟩ (.bool b16)).setCell ⟨rs, 8, none⟩ (.int .i64 x)).setCell ⟨rs, 9, none⟩ (.slice (some ⟨g2, 0, none⟩) ps.length ps.length) = wz at *
          obtain ⟨t0, t1, t2, t3, t4, t5, t6, t7, t8, t9⟩ := frameCells T1
          refine bodyPost_ret (v := .tuple #[.agg (frameOf d r true (.slice (some ⟨g, 0, none⟩) vs.length vs.length) true b4 b8 b16 x (.slice (some ⟨g2, 0, none⟩) ps.length ps.length)), .nilIface]) (by simp [results, Ybaf.results7, go_sem, frameOf, t0, t1, t2, t3, t4, t5, t6, t7, t8, t9]) rfl ?_
          refine ⟨fun _ => ?_, fun hq => by omega⟩
          exact ⟨_, _, g2, p, rfl, (fun _ => ⟨g, rfl, (T2 g (by omega)).trans hv6⟩), (fun h => by cases h), rfl, own_keep hownF (T2 g2 (by have := (hown.lt g2 rfl).1; have := blk_lt st4.S; omega)) st4.G.size, T3.2, T3.1, HDP.out⟩
      · obtain ⟨hsu, hrq⟩ := HBB.out (by omega)
        have HS := hid hsu
        have HQ0 : l.drop i3 ++ suf = encV b1 vs ++ (encX b2 x ++ (Lib.uvarint ps.length ++ encU ps)) := by rw [HX2.out]; exact hrq
        clear HA HBB hsu hrq
        cases b1 <;> cases b2
        · simp only [encV, encX, Bool.false_eq_true, if_true, if_false, List.nil_append] at HQ0
          go_wp2_with fail
          obtain ⟨px, HPX⟩ : ∃ px, px = i3 := ⟨_, rfl⟩
          rw [← HPX] at HQ0 st0
          have HDX := hid HQ0
          clear HPX HQ0
          refine (readCrashed_eof wr rb gb cap px r ps l suf aE aU aS aO st0.R (hgl.grown st0.G hrb) hrb hpn hpi HDX.out HS.out).mono ?_
          rintro e we ⟨a, rfl, ha, hge, hrde⟩
          have st5 := st0.call hrs hfb hge hrde
          have sz := st5.set hrs hfb hwl 9 (.slice none 0 0) rfl
          have zj := blk_frozen (k := 9) st5.F
          obtain ⟨a0, a1, a2, a3, a4, a5, a6, a7, a8, a9⟩ := frameCells st5.F
          obtain ⟨s0, s1, s2, s3, s4, s5, s6, s7, s8, s9⟩ := frameCells (show we.heap[rs]? = some (.cells (frameOf 0 0 false nilS false false false false 0 nilS) 33 (0, 0)) from st5.S)
          have zs := fun j => blk_frozen (k := j) st5.S
          have hnf : ¬ fb = rs := by omega
          have hnr : ¬ rs = fb := by omega
          go_wp2_with fail
          have T1 := ten_same sz.S (.int .i64 0) (.int .i64 0) (.bool false) (.slice none 0 0) (.bool false) (.bool false) (.bool false) (.bool false) (.int .i64 0) (.slice none 0 0)
          have T3 := sz.ten hrs hwl (.int .i64 0) (.int .i64 0) (.bool false) (.slice none 0 0) (.bool false) (.bool false) (.bool false) (.bool false) (.int .i64 0) (.slice none 0 0)
          generalize ((((((((((we.setCell ⟨fb, 9, none⟩ (.slice none 0 0)).setCell ⟨rs, 0, none⟩ (.int .i64 0)).setCell ⟨rs, 1, none⟩ (.int .i64 0)).setCell ⟨rs, 2, none⟩ (.bool false)).setCell ⟨rs, 3, none⟩ (.slice none 0 0)).setCell ⟨rs, 4, none⟩ (.bool false)).setCell ⟨rs, 5, none⟩ (.bool false)).setCell ⟨rs, 6, none⟩ (.bool false)).setCell ⟨rs, 7, none⟩ (.bool false)).setCell ⟨rs, 8, none⟩ (.int .i64 0)).setCell ⟨rs, 9, none⟩ (.slice none 0 0) = wz at *
          obtain ⟨t0, t1, t2, t3, t4, t5, t6, t7, t8, t9⟩ := frameCells (show wz.heap[rs]? = some (.cells (frameOf 0 0 false nilS false false false false 0 nilS) 33 (0, 0)) from T1)
          refine bodyPost_ret (v := .tuple #[.agg frame0, err a]) (by simp [results, Ybaf.results7, go_sem, t0, t1, t2, t3, t4, t5, t6, t7, t8, t9]) rfl ?_
          exact ⟨fun hq => absurd hq h0, fun _ => ⟨a, _, rfl, ha, T3.2, T3.1⟩⟩
        · simp only [encV, encX, Bool.false_eq_true, if_true, if_false, List.nil_append] at HQ0
          go_wp2_with fail
          rcases cut_split HQ0 with ⟨q, hq1, hq2⟩ | ⟨s, hs1, hq1⟩
          · obtain ⟨pv, HPV⟩ : ∃ pv, pv = i3 := ⟨_, rfl⟩
            rw [← HPV] at hq1 st0
            have HDV := hid hq1
            have HQ4 := hid hq2
            clear HQ0 hq1 hq2 HPV
            refine (readInt_ok wr rb gb cap pv x r l _ st0.R hx.1 hx.2 HDV.out).mono ?_
            rintro e wc ⟨rfl, hgc, hrdc⟩
            have HDX := hid (Rd.drop_add HDV.out)
            generalize pv + (Lib.uvarint (Lib.zigzag x)).length = px at *
            have st3 := st0.call hrs hfb hgc hrdc
            obtain ⟨-, -, -, -, -, -, -, -, a8, -⟩ := frameCells st3.F
            have z8 := blk_frozen (k := 8) st3.F
            go_wp2_with fail
            have st4 := st3.set hrs hfb hwl 8 (.int .i64 x) (c' := frameOf d r false nilS true b4 b8 b16 x nilS) rfl
            generalize wc.setCell ⟨fb, 8, none⟩ (.int .i64 x) = wd at *
            clear a8 z8 st3  hrdc hgc
            have hcx := HQ4.out
            rw [← HDX.out] at hcx
            clear HDX
            have HDX := hid hcx
            clear hcx
            refine (readCrashed_eof wd rb gb cap px r ps l suf aE aU aS aO st4.R (hgl.grown st4.G hrb) hrb hpn hpi HDX.out HS.out).mono ?_
            rintro e we ⟨a, rfl, ha, hge, hrde⟩
            have st5 := st4.call hrs hfb hge hrde
            have sz := st5.set hrs hfb hwl 9 (.slice none 0 0) rfl
            have zj := blk_frozen (k := 9) st5.F
            obtain ⟨a0, a1, a2, a3, a4, a5, a6, a7, a8, a9⟩ := frameCells st5.F
            obtain ⟨s0, s1, s2, s3, s4, s5, s6, s7, s8, s9⟩ := frameCells (show we.heap[rs]? = some (.cells (frameOf 0 0 false nilS false false false false 0 nilS) 33 (0, 0)) from st5.S)
            have zs := fun j => blk_frozen (k := j) st5.S
            have hnf : ¬ fb = rs := by omega
            have hnr : ¬ rs = fb := by omega
            go_wp2_with fail
            have T1 := ten_same sz.S (.int .i64 0) (.int .i64 0) (.bool false) (.slice none 0 0) (.bool false) (.bool false) (.bool false) (.bool false) (.int .i64 0) (.slice none 0 0)
            have T3 := sz.ten hrs hwl (.int .i64 0) (.int .i64 0) (.bool false) (.slice none 0 0) (.bool false) (.bool false) (.bool false) (.bool false) (.int .i64 0) (.slice none 0 0)
            generalize ((((((((((we.setCell ⟨fb, 9, none⟩ (.slice none 0 0)).setCell ⟨rs, 0, none⟩ (.int .i64 0)).setCell ⟨rs, 1, none⟩ (.int .i64 0)).setCell ⟨rs, 2, none⟩ (.bool false)).setCell ⟨rs, 3, none⟩ (.slice none 0 0)).setCell ⟨rs, 4, none⟩ (.bool false)).setCell ⟨rs, 5, none⟩ (.bool false)).setCell ⟨rs, 6, none⟩ (.bool false)).setCell ⟨rs, 7, none⟩ (.bool false)).setCell ⟨rs, 8, none⟩ (.int .i64 0)).setCell ⟨rs, 9, none⟩ (.slice none 0 0) = wz at *
            obtain ⟨t0, t1, t2, t3, t4, t5, t6, t7, t8, t9⟩ := frameCells (show wz.heap[rs]? = some (.cells (frameOf 0 0 false nilS false false false false 0 nilS) 33 (0, 0)) from T1)
            refine bodyPost_ret (v := .tuple #[.agg frame0, err a]) (by simp [results, Ybaf.results7, go_sem, t0, t1, t2, t3, t4, t5, t6, t7, t8, t9]) rfl ?_
            exact ⟨fun hq => absurd hq h0, fun _ => ⟨a, _, rfl, ha, T3.2, T3.1⟩⟩
          · refine (readInt_eof wr rb gb cap i3 (Lib.zigzag x) r l s aE aU aS aO st0.R (hgl.grown st0.G hrb) hrb (zigzag_lt _ hx.1 hx.2) hq1 hs1).mono ?_
            rintro e wc ⟨a, rfl, ha, hgc, hrdc⟩
            have st3 := st0.call hrs hfb hgc hrdc
            clear hq1 HQ0
            have sz := st3.set hrs hfb hwl 8 (.int .i64 0) rfl
            have zj := blk_frozen (k := 8) st3.F
            obtain ⟨a0, a1, a2, a3, a4, a5, a6, a7, a8, a9⟩ := frameCells st3.F
            obtain ⟨s0, s1, s2, s3, s4, s5, s6, s7, s8, s9⟩ := frameCells (show wc.heap[rs]? = some (.cells (frameOf 0 0 false nilS false false false false 0 nilS) 33 (0, 0)) from st3.S)
            have zs := fun j => blk_frozen (k := j) st3.S
            have hnf : ¬ fb = rs := by omega
            have hnr : ¬ rs = fb := by omega
            go_wp2_with fail
            have T1 := ten_same sz.S (.int .i64 0) (.int .i64 0) (.bool false) (.slice none 0 0) (.bool false) (.bool false) (.bool false) (.bool false) (.int .i64 0) (.slice none 0 0)
            have T3 := sz.ten hrs hwl (.int .i64 0) (.int .i64 0) (.bool false) (.slice none 0 0) (.bool false) (.bool false) (.bool false) (.bool false) (.int .i64 0) (.slice none 0 0)
            generalize ((((((((((wc.setCell ⟨fb, 8, none⟩ (.int .i64 0)).setCell ⟨rs, 0, none⟩ (.int .i64 0)).setCell ⟨rs, 1, none⟩ (.int .i64 0)).setCell ⟨rs, 2, none⟩ (.bool false)).setCell ⟨rs, 3, none⟩ (.slice none 0 0)).setCell ⟨rs, 4, none⟩ (.bool false)).setCell ⟨rs, 5, none⟩ (.bool false)).setCell ⟨rs, 6, none⟩ (.bool false)).setCell ⟨rs, 7, none⟩ (.bool false)).setCell ⟨rs, 8, none⟩ (.int .i64 0)).setCell ⟨rs, 9, none⟩ (.slice none 0 0) = wz at *
            obtain ⟨t0, t1, t2, t3, t4, t5, t6, t7, t8, t9⟩ := frameCells (show wz.heap[rs]? = some (.cells (frameOf 0 0 false nilS false false false false 0 nilS) 33 (0, 0)) from T1)
            refine bodyPost_ret (v := .tuple #[.agg frame0, err a]) (by simp [results, Ybaf.results7, go_sem, t0, t1, t2, t3, t4, t5, t6, t7, t8, t9]) rfl ?_
            exact ⟨fun hq => absurd hq h0, fun _ => ⟨a, _, rfl, ha, T3.2, T3.1⟩⟩
        · simp only [encV, encX, Bool.false_eq_true, if_true, if_false, List.nil_append] at HQ0
          rcases cut_split HQ0 with ⟨q, hq1, hq2⟩ | ⟨s, hs1, hq1⟩
          · rw [List.append_assoc] at hq1
            have HQ := hid hq1
            have HQ2 := hid hq2
            clear HQ0 hq1 hq2
            have hV := readValues_ok wr rb gb cap i3 r vs l _ st0.R hvn hvf HQ.out
            go_wp2_with fail
            refine hV.mono ?_
            rintro e wa ⟨g, rfl, hgw, hv, hga, pv, hrda, hdv⟩
            have HDV := hid hdv
            clear hdv hV
            have st1 := st0.call hrs hfb hga hrda
            obtain ⟨-, -, -, a3, a4, -, -, -, -, -⟩ := frameCells st1.F
            have z3 := blk_frozen (k := 3) st1.F
            go_wp2_with fail
            have st2 := st1.set hrs hfb hwl 3 (.slice (some ⟨g, 0, none⟩) vs.length vs.length) (c' := frameOf d r true (.slice (some ⟨g, 0, none⟩) vs.length vs.length) false b4 b8 b16 0 nilS) rfl
            have hvx : (wa.setCell ⟨fb, 3, none⟩ (.slice (some ⟨g, 0, none⟩) vs.length vs.length)).heap[g]? = some (.cells (vs.map (Value.int .i64)).toArray 3 (0, 0)) := (Below.heap_setCell wa _ _ g (by simp; omega)).trans hv
            generalize wa.setCell ⟨fb, 3, none⟩ (.slice (some ⟨g, 0, none⟩) vs.length vs.length) = wb at *
            clear a3 z3 a4 hv hga hrda st1
            have hcx := HQ2.out
            rw [← HDV.out] at hcx
            obtain ⟨px, HPX⟩ : ∃ px, px = pv := ⟨_, rfl⟩
            rw [← HPX] at hcx st2
            have HDX := hid hcx
            clear HPX HDV hcx
            refine (readCrashed_eof wb rb gb cap px r ps l suf aE aU aS aO st2.R (hgl.grown st2.G hrb) hrb hpn hpi HDX.out HS.out).mono ?_
            rintro e we ⟨a, rfl, ha, hge, hrde⟩
            have st5 := st2.call hrs hfb hge hrde
            have sz := st5.set hrs hfb hwl 9 (.slice none 0 0) rfl
            have zj := blk_frozen (k := 9) st5.F
            obtain ⟨a0, a1, a2, a3, a4, a5, a6, a7, a8, a9⟩ := frameCells st5.F
            obtain ⟨s0, s1, s2, s3, s4, s5, s6, s7, s8, s9⟩ := frameCells (show we.heap[rs]? = some (.cells (frameOf 0 0 false nilS false false false false 0 nilS) 33 (0, 0)) from st5.S)
            have zs := fun j => blk_frozen (k := j) st5.S
            have hnf : ¬ fb = rs := by omega
            have hnr : ¬ rs = fb := by omega
            go_wp2_with fail
            have T1 := ten_same sz.S (.int .i64 0) (.int .i64 0) (.bool false) (.slice none 0 0) (.bool false) (.bool false) (.bool false) (.bool false) (.int .i64 0) (.slice none 0 0)
            have T3 := sz.ten hrs hwl (.int .i64 0) (.int .i64 0) (.bool false) (.slice none 0 0) (.bool false) (.bool false) (.bool false) (.bool false) (.int .i64 0) (.slice none 0 0)
            generalize ((((((((((we.setCell ⟨fb, 9, none⟩ (.slice none 0 0)).setCell ⟨rs, 0, none⟩ (.int .i64 0)).setCell ⟨rs, 1, none⟩ (.int .i64 0)).setCell ⟨rs, 2, none⟩ (.bool false)).setCell ⟨rs, 3, none⟩ (.slice none 0 0)).setCell ⟨rs, 4, none⟩ (.bool false)).setCell ⟨rs, 5, none⟩ (.bool false)).setCell ⟨rs, 6, none⟩ (.bool false)).setCell ⟨rs, 7, none⟩ (.bool false)).setCell ⟨rs, 8, none⟩ (.int .i64 0)).setCell ⟨rs, 9, none⟩ (.slice none 0 0) = wz at *
            obtain ⟨t0, t1, t2, t3, t4, t5, t6, t7, t8, t9⟩ := frameCells (show wz.heap[rs]? = some (.cells (frameOf 0 0 false nilS false false false false 0 nilS) 33 (0, 0)) from T1)
            refine bodyPost_ret (v := .tuple #[.agg frame0, err a]) (by simp [results, Ybaf.results7, go_sem, t0, t1, t2, t3, t4, t5, t6, t7, t8, t9]) rfl ?_
            exact ⟨fun hq => absurd hq h0, fun _ => ⟨a, _, rfl, ha, T3.2, T3.1⟩⟩
          · have hV := readValues_eof wr rb gb cap i3 r vs l s aE aU aS aO st0.R (hgl.grown st0.G hrb) hrb hvn hvf hq1 hs1
            clear HQ0 hq1
            go_wp2_with fail
            refine hV.mono ?_
            rintro e wa ⟨a, rfl, ha, hga, hrda⟩
            have st1 := st0.call hrs hfb hga hrda
            have sz := st1.set hrs hfb hwl 3 (.slice none 0 0) rfl
            have zj := blk_frozen (k := 3) st1.F
            obtain ⟨a0, a1, a2, a3, a4, a5, a6, a7, a8, a9⟩ := frameCells st1.F
            obtain ⟨s0, s1, s2, s3, s4, s5, s6, s7, s8, s9⟩ := frameCells (show wa.heap[rs]? = some (.cells (frameOf 0 0 false nilS false false false false 0 nilS) 33 (0, 0)) from st1.S)
            have zs := fun j => blk_frozen (k := j) st1.S
            have hnf : ¬ fb = rs := by omega
            have hnr : ¬ rs = fb := by omega
            go_wp2_with fail
            have T1 := ten_same sz.S (.int .i64 0) (.int .i64 0) (.bool false) (.slice none 0 0) (.bool false) (.bool false) (.bool false) (.bool false) (.int .i64 0) (.slice none 0 0)
            have T3 := sz.ten hrs hwl (.int .i64 0) (.int .i64 0) (.bool false) (.slice none 0 0) (.bool false) (.bool false) (.bool false) (.bool false) (.int .i64 0) (.slice none 0 0)
            generalize ((((((((((wa.setCell ⟨fb, 3, none⟩ (.slice none 0 0)).setCell ⟨rs, 0, none⟩ (.int .i64 0)).setCell ⟨rs, 1, none⟩ (.int .i64 0)).setCell ⟨rs, 2, none⟩ (.bool false)).setCell ⟨rs, 3, none⟩ (.slice none 0 0)).setCell ⟨rs, 4, none⟩ (.bool false)).setCell ⟨rs, 5, none⟩ (.bool false)).setCell ⟨rs, 6, none⟩ (.bool false)).setCell ⟨rs, 7, none⟩ (.bool false)).setCell ⟨rs, 8, none⟩ (.int .i64 0)).setCell ⟨rs, 9, none⟩ (.slice none 0 0) = wz at *
            obtain ⟨t0, t1, t2, t3, t4, t5, t6, t7, t8, t9⟩ := frameCells (show wz.heap[rs]? = some (.cells (frameOf 0 0 false nilS false false false false 0 nilS) 33 (0, 0)) from T1)
            refine bodyPost_ret (v := .tuple #[.agg frame0, err a]) (by simp [results, Ybaf.results7, go_sem, t0, t1, t2, t3, t4, t5, t6, t7, t8, t9]) rfl ?_
            exact ⟨fun hq => absurd hq h0, fun _ => ⟨a, _, rfl, ha, T3.2, T3.1⟩⟩
        · simp only [encV, encX, Bool.false_eq_true, if_true, if_false, List.nil_append] at HQ0
          rcases cut_split HQ0 with ⟨q, hq1, hq2⟩ | ⟨s, hs1, hq1⟩
          · rw [List.append_assoc] at hq1
            have HQ := hid hq1
            have HQ2 := hid hq2
            clear HQ0 hq1 hq2
            have hV := readValues_ok wr rb gb cap i3 r vs l _ st0.R hvn hvf HQ.out
            go_wp2_with fail
            refine hV.mono ?_
            rintro e wa ⟨g, rfl, hgw, hv, hga, pv, hrda, hdv⟩
            have HDV := hid hdv
            clear hdv hV
            have st1 := st0.call hrs hfb hga hrda
            obtain ⟨-, -, -, a3, a4, -, -, -, -, -⟩ := frameCells st1.F
            have z3 := blk_frozen (k := 3) st1.F
            go_wp2_with fail
            have st2 := st1.set hrs hfb hwl 3 (.slice (some ⟨g, 0, none⟩) vs.length vs.length) (c' := frameOf d r true (.slice (some ⟨g, 0, none⟩) vs.length vs.length) true b4 b8 b16 0 nilS) rfl
            have hvx : (wa.setCell ⟨fb, 3, none⟩ (.slice (some ⟨g, 0, none⟩) vs.length vs.length)).heap[g]? = some (.cells (vs.map (Value.int .i64)).toArray 3 (0, 0)) := (Below.heap_setCell wa _ _ g (by simp; omega)).trans hv
            generalize wa.setCell ⟨fb, 3, none⟩ (.slice (some ⟨g, 0, none⟩) vs.length vs.length) = wb at *
            clear a3 z3 a4 hv hga hrda st1
            have hcx := HQ2.out
            rw [← HDV.out] at hcx
            rcases cut_split hcx with ⟨q3, hq3, hq4⟩ | ⟨s3, hs3, hq3⟩
            · clear HDV hcx
              have HDV := hid hq3
              have HQ4 := hid hq4
              clear hq3 hq4
              refine (readInt_ok wb rb gb cap pv x r l _ st2.R hx.1 hx.2 HDV.out).mono ?_
              rintro e wc ⟨rfl, hgc, hrdc⟩
              have HDX := hid (Rd.drop_add HDV.out)
              generalize pv + (Lib.uvarint (Lib.zigzag x)).length = px at *
              have st3 := st2.call hrs hfb hgc hrdc
              have hv3 := blk_grown hgc hvx (by omega)
              obtain ⟨-, -, -, -, -, -, -, -, a8, -⟩ := frameCells st3.F
              have z8 := blk_frozen (k := 8) st3.F
              go_wp2_with fail
              have st4 := st3.set hrs hfb hwl 8 (.int .i64 x) (c' := frameOf d r true (.slice (some ⟨g, 0, none⟩) vs.length vs.length) true b4 b8 b16 x nilS) rfl
              clear hvx
              have hvx : (wc.setCell ⟨fb, 8, none⟩ (.int .i64 x)).heap[g]? = some (.cells (vs.map (Value.int .i64)).toArray 3 (0, 0)) := (Below.heap_setCell wc _ _ g (by simp; omega)).trans hv3
              generalize wc.setCell ⟨fb, 8, none⟩ (.int .i64 x) = wd at *
              clear a8 z8 hv3 st3 st2 hrdc hgc
              have hcx := HQ4.out
              rw [← HDX.out] at hcx
              clear HDX
              have HDX := hid hcx
              clear hcx
              refine (readCrashed_eof wd rb gb cap px r ps l suf aE aU aS aO st4.R (hgl.grown st4.G hrb) hrb hpn hpi HDX.out HS.out).mono ?_
              rintro e we ⟨a, rfl, ha, hge, hrde⟩
              have st5 := st4.call hrs hfb hge hrde
              have sz := st5.set hrs hfb hwl 9 (.slice none 0 0) rfl
              have zj := blk_frozen (k := 9) st5.F
              obtain ⟨a0, a1, a2, a3, a4, a5, a6, a7, a8, a9⟩ := frameCells st5.F
              obtain ⟨s0, s1, s2, s3, s4, s5, s6, s7, s8, s9⟩ := frameCells (show we.heap[rs]? = some (.cells (frameOf 0 0 false nilS false false false false 0 nilS) 33 (0, 0)) from st5.S)
              have zs := fun j => blk_frozen (k := j) st5.S
              have hnf : ¬ fb = rs := by omega
              have hnr : ¬ rs = fb := by omega
              go_wp2_with fail
              have T1 := ten_same sz.S (.int .i64 0) (.int .i64 0) (.bool false) (.slice none 0 0) (.bool false) (.bool false) (.bool false) (.bool false) (.int .i64 0) (.slice none 0 0)
              have T3 := sz.ten hrs hwl (.int .i64 0) (.int .i64 0) (.bool false) (.slice none 0 0) (.bool false) (.bool false) (.bool false) (.bool false) (.int .i64 0) (.slice none 0 0)
              generalize ((((((((((we.setCell ⟨fb, 9, none⟩ (.slice none 0 0)).setCell ⟨rs, 0, none⟩ (.int .i64 0)).setCell ⟨rs, 1, none⟩ (.int .i64 0)).setCell ⟨rs, 2, none⟩ (.bool false)).setCell ⟨rs, 3, none⟩ (.slice none 0 0)).setCell ⟨rs, 4, none⟩ (.bool false)).setCell ⟨rs, 5, none⟩ (.bool false)).setCell ⟨rs, 6, none⟩ (.bool false)).setCell ⟨rs, 7, none⟩ (.bool false)).setCell ⟨rs, 8, none⟩ (.int .i64 0)).setCell ⟨rs, 9, none⟩ (.slice none 0 0) = wz at *
              obtain ⟨t0, t1, t2, t3, t4, t5, t6, t7, t8, t9⟩ := frameCells (show wz.heap[rs]? = some (.cells (frameOf 0 0 false nilS false false false false 0 nilS) 33 (0, 0)) from T1)
              refine bodyPost_ret (v := .tuple #[.agg frame0, err a]) (by simp [results, Ybaf.results7, go_sem, t0, t1, t2, t3, t4, t5, t6, t7, t8, t9]) rfl ?_
              exact ⟨fun hq => absurd hq h0, fun _ => ⟨a, _, rfl, ha, T3.2, T3.1⟩⟩
            · refine (readInt_eof wb rb gb cap pv (Lib.zigzag x) r l s3 aE aU aS aO st2.R (hgl.grown st2.G hrb) hrb (zigzag_lt _ hx.1 hx.2) hq3 hs3).mono ?_
              rintro e wc ⟨a, rfl, ha, hgc, hrdc⟩
              have st3 := st2.call hrs hfb hgc hrdc
              clear hq3 hcx
              have sz := st3.set hrs hfb hwl 8 (.int .i64 0) rfl
              have zj := blk_frozen (k := 8) st3.F
              obtain ⟨a0, a1, a2, a3, a4, a5, a6, a7, a8, a9⟩ := frameCells st3.F
              obtain ⟨s0, s1, s2, s3, s4, s5, s6, s7, s8, s9⟩ := frameCells (show wc.heap[rs]? = some (.cells (frameOf 0 0 false nilS false false false false 0 nilS) 33 (0, 0)) from st3.S)
              have zs := fun j => blk_frozen (k := j) st3.S
              have hnf : ¬ fb = rs := by omega
              have hnr : ¬ rs = fb := by omega
              go_wp2_with fail
              have T1 := ten_same sz.S (.int .i64 0) (.int .i64 0) (.bool false) (.slice none 0 0) (.bool false) (.bool false) (.bool false) (.bool false) (.int .i64 0) (.slice none 0 0)
              have T3 := sz.ten hrs hwl (.int .i64 0) (.int .i64 0) (.bool false) (.slice none 0 0) (.bool false) (.bool false) (.bool false) (.bool false) (.int .i64 0) (.slice none 0 0)
              generalize ((((((((((wc.setCell ⟨fb, 8, none⟩ (.int .i64 0)).setCell ⟨rs, 0, none⟩ (.int .i64 0)).setCell ⟨rs, 1, none⟩ (.int .i64 0)).setCell ⟨rs, 2, none⟩ (.bool false)).setCell ⟨rs, 3, none⟩ (.slice none 0 0)).setCell ⟨rs, 4, none⟩ (.bool false)).setCell ⟨rs, 5, none⟩ (.bool false)).setCell ⟨rs, 6, none⟩ (.bool false)).setCell ⟨rs, 7, none⟩ (.bool false)).setCell ⟨rs, 8, none⟩ (.int .i64 0)).setCell ⟨rs, 9, none⟩ (.slice none 0 0) = wz at *
              obtain ⟨t0, t1, t2, t3, t4, t5, t6, t7, t8, t9⟩ := frameCells (show wz.heap[rs]? = some (.cells (frameOf 0 0 false nilS false false false false 0 nilS) 33 (0, 0)) from T1)
              refine bodyPost_ret (v := .tuple #[.agg frame0, err a]) (by simp [results, Ybaf.results7, go_sem, t0, t1, t2, t3, t4, t5, t6, t7, t8, t9]) rfl ?_
              exact ⟨fun hq => absurd hq h0, fun _ => ⟨a, _, rfl, ha, T3.2, T3.1⟩⟩
          · have hV := readValues_eof wr rb gb cap i3 r vs l s aE aU aS aO st0.R (hgl.grown st0.G hrb) hrb hvn hvf hq1 hs1
            clear HQ0 hq1
            go_wp2_with fail
            refine hV.mono ?_
            rintro e wa ⟨a, rfl, ha, hga, hrda⟩
            have st1 := st0.call hrs hfb hga hrda
            have sz := st1.set hrs hfb hwl 3 (.slice none 0 0) rfl
            have zj := blk_frozen (k := 3) st1.F
            obtain ⟨a0, a1, a2, a3, a4, a5, a6, a7, a8, a9⟩ := frameCells st1.F
            obtain ⟨s0, s1, s2, s3, s4, s5, s6, s7, s8, s9⟩ := frameCells (show wa.heap[rs]? = some (.cells (frameOf 0 0 false nilS false false false false 0 nilS) 33 (0, 0)) from st1.S)
            have zs := fun j => blk_frozen (k := j) st1.S
            have hnf : ¬ fb = rs := by omega
            have hnr : ¬ rs = fb := by omega
            go_wp2_with fail
            have T1 := ten_same sz.S (.int .i64 0) (.int .i64 0) (.bool false) (.slice none 0 0) (.bool false) (.bool false) (.bool false) (.bool false) (.int .i64 0) (.slice none 0 0)
            have T3 := sz.ten hrs hwl (.int .i64 0) (.int .i64 0) (.bool false) (.slice none 0 0) (.bool false) (.bool false) (.bool false) (.bool false) (.int .i64 0) (.slice none 0 0)
            generalize ((((((((((wa.setCell ⟨fb, 3, none⟩ (.slice none 0 0)).setCell ⟨rs, 0, none⟩ (.int .i64 0)).setCell ⟨rs, 1, none⟩ (.int .i64 0)).setCell ⟨rs, 2, none⟩ (.bool false)).setCell ⟨rs, 3, none⟩ (.slice none 0 0)).setCell ⟨rs, 4, none⟩ (.bool false)).setCell ⟨rs, 5, none⟩ (.bool false)).setCell ⟨rs, 6, none⟩ (.bool false)).setCell ⟨rs, 7, none⟩ (.bool false)).setCell ⟨rs, 8, none⟩ (.int .i64 0)).setCell ⟨rs, 9, none⟩ (.slice none 0 0) = wz at *
            obtain ⟨t0, t1, t2, t3, t4, t5, t6, t7, t8, t9⟩ := frameCells (show wz.heap[rs]? = some (.cells (frameOf 0 0 false nilS false false false false 0 nilS) 33 (0, 0)) from T1)
            refine bodyPost_ret (v := .tuple #[.agg frame0, err a]) (by simp [results, Ybaf.results7, go_sem, t0, t1, t2, t3, t4, t5, t6, t7, t8, t9]) rfl ?_
            exact ⟨fun hq => absurd hq h0, fun _ => ⟨a, _, rfl, ha, T3.2, T3.1⟩⟩
end Go.Proofs.YbulkbsrsFmt
