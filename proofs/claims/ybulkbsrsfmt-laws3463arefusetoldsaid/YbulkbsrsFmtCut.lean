/-
  readFrame OVER THE LAWS' READER: a frame that is cut short anywhere.
-/
import Derived.Test.YbulkbsrsFmtFrame
namespace Go.Proofs.YbulkbsrsFmt
open Go Go.RowKit

theorem tenR {w W : World} {rb gb cap rs p : Nat} {l : List UInt8} (hG : w.grownBy W (some rb)) (hR : Rd W rb gb cap l p) (hrs : rb < rs) (hw : w.heap.size ≤ rs) (v0 v1 v2 v3 v4 v5 v6 v7 v8 v9 : Value) :
    Rd ((((((((((W.setCell ⟨rs, 0, none⟩ v0).setCell ⟨rs, 1, none⟩ v1).setCell ⟨rs, 2, none⟩ v2).setCell ⟨rs, 3, none⟩ v3).setCell ⟨rs, 4, none⟩ v4).setCell ⟨rs, 5, none⟩ v5).setCell ⟨rs, 6, none⟩ v6).setCell ⟨rs, 7, none⟩ v7).setCell ⟨rs, 8, none⟩ v8).setCell ⟨rs, 9, none⟩ v9) rb gb cap l p ∧
    w.grownBy ((((((((((W.setCell ⟨rs, 0, none⟩ v0).setCell ⟨rs, 1, none⟩ v1).setCell ⟨rs, 2, none⟩ v2).setCell ⟨rs, 3, none⟩ v3).setCell ⟨rs, 4, none⟩ v4).setCell ⟨rs, 5, none⟩ v5).setCell ⟨rs, 6, none⟩ v6).setCell ⟨rs, 7, none⟩ v7).setCell ⟨rs, 8, none⟩ v8).setCell ⟨rs, 9, none⟩ v9) (some rb) := by
  refine ⟨hR.keep fun k hk => ten W rs v0 v1 v2 v3 v4 v5 v6 v7 v8 v9 k (by omega), ?_⟩
  repeat (refine grown_setNew ?_ hw _)
  exact hG

/-- The frame is cut short: an end, the zero frame. -/
def CutPost (e : Ending) (w w' : World) (rb gb cap : Nat) (l : List UInt8) (aE aU : Addr) : Prop :=
  ∃ a p, e = .returned (.tuple #[.agg frame0, err a]) ∧ (a = aE ∨ a = aU) ∧ w.grownBy w' (some rb) ∧ Rd w' rb gb cap l p

set_option maxHeartbeats 4000000 in
set_option maxRecDepth 100000 in
theorem readFrame_cut (w : World) (rb gb cap i d r : Nat) (fl : UInt8) (b1 b2 b4 b8 b16 : Bool) (l : List UInt8) (h : Rd w rb gb cap l i) (aE aU aS aO : Addr) (hgl : Gl w aE aU aS aO) (hrb : 4 ≤ rb)
    (vs : List Int) (x : Int) (ps : List Nat) (suf : List UInt8) (hvn : vs.length ≤ 65536) (hvf : ∀ v ∈ vs, Fits v) (hx : Fits x) (hpn : ps.length ≤ 65536) (hpi : Inc ps)
    (hd : 1 ≤ d) (hd2 : d < 9223372036854775808) (hr2 : r < 9223372036854775808)
    (h1 : (bits .and .u8 (fl.toNat : Int) 1 != 0) = b1) (h2 : (bits .and .u8 (fl.toNat : Int) 2 != 0) = b2) (h4 : (bits .and .u8 (fl.toNat : Int) 4 != 0) = b4) (h8 : (bits .and .u8 (fl.toNat : Int) 8 != 0) = b8) (h16 : (bits .and .u8 (fl.toNat : Int) 16 != 0) = b16)
    (hk : (bits .andNot .u8 (fl.toNat : Int) 31 != 0) = false)
    (hl : l.drop i ++ suf = Lib.uvarint d ++ (Lib.uvarint r ++ ([fl] ++ (encV b1 vs ++ (encX b2 x ++ (Lib.uvarint ps.length ++ encU ps)))))) (hs : suf ≠ []) :
    Calls Ybaf.prog 7 #[rdr rb] w fun e w' => CutPost e w w' rb gb cap l aE aU := by
  have mm := mRB
  obtain ⟨rs, HR⟩ : ∃ rs, Hid (rs = w.heap.size) := ⟨_, rfl⟩
  have hrs : rb < rs := by rw [HR.out]; exact h.size
  have hwl : w.heap.size ≤ rs := by rw [HR.out]; exact Nat.le_refl _
  have hS0 : (w.alloc (Obj.cells frame0 33)).heap[rs]? = some (.cells frame0 33 (0, 0)) := by rw [HR.out, heap_alloc_new]
  have hglA : Gl (w.alloc (Obj.cells frame0 33)) aE aU aS aO := hgl.grown (grown_alloc w _ (some rb)) hrb
  have hGA := grown_alloc w (Obj.cells frame0 33) (some rb)
  rcases cut_split hl with ⟨q1, e1, e2⟩ | ⟨s, hs1, e1⟩
  · rcases cut_split e2 with ⟨q2, e3, e4⟩ | ⟨s, hs1, e3⟩
    · rcases cut_split e4 with ⟨q3, e5, e6⟩ | ⟨s, hs1, e5⟩
      · have hm := readFrame_mid 1 w rb gb cap i d r fl b1 b2 b4 b8 b16 l q3 h aE aU aS aO hgl hrb vs x ps [] suf hvn hvf hx hpn hpi hd hd2 hr2 (by rw [e1, e3, e5]; rfl) h1 h2 h4 h8 h16 hk (fun q => by cases q) (fun _ => ⟨hs, e6⟩) (Or.inr rfl)
        exact hm.mono fun e w' hp => hp.2 rfl
      · -- NO BYTE FOR THE FLAGS
        have hq2 : q2 = [] := by
          have := congrArg List.length e5
          simp at this
          cases q2 with
          | nil => rfl
          | cons y ys =>
            cases s with
            | nil => exact absurd rfl hs1
            | cons z zs => simp at this; omega
        subst hq2
        have hx0 := Rd.drop_add e1
        rw [e3, List.append_nil] at hx0
        have hx1 : l.drop (i + (Lib.uvarint d).length + (Lib.uvarint r).length) = [] := Rd.drop_add (by rw [hx0, List.append_nil])
        have HX0 := hid hx0
        have HE : Hid (l.length ≤ i + (Lib.uvarint d).length + (Lib.uvarint r).length) := List.drop_eq_nil_iff.1 hx1
        have hU1 := readUint_ok (w.alloc (Obj.cells frame0 33)) rb gb cap i d l _ (h.alloc _) hd2 e1
        clear hl e1 e2 e3 e4 e5 hx0 hx1
        generalize i + (Lib.uvarint d).length = i1 at *
        have hd0 : ((d : Int) == 0) = false := by simp; omega
        go_enter Ybaf.func7, Ybaf.ntmps7
        go_wp2_with fail
        refine hU1.mono ?_
        rintro e w1 ⟨rfl, hg1, hrd1⟩
        have hU2 := readUint_ok w1 rb gb cap i1 r l [] hrd1 hr2 (by rw [HX0.out, List.append_nil])
        generalize i1 + (Lib.uvarint r).length = i2 at *
        go_wp2_with fail
        refine hU2.mono ?_
        rintro e w2 ⟨rfl, hg2, hrd2⟩
        have hi2 : i2 = l.length := by have := hrd2.le; have := HE.out; omega
        rw [hi2] at hrd2
        go_wp2_with fail
        refine (readByte_eof w2 rb gb cap l aE aU aS aO hrd2 ((hglA.grown hg1 hrb).grown hg2 hrb)).mono ?_
        rintro e w3 ⟨rfl, hg3, hrd3⟩
        have hS3 := blk_grown hg3 (blk_grown hg2 (blk_grown hg1 hS0 hrs) hrs) hrs
        have hG3 := grown_trans (grown_trans (grown_trans hGA hg1) hg2) hg3
        rw [← HR.out]
        clear hU1 hU2 hg1 hg2 hg3 hGA hS0 hi2
        obtain ⟨a, HAE⟩ : ∃ a, Hid (a = aE) := ⟨_, rfl⟩
        have ha : a = aE ∨ a = aU := Or.inl HAE.out
        rw [← HAE.out]
        obtain ⟨s0, s1, s2, s3, s4, s5, s6, s7, s8, s9⟩ := frameCells (show w3.heap[rs]? = some (.cells (frameOf 0 0 false nilS false false false false 0 nilS) 33 (0, 0)) from hS3)
        have zs := fun j => blk_frozen (k := j) hS3
        go_wp2_with fail
        have T1 := ten_same hS3 (.int .i64 0) (.int .i64 0) (.bool false) (.slice none 0 0) (.bool false) (.bool false) (.bool false) (.bool false) (.int .i64 0) (.slice none 0 0)
        have T3 := tenR hG3 hrd3 hrs hwl (.int .i64 0) (.int .i64 0) (.bool false) (.slice none 0 0) (.bool false) (.bool false) (.bool false) (.bool false) (.int .i64 0) (.slice none 0 0)
        generalize (((((((((w3.setCell ⟨rs, 0, none⟩ (.int .i64 0)).setCell ⟨rs, 1, none⟩ (.int .i64 0)).setCell ⟨rs, 2, none⟩ (.bool false)).setCell ⟨rs, 3, none⟩ (.slice none 0 0)).setCell ⟨rs, 4, none⟩ (.bool false)).setCell ⟨rs, 5, none⟩ (.bool false)).setCell ⟨rs, 6, none⟩ (.bool false)).setCell ⟨rs, 7, none⟩ (.bool false)).setCell ⟨rs, 8, none⟩ (.int .i64 0)).setCell ⟨rs, 9, none⟩ (.slice none 0 0) = wz at *
        obtain ⟨t0, t1, t2, t3, t4, t5, t6, t7, t8, t9⟩ := frameCells (show wz.heap[rs]? = some (.cells (frameOf 0 0 false nilS false false false false 0 nilS) 33 (0, 0)) from T1)
        refine bodyPost_ret (v := .tuple #[.agg frame0, err a]) (by simp [results, Ybaf.results7, go_sem, t0, t1, t2, t3, t4, t5, t6, t7, t8, t9]) rfl ?_
        exact ⟨a, _, rfl, ha, T3.2, T3.1⟩
    · have hx0 := Rd.drop_add e1
      have HX0 := hid hx0
      have HX1 := hid e3
      have hU1 := readUint_ok (w.alloc (Obj.cells frame0 33)) rb gb cap i d l _ (h.alloc _) hd2 e1
      clear hl e1 e2 e3 hx0
      generalize i + (Lib.uvarint d).length = i1 at *
      have hd0 : ((d : Int) == 0) = false := by simp; omega
      go_enter Ybaf.func7, Ybaf.ntmps7
      go_wp2_with fail
      refine hU1.mono ?_
      rintro e w1 ⟨rfl, hg1, hrd1⟩
      go_wp2_with fail
      refine (readUint_eof w1 rb gb cap i1 r l s aE aU aS aO hrd1 (hglA.grown hg1 hrb) hrb (by omega) (by rw [HX0.out]; exact HX1.out) hs1).mono ?_
      rintro e w2 ⟨a, rfl, ha, hg2, hrd2⟩
      have hS2 := blk_grown hg2 (blk_grown hg1 hS0 hrs) hrs
      have hG2 := grown_trans (grown_trans hGA hg1) hg2
      rw [← HR.out]
      clear hU1 hg1 hg2 hGA hS0
      obtain ⟨s0, s1, s2, s3, s4, s5, s6, s7, s8, s9⟩ := frameCells (show w2.heap[rs]? = some (.cells (frameOf 0 0 false nilS false false false false 0 nilS) 33 (0, 0)) from hS2)
      have zs := fun j => blk_frozen (k := j) hS2
      go_wp2_with fail
      have T1 := ten_same hS2 (.int .i64 0) (.int .i64 0) (.bool false) (.slice none 0 0) (.bool false) (.bool false) (.bool false) (.bool false) (.int .i64 0) (.slice none 0 0)
      have T3 := tenR hG2 hrd2 hrs hwl (.int .i64 0) (.int .i64 0) (.bool false) (.slice none 0 0) (.bool false) (.bool false) (.bool false) (.bool false) (.int .i64 0) (.slice none 0 0)
      generalize (((((((((w2.setCell ⟨rs, 0, none⟩ (.int .i64 0)).setCell ⟨rs, 1, none⟩ (.int .i64 0)).setCell ⟨rs, 2, none⟩ (.bool false)).setCell ⟨rs, 3, none⟩ (.slice none 0 0)).setCell ⟨rs, 4, none⟩ (.bool false)).setCell ⟨rs, 5, none⟩ (.bool false)).setCell ⟨rs, 6, none⟩ (.bool false)).setCell ⟨rs, 7, none⟩ (.bool false)).setCell ⟨rs, 8, none⟩ (.int .i64 0)).setCell ⟨rs, 9, none⟩ (.slice none 0 0) = wz at *
      obtain ⟨t0, t1, t2, t3, t4, t5, t6, t7, t8, t9⟩ := frameCells (show wz.heap[rs]? = some (.cells (frameOf 0 0 false nilS false false false false 0 nilS) 33 (0, 0)) from T1)
      refine bodyPost_ret (v := .tuple #[.agg frame0, err a]) (by simp [results, Ybaf.results7, go_sem, t0, t1, t2, t3, t4, t5, t6, t7, t8, t9]) rfl ?_
      exact ⟨a, _, rfl, ha, T3.2, T3.1⟩
  · have hU1 := readUint_eof (w.alloc (Obj.cells frame0 33)) rb gb cap i d l s aE aU aS aO (h.alloc _) hglA hrb (by omega) e1 hs1
    clear hl e1
    go_enter Ybaf.func7, Ybaf.ntmps7
    go_wp2_with fail
    refine hU1.mono ?_
    rintro e w1 ⟨a, rfl, ha, hg1, hrd1⟩
    have hS1 := blk_grown hg1 hS0 hrs
    have hG1 := grown_trans hGA hg1
    rw [← HR.out]
    clear hU1 hg1 hGA hS0
    obtain ⟨s0, s1, s2, s3, s4, s5, s6, s7, s8, s9⟩ := frameCells (show w1.heap[rs]? = some (.cells (frameOf 0 0 false nilS false false false false 0 nilS) 33 (0, 0)) from hS1)
    have zs := fun j => blk_frozen (k := j) hS1
    go_wp2_with fail
    have T1 := ten_same hS1 (.int .i64 0) (.int .i64 0) (.bool false) (.slice none 0 0) (.bool false) (.bool false) (.bool false) (.bool false) (.int .i64 0) (.slice none 0 0)
    have T3 := tenR hG1 hrd1 hrs hwl (.int .i64 0) (.int .i64 0) (.bool false) (.slice none 0 0) (.bool false) (.bool false) (.bool false) (.bool false) (.int .i64 0) (.slice none 0 0)
    generalize (((((((((w1.setCell ⟨rs, 0, none⟩ (.int .i64 0)).setCell ⟨rs, 1, none⟩ (.int .i64 0)).setCell ⟨rs, 2, none⟩ (.bool false)).setCell ⟨rs, 3, none⟩ (.slice none 0 0)).setCell ⟨rs, 4, none⟩ (.bool false)).setCell ⟨rs, 5, none⟩ (.bool false)).setCell ⟨rs, 6, none⟩ (.bool false)).setCell ⟨rs, 7, none⟩ (.bool false)).setCell ⟨rs, 8, none⟩ (.int .i64 0)).setCell ⟨rs, 9, none⟩ (.slice none 0 0) = wz at *
    obtain ⟨t0, t1, t2, t3, t4, t5, t6, t7, t8, t9⟩ := frameCells (show wz.heap[rs]? = some (.cells (frameOf 0 0 false nilS false false false false 0 nilS) 33 (0, 0)) from T1)
    refine bodyPost_ret (v := .tuple #[.agg frame0, err a]) (by simp [results, Ybaf.results7, go_sem, t0, t1, t2, t3, t4, t5, t6, t7, t8, t9]) rfl ?_
    exact ⟨a, _, rfl, ha, T3.2, T3.1⟩
end Go.Proofs.YbulkbsrsFmt
