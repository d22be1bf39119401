/-
  readValues OVER THE LAWS' READER.
-/
import Derived.Test.YbulkbsrsFmtNum
namespace Go.Proofs.YbulkbsrsFmt
open Go Go.RowKit

/-- The varints of a list of ints, one behind the other. -/
def encI : List Int → List UInt8
  | [] => []
  | v :: vs => Lib.uvarint (Lib.zigzag v) ++ encI vs
/-- An int64. -/
def Fits (v : Int) : Prop := -9223372036854775808 ≤ v ∧ v ≤ 9223372036854775807

/-- What a row of ints holds while it is being filled. -/
def partIs (vs : List Int) (k : Nat) : Array Value := ((vs.take k).map (Value.int .i64) ++ List.replicate (vs.length - k) (Value.int .i64 0)).toArray

theorem partIs_size (vs : List Int) (k : Nat) (h : k ≤ vs.length) : (partIs vs k).size = vs.length := by
  simp [partIs]
  omega
theorem partIs_all (vs : List Int) : partIs vs vs.length = (vs.map (Value.int .i64)).toArray := by simp [partIs]
theorem partIs_zero (vs : List Int) : partIs vs 0 = madeCells #[.int .i64 0] vs.length := by
  simp only [partIs, madeCells]
  apply Array.ext'
  simp
  apply List.ext_getElem
  · simp
  · intro i h1 h2
    simp [Nat.mod_one]
theorem partIs_set (vs : List Int) (k : Nat) (h : k < vs.length) : (partIs vs k).setIfInBounds k (.int .i64 vs[k]) = partIs vs (k + 1) := by
  apply Array.ext'
  simp only [partIs, Array.toList_setIfInBounds]
  have hl : ((vs.take k).map (Value.int .i64)).length = k := by simp; omega
  rw [List.set_append_right k _ (by omega), hl, Nat.sub_self]
  obtain ⟨m, hm⟩ : ∃ m, vs.length - k = m + 1 := ⟨vs.length - k - 1, by omega⟩
  rw [hm, List.replicate_succ, List.set_cons_zero, show vs.length - (k + 1) = m by omega, List.take_succ_eq_append_getElem h]
  rw [List.map_append, List.append_assoc]
  rfl

theorem Rd.drop_add {l a r : List UInt8} {p : Nat} (h : l.drop p = a ++ r) : l.drop (p + a.length) = r := by
  rw [← List.drop_drop, h, List.drop_left]
/-- What is left is cut short: either the first piece is whole, or it is itself cut short. -/
theorem cut_split {p suf a b : List UInt8} (h : p ++ suf = a ++ b) : (∃ r, p = a ++ r ∧ r ++ suf = b) ∨ (∃ s, s ≠ [] ∧ p ++ s = a) := by
  rcases List.append_eq_append_iff.1 h with ⟨c, h1, h2⟩ | ⟨c, h1, h2⟩
  · by_cases hc : c = []
    · subst hc
      exact Or.inl ⟨[], by simpa using h1.symm, by simpa using h2⟩
    · exact Or.inr ⟨c, hc, h1.symm⟩
  · exact Or.inl ⟨c, h1, h2.symm⟩

theorem blk_lt {w : World} {g : Nat} {o : Obj} (h : w.heap[g]? = some o) : g < w.heap.size := by
  rcases Nat.lt_or_ge g w.heap.size with h' | h'
  · exact h'
  · rw [Array.getElem?_eq_none h'] at h
    cases h
theorem blk_cell {w : World} {g k : Nat} {c : Array Value} {t : TypeId} (h : w.heap[g]? = some (.cells c t (0, 0))) (hk : k < c.size) : w.cell? ⟨g, k, none⟩ = some c[k] := by
  simp [World.cell?, h, hk]
theorem blk_frozen {w : World} {g k : Nat} {c : Array Value} {t : TypeId} (h : w.heap[g]? = some (.cells c t (0, 0))) : w.frozen? ⟨g, k, none⟩ = false := by
  simp [World.frozen?, h]
theorem blk_set {w : World} {g k : Nat} {c : Array Value} {t : TypeId} (h : w.heap[g]? = some (.cells c t (0, 0))) (v : Value) : (w.setCell ⟨g, k, none⟩ v).heap[g]? = some (.cells (c.setIfInBounds k v) t (0, 0)) := by
  simp [World.setCell, Array.getElem?_modify, h]
/-- A block of the call's own, behind a step of the reader. -/
theorem blk_grown {w w' : World} {rb g : Nat} {o : Obj} (hg : w.grownBy w' (some rb)) (h : w.heap[g]? = some o) (hne : rb < g) : w'.heap[g]? = some o :=
  (hg.block g (blk_lt h) (by simp; omega)).trans h

theorem zero3 : ∃ i, Ybaf.prog.info? 3 = some i ∧ i.zero = some (.int .i64 0) ∧ i.size = 1 ∧ i.bytes = 8 := by
  have h : (Ybaf.prog.info? 3).map (fun i => (i.zero, i.size, i.bytes)) = some (some (.int .i64 0), 1, 8) := by kernel_rfl
  obtain ⟨i, hi, he⟩ := Option.map_eq_some_iff.1 h
  simp only [Prod.mk.injEq] at he
  exact ⟨i, hi, he.1, he.2.1, he.2.2⟩
/-- 'make([]int, l, c)'. -/
theorem makeInts (l c : Nat) (hlc : l ≤ c) (hc : c ≤ 1000000) (w : World) :
    (Instr.makeSlice 26 (.int .i64 (l : Int)) (.int .i64 (c : Int))).run Ybaf.prog w = .ok (.slice (some ⟨w.heap.size, 0, none⟩) l c) (w.alloc (.cells (madeCells #[.int .i64 0] c) 3)) := by
  obtain ⟨i, hi, hz, hs, hb⟩ := zero3
  have h := run_make (P := Ybaf.prog) w 26 3 i (.int .i64 0) Ybaf.underlying26 hi hz .i64 .i64 (l : Int) (c : Int) (by omega) (by omega) (by rw [hb]; omega) (by omega)
  rw [h, hs]
  simp [Value.cells]

set_option maxHeartbeats 1000000 in
set_option maxRecDepth 100000 in
theorem readValues_ok (w : World) (rb gb cap i : Nat) (rd : Int) (vs : List Int) (l rest : List UInt8) (h : Rd w rb gb cap l i) (hn : vs.length ≤ 65536) (hf : ∀ v ∈ vs, Fits v) (hl : l.drop i = Lib.uvarint vs.length ++ (encI vs ++ rest)) :
    Calls Ybaf.prog 14 #[rdr rb, .int .i64 rd] w fun e w' => ∃ g, e = .returned (.tuple #[.slice (some ⟨g, 0, none⟩) vs.length vs.length, .nilIface]) ∧ w.heap.size ≤ g ∧ w'.heap[g]? = some (.cells (vs.map (Value.int .i64)).toArray 3 (0, 0)) ∧ w.grownBy w' (some rb) ∧ ∃ p, Rd w' rb gb cap l p ∧ l.drop p = rest := by
  have hC := readCount_ok w rb gb cap i vs.length rd ⟨#[118, 97, 108, 117, 101, 115]⟩ l _ h hn hl
  have hmk := makeInts vs.length vs.length (Nat.le_refl _) (by omega)
  have HL : Hid (l.drop (i + (Lib.uvarint vs.length).length) = encI vs ++ rest) := Rd.drop_add hl
  generalize i + (Lib.uvarint vs.length).length = i1 at *
  generalize hnn : vs.length = n at *
  have HN : Hid (vs.length = n) := hnn
  have HZ : Hid (madeCells #[.int .i64 0] n = partIs vs 0) := by
    show _ = _
    rw [partIs_zero, hnn]
  generalize madeCells #[.int .i64 0] n = mk at *
  clear hl hnn
  go_enter Ybaf.func14, Ybaf.ntmps14
  go_wp2_with (go_at_call 22; refine hC.mono ?_; rintro e w1 ⟨rfl, hg1, hrd1⟩)
  have hsz1 := hg1.size
  have hrs := hrd1.size
  obtain ⟨g, HG⟩ : ∃ g, Hid (g = w1.heap.size) := ⟨_, rfl⟩
  have hg0 : rb < g := by rw [HG.out]; exact hrs
  have hg2 : w.heap.size ≤ g := by rw [HG.out]; exact hsz1
  have hW : (w1.alloc (Obj.cells mk 3)).heap[g]? = some (.cells (partIs vs 0) 3 (0, 0)) := by rw [HG.out, heap_alloc_new, HZ.out]
  have hGA : w.grownBy (w1.alloc (Obj.cells mk 3)) (some rb) := grown_allocR hg1 _
  have hRA : Rd (w1.alloc (Obj.cells mk 3)) rb gb cap l i1 := hrd1.alloc _
  rw [← HG.out]
  go_loopw [23] (fun vi wr => ∃ k p : Nat, vi = .int .i64 k ∧ k ≤ n ∧ wr.heap[g]? = some (.cells (partIs vs k) 3 (0, 0)) ∧ w.grownBy wr (some rb) ∧ Rd wr rb gb cap l p ∧ l.drop p = encI (vs.drop k) ++ rest)
    (fun vi _ => n - (intOf vi).toNat)
  case atStart => exact ⟨0, i1, rfl, by omega, hW, hGA, hRA, HL.out⟩
  case round =>
    obtain ⟨k, p, rfl, hk, hwg, hgr, hrd, hdr⟩ := hrel
    clear hW hGA hRA
    by_cases hlt : k < n
    · have hkv : k < vs.length := by rw [HN.out]; exact hlt
      have hdk : vs.drop k = vs[k] :: vs.drop (k + 1) := List.drop_eq_getElem_cons hkv
      have hff := hf vs[k] (List.getElem_mem hkv)
      rw [hdk, encI, List.append_assoc] at hdr
      have hR := readInt_ok wr rb gb cap p vs[k] rd l _ hrd hff.1 hff.2 hdr
      have HD : Hid (l.drop (p + (Lib.uvarint (Lib.zigzag vs[k])).length) = encI (vs.drop (k + 1)) ++ rest) := Rd.drop_add hdr
      have HP : Hid ((partIs vs k).setIfInBounds k (.int .i64 vs[k]) = partIs vs (k + 1)) := partIs_set vs k hkv
      have hsz : (partIs vs k).size = n := by rw [partIs_size vs k (by omega), HN.out]
      generalize p + (Lib.uvarint (Lib.zigzag vs[k])).length = p1 at *
      generalize vs[k] = v at *
      clear hdr hdk hff
      have hlt' : (k : Int) < (n : Int) := by omega
      go_wp2_with (go_at_call 15; refine hR.mono ?_; rintro e w2 ⟨rfl, hg3, hrd3⟩; have hw2 := blk_grown hg3 hwg hg0; have hc2 := blk_cell (k := k) hw2 (by omega); have hz2 := blk_frozen (k := k) hw2)
      have hw3 := blk_set (k := k) hw2 (.int .i64 v)
      rw [HP.out] at hw3
      refine ⟨⟨k + 1, p1, by go_num, by omega, hw3, grown_setNew (grown_trans hgr hg3) hg2 _, hrd3.setOther hg0 _, HD.out⟩, by simp [intOf]; omega⟩
    · have hkn : k = n := by omega
      have hf' : ¬ (k : Int) < (n : Int) := by omega
      have HK : Hid (k = n) := hkn
      have hwn : wr.heap[g]? = some (.cells (vs.map (Value.int .i64)).toArray 3 (0, 0)) := by
        rw [hwg, hkn, ← HN.out, partIs_all]
      have HE : Hid (l.drop p = rest) := by
        show _ = _
        rw [hdr, hkn, ← HN.out]; simp [encI]
      clear hkn hdr hwg hf
      go_wp2
      go_ret2
      exact ⟨g, rfl, hg2, hwn, hgr, p, hrd, HE.out⟩

set_option maxHeartbeats 1000000 in
set_option maxRecDepth 100000 in
theorem readValues_eof (w : World) (rb gb cap i : Nat) (rd : Int) (vs : List Int) (l suf : List UInt8) (aE aU aS aO : Addr) (h : Rd w rb gb cap l i) (hgl : Gl w aE aU aS aO) (hrb : 4 ≤ rb) (hn : vs.length ≤ 65536) (hf : ∀ v ∈ vs, Fits v) (hl : l.drop i ++ suf = Lib.uvarint vs.length ++ encI vs) (hs : suf ≠ []) :
    Calls Ybaf.prog 14 #[rdr rb, .int .i64 rd] w fun e w' => ∃ a : Addr, e = .returned (.tuple #[.slice none 0 0, err a]) ∧ (a = aE ∨ a = aU) ∧ w.grownBy w' (some rb) ∧ Rd w' rb gb cap l l.length := by
  rcases cut_split hl with ⟨r, hl1, hl2⟩ | ⟨s, hs1, hl1⟩
  · have hC := readCount_ok w rb gb cap i vs.length rd ⟨#[118, 97, 108, 117, 101, 115]⟩ l _ h hn hl1
    have hmk := makeInts vs.length vs.length (Nat.le_refl _) (by omega)
    have HL : Hid (l.drop (i + (Lib.uvarint vs.length).length) = r) := Rd.drop_add hl1
    generalize i + (Lib.uvarint vs.length).length = i1 at *
    generalize hnn : vs.length = n at *
    have HN : Hid (vs.length = n) := hnn
    have HZ : Hid (madeCells #[.int .i64 0] n = partIs vs 0) := by
      show _ = _
      rw [partIs_zero, hnn]
    have HL2 : Hid (r ++ suf = encI vs) := hl2
    generalize madeCells #[.int .i64 0] n = mk at *
    clear hl hnn hl1 hl2
    go_enter Ybaf.func14, Ybaf.ntmps14
    go_wp2_with (go_at_call 22; refine hC.mono ?_; rintro e w1 ⟨rfl, hg1, hrd1⟩)
    have hsz1 := hg1.size
    have hrs := hrd1.size
    obtain ⟨g, HG⟩ : ∃ g, Hid (g = w1.heap.size) := ⟨_, rfl⟩
    have hg0 : rb < g := by rw [HG.out]; exact hrs
    have hg2 : w.heap.size ≤ g := by rw [HG.out]; exact hsz1
    have hW : (w1.alloc (Obj.cells mk 3)).heap[g]? = some (.cells mk 3 (0, 0)) := by rw [HG.out, heap_alloc_new]
    have hmks : mk.size = n := by rw [HZ.out, partIs_size _ _ (Nat.zero_le _), HN.out]
    have hGA : w.grownBy (w1.alloc (Obj.cells mk 3)) (some rb) := grown_allocR hg1 _
    have hRA : Rd (w1.alloc (Obj.cells mk 3)) rb gb cap l i1 := hrd1.alloc _
    rw [← HG.out]
    go_loopw [23] (fun vi wr => ∃ k p : Nat, ∃ c : Array Value, vi = .int .i64 k ∧ k ≤ n ∧ c.size = n ∧ wr.heap[g]? = some (.cells c 3 (0, 0)) ∧ w.grownBy wr (some rb) ∧ Rd wr rb gb cap l p ∧ l.drop p ++ suf = encI (vs.drop k))
      (fun vi _ => n - (intOf vi).toNat)
    case atStart => exact ⟨0, i1, mk, rfl, by omega, hmks, hW, hGA, hRA, by rw [HL.out]; exact HL2.out⟩
    case round =>
      obtain ⟨k, p, c, rfl, hk, hsz, hwg, hgr, hrd, hdr⟩ := hrel
      clear hW hGA hRA
      by_cases hlt : k < n
      · have hkv : k < vs.length := by rw [HN.out]; exact hlt
        have hdk : vs.drop k = vs[k] :: vs.drop (k + 1) := List.drop_eq_getElem_cons hkv
        have hff := hf vs[k] (List.getElem_mem hkv)
        have hgl1 := hgl.grown hgr hrb
        rw [hdk, encI] at hdr
        have hlt' : (k : Int) < (n : Int) := by omega
        rcases cut_split hdr with ⟨r2, h1, h2⟩ | ⟨s2, hs2, h1⟩
        · have hR := readInt_ok wr rb gb cap p vs[k] rd l _ hrd hff.1 hff.2 h1
          have HD : Hid (l.drop (p + (Lib.uvarint (Lib.zigzag vs[k])).length) ++ suf = encI (vs.drop (k + 1))) := by
            show _ = _
            rw [Rd.drop_add h1]; exact h2
          generalize p + (Lib.uvarint (Lib.zigzag vs[k])).length = p1 at *
          generalize vs[k] = v at *
          clear hdr hdk hff h1 h2 hgl1 hgl hmks
          go_wp2_with (go_at_call 15; refine hR.mono ?_; rintro e w2 ⟨rfl, hg3, hrd3⟩; have hw2 := blk_grown hg3 hwg hg0; have hc2 := blk_cell (k := k) hw2 (by omega); have hz2 := blk_frozen (k := k) hw2)
          have hw3 := blk_set (k := k) hw2 (.int .i64 v)
          refine ⟨⟨k + 1, p1, c.setIfInBounds k (.int .i64 v), by go_num, by omega, by simpa using hsz, hw3, grown_setNew (grown_trans hgr hg3) hg2 _, hrd3.setOther hg0 _, HD.out⟩, by simp [intOf]; omega⟩
        · have hR := readInt_eof wr rb gb cap p (Lib.zigzag vs[k]) rd l s2 aE aU aS aO hrd hgl1 hrb (zigzag_lt _ hff.1 hff.2) h1 hs2
          clear hdr hdk hff h1 hgl1 hgl hf hmks
          go_wp2_with (go_at_call 15; refine hR.mono ?_; rintro e w2 ⟨a, rfl, ha, hg3, hrd3⟩; have hw2 := blk_grown hg3 hwg hg0; have hc2 := blk_cell (k := k) hw2 (by omega); have hz2 := blk_frozen (k := k) hw2)
          go_ret2
          exact ⟨a, rfl, ha, grown_setNew (grown_trans hgr hg3) hg2 _, hrd3.setOther hg0 _⟩
      · exfalso
        have hkn : vs.length ≤ k := by rw [HN.out]; omega
        rw [List.drop_eq_nil_of_le hkn] at hdr
        exact hs (List.append_eq_nil_iff.1 hdr).2
  · have hC := readCount_eof w rb gb cap i vs.length rd ⟨#[118, 97, 108, 117, 101, 115]⟩ l s aE aU aS aO h hgl hrb (by omega) hl1 hs1
    clear hl hl1 hf
    go_enter Ybaf.func14, Ybaf.ntmps14
    go_wp2_with (go_at_call 22; refine hC.mono ?_; rintro e w1 ⟨a, rfl, ha, hg1, hrd1⟩)
    go_ret2
    exact ⟨a, rfl, ha, hg1, hrd1⟩
end Go.Proofs.YbulkbsrsFmt
