/-
  readCrashed OVER THE LAWS' READER.
-/
import Derived.Test.YbulkbsrsFmtVals
import Derived.Deep.DeepAppendRoom
import Derived.WalkSpells
namespace Go.Proofs.YbulkbsrsFmt
open Go Go.RowKit

/-- The varints of a list of numbers, one behind the other. -/
def encU : List Nat → List UInt8
  | [] => []
  | p :: ps => Lib.uvarint p ++ encU ps
/-- The processes, as ints. -/
def ints (ps : List Nat) : List Value := ps.map fun p : Nat => Value.int .i64 (p : Int)
/-- From 1, increasing, ints. -/
structure Inc (ps : List Nat) : Prop where
  up : ps.Pairwise (· < ·)
  lo : ∀ p ∈ ps, 1 ≤ p ∧ p < 4611686018427387904

theorem Inc.step {ps : List Nat} (h : Inc ps) {m : Nat} (hm : m + 1 < ps.length) : ps[m] < ps[m + 1] :=
  List.pairwise_iff_getElem.1 h.up m (m + 1) (by omega) hm (by omega)

theorem ints_take {ps : List Nat} {k : Nat} (h : k < ps.length) : ints (ps.take k) ++ [Value.int .i64 (ps[k] : Int)] = ints (ps.take (k + 1)) := by
  unfold ints
  rw [List.take_succ_eq_append_getElem h, List.map_append]
  rfl
theorem ints_one (ps : List Nat) : ∀ u ∈ ints ps, u.oneCell' = true := by
  intro u hu
  obtain ⟨p, _, rfl⟩ := List.mem_map.1 hu
  rfl
/-- A cell of a row that the call owns. -/
theorem own_cell {w : World} {B g n cap j : Nat} {e : TypeId} {xs : List Value} {u : Value} (h : w.ownsRow B e 1 (.slice (some ⟨g, 0, none⟩) n cap) n xs) (hj : xs[j]? = some u) : w.cell? ⟨g, j, none⟩ = some u := by
  obtain ⟨_, h2 | ⟨g', cap', cur, hv, _, hh, _, _, _, ht⟩⟩ := h
  · cases h2.1
  · cases hv
    rw [← ht] at hj
    rw [List.getElem?_take] at hj
    split at hj
    · simp only [World.cell?, hh]
      simpa using hj
    · cases hj
theorem own_grown {w w' : World} {B rb g n cap : Nat} {e : TypeId} {xs : List Value} (hg : w.grownBy w' (some rb)) (h : w.ownsRow B e 1 (.slice (some ⟨g, 0, none⟩) n cap) n xs) (hne : rb < B) : w'.ownsRow B e 1 (.slice (some ⟨g, 0, none⟩) n cap) n xs := by
  obtain ⟨h1, h2 | ⟨g', cap', cur, hv, hb, hh, r⟩⟩ := h
  · cases h2.1
  · cases hv
    exact ⟨h1, Or.inr ⟨g, cap, cur, rfl, hb, blk_grown hg hh (by omega), r⟩⟩

theorem grown_own {w w2 w3 : World} {r : Option Nat} {g : Nat} (h : w.grownBy w2 r) (k : w2.grownBy w3 (some g)) (hg : w.heap.size ≤ g) : w.grownBy w3 r :=
  ⟨k.os.trans h.os, k.tape.trans h.tape, k.output.trans h.output, Nat.le_trans h.size k.size, fun j hj hr => (k.block j (Nat.lt_of_lt_of_le hj h.size) (by simp; omega)).trans (h.block j hj hr)⟩
theorem Rd.own {w w2 : World} {rb gb cap i g : Nat} {l : List UInt8} (h : Rd w rb gb cap l i) (k : w.grownBy w2 (some g)) (hg : rb < g) : Rd w2 rb gb cap l i :=
  h.keep fun j hj => k.block j (by have := h.size; omega) (by simp; omega)

theorem makeInts0 (c : Nat) (hc : c ≤ 1000000) (w : World) :
    (Instr.makeSlice 26 (.int .i64 0) (.int .i64 (c : Int))).run Ybaf.prog w = .ok (.slice (some ⟨w.heap.size, 0, none⟩) 0 c) (w.alloc (.cells (madeCells #[.int .i64 0] c) 3)) :=
  makeInts 0 c (Nat.zero_le _) hc w

set_option maxHeartbeats 1000000 in
set_option maxRecDepth 100000 in
theorem readCrashed_ok (w : World) (rb gb cap i : Nat) (rd : Int) (ps : List Nat) (l rest : List UInt8) (h : Rd w rb gb cap l i) (hn : ps.length ≤ 65536) (hf : Inc ps) (hl : l.drop i = Lib.uvarint ps.length ++ (encU ps ++ rest)) :
    Calls Ybaf.prog 16 #[rdr rb, .int .i64 rd] w fun e w' => ∃ g, e = .returned (.tuple #[.slice (some ⟨g, 0, none⟩) ps.length ps.length, .nilIface]) ∧ w'.ownsRow w.heap.size 3 1 (.slice (some ⟨g, 0, none⟩) ps.length ps.length) ps.length (ints ps) ∧ w.grownBy w' (some rb) ∧ ∃ p, Rd w' rb gb cap l p ∧ l.drop p = rest := by
  have hC := readCount_ok w rb gb cap i ps.length rd ⟨#[112, 114, 111, 99, 101, 115, 115, 101, 115]⟩ l _ h hn hl
  have hmk := makeInts0 ps.length (by omega)
  have HL : Hid (l.drop (i + (Lib.uvarint ps.length).length) = encU ps ++ rest) := Rd.drop_add hl
  generalize i + (Lib.uvarint ps.length).length = i1 at *
  generalize hnn : ps.length = n at *
  have HN : Hid (ps.length = n) := hnn
  have hmx : n ≤ maxLen := by unfold maxLen; omega
  have hmks : (madeCells #[.int .i64 0] n).size = n * 1 := by rw [size_madeCells, Nat.mul_one]
  generalize madeCells #[.int .i64 0] n = mk at *
  obtain ⟨i0, hi0, hz, hs1, hb8⟩ := zero3
  clear hl hnn
  go_enter Ybaf.func16, Ybaf.ntmps16
  go_wp2_with (go_at_call 22; refine hC.mono ?_; rintro e w1 ⟨rfl, hg1, hrd1⟩)
  have hsz1 := hg1.size
  have hrs := hrd1.size
  have hrw := h.size
  have hO : (w1.alloc (Obj.cells mk 3)).ownsRow w.heap.size 3 1 (.slice (some ⟨w1.heap.size, 0, none⟩) 0 n) 0 [] := World.ownsRow_made w1 mk n hsz1 hmx hmks
  obtain ⟨g, HG⟩ : ∃ g, Hid (g = w1.heap.size) := ⟨_, rfl⟩
  rw [← HG.out] at hO
  have hGA : w.grownBy (w1.alloc (Obj.cells mk 3)) (some rb) := grown_allocR hg1 _
  have hRA : Rd (w1.alloc (Obj.cells mk 3)) rb gb cap l i1 := hrd1.alloc _
  rw [← HG.out]
  go_loopw [8, 23] (fun vs vi wr => ∃ k p : Nat, vi = .int .i64 k ∧ k ≤ n ∧ vs = .slice (some ⟨g, 0, none⟩) k n ∧ wr.ownsRow w.heap.size 3 1 (.slice (some ⟨g, 0, none⟩) k n) k (ints (ps.take k)) ∧ w.grownBy wr (some rb) ∧ Rd wr rb gb cap l p ∧ l.drop p = encU (ps.drop k) ++ rest)
    (fun _ vi _ => n - (intOf vi).toNat)
  case atStart => exact ⟨0, i1, rfl, by omega, rfl, hO, hGA, hRA, HL.out⟩
  case round =>
    obtain ⟨k, p, rfl, hk, rfl, hown, hgr, hrd, hdr⟩ := hrel
    clear hO hGA hRA
    have hgB : w.heap.size ≤ g := (hown.lt g rfl).1
    have hgR : rb < g := by omega
    by_cases hlt : k < n
    · have hkv : k < ps.length := by rw [HN.out]; exact hlt
      have hdk : ps.drop k = ps[k] :: ps.drop (k + 1) := List.drop_eq_getElem_cons hkv
      have hff := hf.lo ps[k] (List.getElem_mem hkv)
      rw [hdk, encU, List.append_assoc] at hdr
      have hR := readUint_ok wr rb gb cap p ps[k] l _ hrd (by omega) hdr
      have HD : Hid (l.drop (p + (Lib.uvarint ps[k]).length) = encU (ps.drop (k + 1)) ++ rest) := Rd.drop_add hdr
      have HT : Hid (ints (ps.take k) ++ [Value.int .i64 (ps[k] : Int)] = ints (ps.take (k + 1))) := ints_take hkv
      have hp1 : ¬ (ps[k] : Int) < 1 := by omega
      have hlt' : (k : Int) < (n : Int) := by omega
      by_cases hk0 : k = 0
      · subst hk0
        generalize p + (Lib.uvarint ps[0]).length = p1 at *
        generalize ps[0] = v at *
        clear hdr hdk hff
        go_wp2_with (first | (go_at_call 11; refine hR.mono ?_; rintro e w2 ⟨rfl, hg3, hrd3⟩; have hown2 := own_grown hg3 hown hrw) | (at_builtin; refine wpList_append_own_spare _ rfl _ _ 26 rfl w.heap.size 3 i0 1 Ybaf.underlying26 hi0 hs1 g 0 n _ rfl (hown2.alloc _) ⟨w2.heap.size, 0, none⟩ 1 1 [Value.int .i64 (v : Int)] rfl rfl (cell_one_new _ _ _) ?_ (by omega) ?_; (intro u hu; simp at hu; subst hu; rfl); intro w3 hown3 hgrow3))
        exact ⟨⟨1, p1, rfl, by omega, rfl, by rw [HT.out] at hown3; exact hown3, grown_own (grown_allocR (grown_trans hgr hg3) _) hgrow3 hgB, (hrd3.alloc _).own hgrow3 hgR, HD.out⟩, by simp [intOf]; omega⟩
      · obtain ⟨m, rfl⟩ : ∃ m, k = m + 1 := ⟨k - 1, by omega⟩
        have hup := hf.step hkv
        have hx : (ints (ps.take (m + 1)))[m]? = some (.int .i64 (ps[m] : Int)) := by
          unfold ints
          rw [List.getElem?_map, List.getElem?_take_of_lt (by omega), List.getElem?_eq_getElem (by omega)]
          rfl
        generalize p + (Lib.uvarint ps[m + 1]).length = p1 at *
        generalize ps[m + 1] = v at *
        generalize ps[m] = q at *
        clear hdr hdk hff
        have hvq : ¬ (v : Int) ≤ (q : Int) := by omega
        go_wp2_with (first | (go_at_call 11; refine hR.mono ?_; rintro e w2 ⟨rfl, hg3, hrd3⟩; have hown2 := own_grown hg3 hown hrw; have hcl := own_cell hown2 hx) | (at_builtin; refine wpList_append_own_spare _ rfl _ _ 26 rfl w.heap.size 3 i0 1 Ybaf.underlying26 hi0 hs1 g (m + 1) n _ rfl (hown2.alloc _) ⟨w2.heap.size, 0, none⟩ 1 1 [Value.int .i64 (v : Int)] rfl rfl (cell_one_new _ _ _) ?_ (by omega) ?_; (intro u hu; simp at hu; subst hu; rfl); intro w3 hown3 hgrow3))
        exact ⟨⟨m + 1 + 1, p1, by go_num, by omega, rfl, by rw [HT.out] at hown3; exact hown3, grown_own (grown_allocR (grown_trans hgr hg3) _) hgrow3 hgB, (hrd3.alloc _).own hgrow3 hgR, HD.out⟩, by simp [intOf]; omega⟩
    · have hkn : k = n := by omega
      have hf' : ¬ (k : Int) < (n : Int) := by omega
      have hwn : wr.ownsRow w.heap.size 3 1 (.slice (some ⟨g, 0, none⟩) n n) n (ints ps) := by
        rw [hkn, List.take_of_length_le (by rw [HN.out]; exact Nat.le_refl _)] at hown
        exact hown
      have HE : Hid (l.drop p = rest) := by
        show _ = _
        rw [hdr, List.drop_eq_nil_of_le (by rw [HN.out]; omega)]; simp [encU]
      obtain rfl := hkn
      clear hdr hown hf
      go_wp2
      go_ret2
      exact ⟨g, rfl, hwn, hgr, p, hrd, HE.out⟩

set_option maxHeartbeats 1000000 in
set_option maxRecDepth 100000 in
theorem readCrashed_eof (w : World) (rb gb cap i : Nat) (rd : Int) (ps : List Nat) (l suf : List UInt8) (aE aU aS aO : Addr) (h : Rd w rb gb cap l i) (hgl : Gl w aE aU aS aO) (hrb : 4 ≤ rb) (hn : ps.length ≤ 65536) (hf : Inc ps) (hl : l.drop i ++ suf = Lib.uvarint ps.length ++ encU ps) (hs : suf ≠ []) :
    Calls Ybaf.prog 16 #[rdr rb, .int .i64 rd] w fun e w' => ∃ a : Addr, e = .returned (.tuple #[.slice none 0 0, err a]) ∧ (a = aE ∨ a = aU) ∧ w.grownBy w' (some rb) ∧ Rd w' rb gb cap l l.length := by
  rcases cut_split hl with ⟨r, hl1, hl2⟩ | ⟨s, hs1, hl1⟩
  · have hC := readCount_ok w rb gb cap i ps.length rd ⟨#[112, 114, 111, 99, 101, 115, 115, 101, 115]⟩ l _ h hn hl1
    have hmk := makeInts0 ps.length (by omega)
    have HL : Hid (l.drop (i + (Lib.uvarint ps.length).length) ++ suf = encU ps) := by
      show _ = _
      rw [Rd.drop_add hl1]; exact hl2
    generalize i + (Lib.uvarint ps.length).length = i1 at *
    generalize hnn : ps.length = n at *
    have HN : Hid (ps.length = n) := hnn
    have hmx : n ≤ maxLen := by unfold maxLen; omega
    have hmks : (madeCells #[.int .i64 0] n).size = n * 1 := by rw [size_madeCells, Nat.mul_one]
    generalize madeCells #[.int .i64 0] n = mk at *
    obtain ⟨i0, hi0, hz, hs1, hb8⟩ := zero3
    clear hl hnn hl1 hl2
    go_enter Ybaf.func16, Ybaf.ntmps16
    go_wp2_with (go_at_call 22; refine hC.mono ?_; rintro e w1 ⟨rfl, hg1, hrd1⟩)
    have hsz1 := hg1.size
    have hrs := hrd1.size
    have hrw := h.size
    have hO : (w1.alloc (Obj.cells mk 3)).ownsRow w.heap.size 3 1 (.slice (some ⟨w1.heap.size, 0, none⟩) 0 n) 0 [] := World.ownsRow_made w1 mk n hsz1 hmx hmks
    obtain ⟨g, HG⟩ : ∃ g, Hid (g = w1.heap.size) := ⟨_, rfl⟩
    rw [← HG.out] at hO
    have hGA : w.grownBy (w1.alloc (Obj.cells mk 3)) (some rb) := grown_allocR hg1 _
    have hRA : Rd (w1.alloc (Obj.cells mk 3)) rb gb cap l i1 := hrd1.alloc _
    rw [← HG.out]
    go_loopw [8, 23] (fun vs vi wr => ∃ k p : Nat, vi = .int .i64 k ∧ k ≤ n ∧ vs = .slice (some ⟨g, 0, none⟩) k n ∧ wr.ownsRow w.heap.size 3 1 (.slice (some ⟨g, 0, none⟩) k n) k (ints (ps.take k)) ∧ w.grownBy wr (some rb) ∧ Rd wr rb gb cap l p ∧ l.drop p ++ suf = encU (ps.drop k))
      (fun _ vi _ => n - (intOf vi).toNat)
    case atStart => exact ⟨0, i1, rfl, by omega, rfl, hO, hGA, hRA, HL.out⟩
    case round =>
      obtain ⟨k, p, rfl, hk, rfl, hown, hgr, hrd, hdr⟩ := hrel
      clear hO hGA hRA
      have hgB : w.heap.size ≤ g := (hown.lt g rfl).1
      have hgR : rb < g := by omega
      by_cases hlt : k < n
      · have hkv : k < ps.length := by rw [HN.out]; exact hlt
        have hdk : ps.drop k = ps[k] :: ps.drop (k + 1) := List.drop_eq_getElem_cons hkv
        have hff := hf.lo ps[k] (List.getElem_mem hkv)
        have hgl1 := hgl.grown hgr hrb
        rw [hdk, encU] at hdr
        have hlt' : (k : Int) < (n : Int) := by omega
        rcases cut_split hdr with ⟨r2, h1, h2⟩ | ⟨s2, hs2, h1⟩
        · have hR := readUint_ok wr rb gb cap p ps[k] l _ hrd (by omega) h1
          have HD : Hid (l.drop (p + (Lib.uvarint ps[k]).length) ++ suf = encU (ps.drop (k + 1))) := by
            show _ = _
            rw [Rd.drop_add h1]; exact h2
          have HT : Hid (ints (ps.take k) ++ [Value.int .i64 (ps[k] : Int)] = ints (ps.take (k + 1))) := ints_take hkv
          have hp1 : ¬ (ps[k] : Int) < 1 := by omega
          clear hgl1 hgl
          by_cases hk0 : k = 0
          · subst hk0
            generalize p + (Lib.uvarint ps[0]).length = p1 at *
            generalize ps[0] = v at *
            clear hdr hdk hff h1 h2
            go_wp2_with (first | (go_at_call 11; refine hR.mono ?_; rintro e w2 ⟨rfl, hg3, hrd3⟩; have hown2 := own_grown hg3 hown hrw) | (at_builtin; refine wpList_append_own_spare _ rfl _ _ 26 rfl w.heap.size 3 i0 1 Ybaf.underlying26 hi0 hs1 g 0 n _ rfl (hown2.alloc _) ⟨w2.heap.size, 0, none⟩ 1 1 [Value.int .i64 (v : Int)] rfl rfl (cell_one_new _ _ _) ?_ (by omega) ?_; (intro u hu; simp at hu; subst hu; rfl); intro w3 hown3 hgrow3))
            exact ⟨⟨1, p1, rfl, by omega, rfl, by rw [HT.out] at hown3; exact hown3, grown_own (grown_allocR (grown_trans hgr hg3) _) hgrow3 hgB, (hrd3.alloc _).own hgrow3 hgR, HD.out⟩, by simp [intOf]; omega⟩
          · obtain ⟨m, rfl⟩ : ∃ m, k = m + 1 := ⟨k - 1, by omega⟩
            have hup := hf.step hkv
            have hx : (ints (ps.take (m + 1)))[m]? = some (.int .i64 (ps[m] : Int)) := by
              unfold ints
              rw [List.getElem?_map, List.getElem?_take_of_lt (by omega), List.getElem?_eq_getElem (by omega)]
              rfl
            generalize p + (Lib.uvarint ps[m + 1]).length = p1 at *
            generalize ps[m + 1] = v at *
            generalize ps[m] = q at *
            clear hdr hdk hff h1 h2
            have hvq : ¬ (v : Int) ≤ (q : Int) := by omega
            go_wp2_with (first | (go_at_call 11; refine hR.mono ?_; rintro e w2 ⟨rfl, hg3, hrd3⟩; have hown2 := own_grown hg3 hown hrw; have hcl := own_cell hown2 hx) | (at_builtin; refine wpList_append_own_spare _ rfl _ _ 26 rfl w.heap.size 3 i0 1 Ybaf.underlying26 hi0 hs1 g (m + 1) n _ rfl (hown2.alloc _) ⟨w2.heap.size, 0, none⟩ 1 1 [Value.int .i64 (v : Int)] rfl rfl (cell_one_new _ _ _) ?_ (by omega) ?_; (intro u hu; simp at hu; subst hu; rfl); intro w3 hown3 hgrow3))
            exact ⟨⟨m + 1 + 1, p1, by go_num, by omega, rfl, by rw [HT.out] at hown3; exact hown3, grown_own (grown_allocR (grown_trans hgr hg3) _) hgrow3 hgB, (hrd3.alloc _).own hgrow3 hgR, HD.out⟩, by simp [intOf]; omega⟩
        · have hR := readUint_eof wr rb gb cap p ps[k] l s2 aE aU aS aO hrd hgl1 hrb (by omega) h1 hs2
          clear hdr hdk hff h1 hgl1 hgl hf
          go_wp2_with (go_at_call 11; refine hR.mono ?_; rintro e w2 ⟨a, rfl, ha, hg3, hrd3⟩)
          go_ret2
          exact ⟨a, rfl, ha, grown_trans hgr hg3, hrd3⟩
      · exfalso
        have hkn : ps.length ≤ k := by rw [HN.out]; omega
        rw [List.drop_eq_nil_of_le hkn] at hdr
        exact hs (List.append_eq_nil_iff.1 hdr).2
  · have hC := readCount_eof w rb gb cap i ps.length rd ⟨#[112, 114, 111, 99, 101, 115, 115, 101, 115]⟩ l s aE aU aS aO h hgl hrb (by omega) hl1 hs1
    clear hl hl1 hf
    go_enter Ybaf.func16, Ybaf.ntmps16
    go_wp2_with (go_at_call 22; refine hC.mono ?_; rintro e w1 ⟨a, rfl, ha, hg1, hrd1⟩)
    go_ret2
    exact ⟨a, rfl, ha, hg1, hrd1⟩
end Go.Proofs.YbulkbsrsFmt
