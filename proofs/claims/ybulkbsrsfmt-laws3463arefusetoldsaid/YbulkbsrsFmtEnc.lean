/-
  THE FRAME WRITTEN BY HAND (zzs3463aencode): the walk.
-/
import Derived.Test.YbulkbsrsFmtEncP
import Derived.Test.YbulkbsrsFmtApp
import Derived.Test.YbulkbsrsFmtFrame
import Derived.Deep.DeepCutAuto
namespace Go.Proofs.YbulkbsrsFmt
open Go Go.RowKit

/-- A slice of integers that came in: its cells hold zs. -/
def Came (w : World) (k : IntKind) (ao : Option Addr) (zs : List Int) : Prop :=
  zs = [] ∨ ∃ b o, ao = some ⟨b, o, none⟩ ∧ ∀ j (hj : j < zs.length), w.cell? ⟨b, o + j, none⟩ = some (.int k zs[j])
theorem Came.at {w : World} {k : IntKind} {ao : Option Addr} {zs : List Int} (h : Came w k ao zs) {j : Nat} (hj : j < zs.length) : ∃ b o, ao = some ⟨b, o, none⟩ ∧ w.cell? ⟨b, o + j, none⟩ = some (.int k zs[j]) := by
  rcases h with rfl | ⟨b, o, h1, h2⟩
  · simp at hj
  · exact ⟨b, o, h1, h2 j hj⟩
/-- The bytes L lie in the row v. -/
abbrev Row (w : World) (B : Nat) (v : Value) (L : List UInt8) : Prop := w.ownsRow B 5 1 v L.length (Lib.byteCells L)
theorem row_more {w : World} {B n : Nat} {v : Value} {L M : List UInt8} (h : w.ownsRow B 5 1 v (L.length + n) (Lib.byteCells L ++ Lib.byteCells M)) (hn : n = M.length) : Row w B v (L ++ M) := by
  unfold Row
  rw [Lib.byteCells_append, List.length_append, ← hn]
  exact h
/-- The whole frame's bytes. -/
def frameBytes (d r : Nat) (fl : UInt8) (b1 b2 : Bool) (vs : List Int) (x : Int) (ps : List Nat) : List UInt8 :=
  Lib.uvarint d ++ (Lib.uvarint r ++ ([fl] ++ (encV b1 vs ++ (encX b2 x ++ (Lib.uvarint ps.length ++ encU ps)))))

/-- A row of ints, behind an append to the bytes. -/
theorem own_ints {w w' : World} {B n g cap : Nat} {xs : List Value} (h : w.ownsRow B 3 1 (.slice (some ⟨g, 0, none⟩) n cap) n xs) (hk : KI B w w') : w'.ownsRow B 3 1 (.slice (some ⟨g, 0, none⟩) n cap) n xs := by
  obtain ⟨h1, h2 | ⟨g', cap', cur, hv, hg, hh, r⟩⟩ := h
  · cases h2.1
  · cases hv
    exact ⟨h1, Or.inr ⟨g, cap, cur, rfl, hg, hk.rows g cur hh, r⟩⟩
/-- A row of bytes, behind an append to a row of ints. -/
theorem own_bytes {w w' : World} {B m n g cap : Nat} {v : Value} {xs ys : List Value} (h : w.ownsRow B 5 1 v m xs) (hi : w.ownsRow B 3 1 (.slice (some ⟨g, 0, none⟩) n cap) n ys) (hg : w.grownBy w' (some g)) : w'.ownsRow B 5 1 v m xs := by
  obtain ⟨h1, h2 | ⟨g', cap', cur, hv, hb, hh, r⟩⟩ := h
  · exact ⟨h1, Or.inl h2⟩
  · refine ⟨h1, Or.inr ⟨g', cap', cur, hv, hb, (hg.block g' (blk_lt hh) ?_).trans hh, r⟩⟩
    intro e
    obtain ⟨_, h3 | ⟨g3, cap3, cur3, hv3, _, hh3, _⟩⟩ := hi
    · cases h3.1
    · cases hv3
      cases e
      rw [hh] at hh3
      cases hh3
theorem psOf_take {ds : List Nat} {k : Nat} (h : k < ds.length) : ints ((psOf ds).take k) ++ [Value.int .i64 ((pv ds (k + 1) : Nat) : Int)] = ints ((psOf ds).take (k + 1)) := by
  have hk : k < (psOf ds).length := by rw [psOf_length]; exact h
  rw [← ints_take hk, psOf_get]

set_option maxHeartbeats 4000000 in
set_option maxRecDepth 100000 in
theorem encode_any (w : World) (d r : Nat) (fl : UInt8) (b1 b2 : Bool) (va da : Option Addr) (vcap dcap : Nat) (vs : List Int) (x : Int) (ds : List Nat)
    (hd : d < 4294967296) (hr : r < 4294967296) (h1 : (bits .and .u8 (fl.toNat : Int) 1 != 0) = b1) (h2 : (bits .and .u8 (fl.toNat : Int) 2 != 0) = b2)
    (hvn : vs.length ≤ 1024) (hvf : ∀ v ∈ vs, Fits v) (hx : Fits x) (hdn : ds.length ≤ 1024) (hdf : ∀ y ∈ ds, y < 65536)
    (hcv : Came w .i64 va vs) (hcd : Came w .u16 da (ds.map fun y : Nat => (y : Int))) :
    Calls Ybaf.prog 6 #[.int .u32 d, .int .u32 r, .int .u8 fl.toNat, .slice va vs.length vcap, .int .i64 x, .slice da ds.length dcap] w fun e w' =>
      ∃ vb g, e = .returned (.tuple #[vb, .slice (some ⟨g, 0, none⟩) ds.length ds.length]) ∧ Row w' w.heap.size vb (frameBytes (d + 1) r fl b1 b2 vs x (psOf ds)) ∧
        w'.ownsRow w.heap.size 3 1 (.slice (some ⟨g, 0, none⟩) ds.length ds.length) ds.length (ints (psOf ds)) ∧ Below w.heap.size w w' := by
  obtain ⟨i0, hi, hz0, hz1, hz2⟩ := info5
  have hl1 := Lib.uvarint_length64 (x := d + 1) (by omega)
  have hl2 := Lib.uvarint_length64 (x := r) (by omega)
  have hfl : fl.toNat < 256 := fl.toNat_lt
  go_enter Ybaf.func6, Ybaf.ntmps6
  go_wp2_with fail
  refine (appendUvarint w.heap.size 0 (d + 1) (by omega) _ [] w (World.ownsRow_nil w _ _ _) (Nat.le_refl _) (by omega)).mono ?_
  rintro e w1 ⟨v1, rfl, ho1, hk1⟩
  have R1 : Row w1 w.heap.size v1 (Lib.uvarint (d + 1)) := by simpa [Row] using ho1
  clear ho1
  go_wp2_with fail
  refine (appendUvarint w.heap.size _ r (by omega) v1 _ w1 R1 hk1.size (by omega)).mono ?_
  rintro e w2 ⟨v2, rfl, ho2, hk2⟩
  have R2 : Row w2 w.heap.size v2 (Lib.uvarint (d + 1) ++ Lib.uvarint r) := row_more ho2 rfl
  have K2 := hk1.trans hk2
  clear ho2 hk1 hk2 R1
  have hs2 := K2.size
  have hA2 := R2.alloc (.cells #[.int .u8 (fl.toNat : Int)] 5)
  go_upto_if 35 with (at_builtin; refine wpList_append_own _ rfl _ _ 25 rfl w.heap.size 5 i0 (.int .u8 0) 1 1 Ybaf.underlying25 hi hz0 hz1 hz2 rfl (by decide) _ _ _ rfl hA2 ⟨w2.heap.size, 0, none⟩ 1 1 [Value.int .u8 (fl.toNat : Int)] rfl rfl (cell_one_new _ _ _) ?c2 ?c3 ?c4 ?c5 ?_)
  case c2 => intro u hu; simp at hu; subst hu; rfl
  case c3 => unfold maxLen; rw [List.length_append]; omega
  case c4 => rw [List.length_append]; omega
  case c5 => simp; omega
  intro v3 w3 ho3 hg3 hn3
  have K3 : KI w.heap.size w w3 := (K2.alloc hs2 _).grown hg3 (by simp; omega) hA2
  obtain ⟨L3, HL3⟩ : ∃ L3, Hid (L3 = Lib.uvarint (d + 1) ++ (Lib.uvarint r ++ [fl])) := ⟨_, rfl⟩
  have hl3 : L3.length ≤ 21 := by rw [HL3.out]; simp; omega
  have R3 : Row w3 w.heap.size v3 L3 := by
    unfold Row
    rw [HL3.out, ← List.append_assoc, Lib.byteCells_append, List.length_append, List.length_append]
    exact ho3
  clear ho3 hg3 hA2 R2 K2 hs2 hn3
  go_upto_if 35 with fail
  go_cut [14] (fun vb wx => ∃ L4, Row wx w.heap.size vb L4 ∧ L4 = L3 ++ encV b1 vs ∧ L4.length ≤ 21 + 10 + 10240 ∧ KI w.heap.size w wx)
  case first =>
    cases b1
    · go_wp2
      go_meet
      case rel => exact ⟨L3, R3, by simp [encV], by omega, K3⟩
    · have hnn := Lib.uvarint_length64 (x := vs.length) (by omega)
      go_wp2_with fail
      refine (appendUvarint w.heap.size _ vs.length (by omega) v3 _ w3 R3 K3.size (by omega)).mono ?_
      rintro e w4 ⟨v4, rfl, ho4, hk4⟩
      have R4 : Row w4 w.heap.size v4 (L3 ++ Lib.uvarint vs.length) := row_more ho4 rfl
      have K4 := K3.trans hk4
      clear ho4 hk4
      obtain ⟨L4, HL4⟩ : ∃ L4, Hid (L4 = L3 ++ Lib.uvarint vs.length) := ⟨_, rfl⟩
      have hl4 : L4.length ≤ 31 := by rw [HL4.out, List.length_append]; omega
      rw [← HL4.out] at R4
      go_wp2_with fail
      go_loopw [14, 43] (fun vb vi wr => ∃ k : Nat, vi = .int .i64 k ∧ k ≤ vs.length ∧ Row wr w.heap.size vb (L4 ++ encI (vs.take k)) ∧ KI w.heap.size w wr)
        (fun _ vi _ => vs.length - (intOf vi).toNat)
      case atStart => exact ⟨0, rfl, by omega, by simpa [encI] using R4, K4⟩
      case round =>
        obtain ⟨k, rfl, hk, hR, hK⟩ := hrel
        have hle : (encI (vs.take k)).length ≤ 10 * (vs.take k).length := encI_len _ fun v hv => hvf v (List.mem_of_mem_take hv)
        have hlk : (vs.take k).length ≤ k := List.length_take_le _ _
        by_cases hlt : k < vs.length
        · obtain ⟨b, o, hao, hc⟩ := hcv.at hlt
          subst hao
          have hc' : wr.cell? ⟨b, o + k, none⟩ = some (.int .i64 vs[k]) := (hK.below.cell (p := ⟨b, o + k, none⟩) (World.block_lt_of_cell? _ _ hc)).trans hc
          go_wp2_with fail
          refine (appendVarint w.heap.size _ vs[k] (hvf _ (List.getElem_mem hlt)) _ _ wr hR hK.size (by rw [List.length_append]; omega)).mono ?_
          rintro e w5 ⟨v5, rfl, ho5, hk5⟩
          have R5 : Row w5 w.heap.size v5 (L4 ++ encI (vs.take (k + 1))) := by
            rw [encI_take hlt, ← List.append_assoc]
            exact row_more ho5 rfl
          have K5 := hK.trans hk5
          clear ho5 hk5 hc hc' hcv
          go_wp2
          exact ⟨⟨k + 1, by go_num, by omega, R5, K5⟩, by simp [intOf]; omega⟩
        · have hkn : k = vs.length := by omega
          have hnl : ¬ (k : Int) < (vs.length : Int) := by omega
          have HR : Hid (Row wr w.heap.size u14 (L4 ++ encI vs)) := by
            rw [hkn, List.take_length] at hR
            exact hR
          have hle2 := encI_len vs hvf
          clear hR hkn
          go_wp2
          go_meet
          case rel => exact ⟨_, HR.out, by rw [HL4.out]; simp [encV], by rw [List.length_append]; omega, hK⟩
  case rest =>
    obtain ⟨L4, R4, hL4, hl4, K4⟩ := hcut
    have HL4 := hid hL4
    clear hL4 R3 K3 hl3
    go_upto_if 53 with fail
    go_cut [14] (fun vb wx => ∃ L5, Row wx w.heap.size vb L5 ∧ L5 = L4 ++ encX b2 x ∧ L5.length ≤ 21 + 10 + 10240 + 10 ∧ KI w.heap.size w wx)
    case first =>
      cases b2
      · go_wp2
        go_meet
        case rel => exact ⟨L4, R4, by simp [encX], by omega, K4⟩
      · have hnn := Lib.uvarint_length64 (zigzag_lt x hx.1 hx.2)
        go_wp2_with fail
        refine (appendVarint w.heap.size _ x hx _ _ _ R4 K4.size (by omega)).mono ?_
        rintro e w5 ⟨v5, rfl, ho5, hk5⟩
        have R5 : Row w5 w.heap.size v5 (L4 ++ Lib.uvarint (Lib.zigzag x)) := row_more ho5 rfl
        have K5 := K4.trans hk5
        clear ho5 hk5
        go_wp2
        go_meet
        case rel => exact ⟨_, R5, by simp [encX], by rw [List.length_append]; omega, K5⟩
    case rest =>
      obtain ⟨L5, R5, hL5, hl5, K5⟩ := hcut
      have HL5 := hid hL5
      clear hL5 R4 K4 hl4
      have hmk := makeInts0 ds.length (by omega)
      have hmx : ds.length ≤ maxLen := by unfold maxLen; omega
      have hmks : (madeCells #[.int .i64 0] ds.length).size = ds.length * 1 := by rw [size_madeCells, Nat.mul_one]
      generalize madeCells #[.int .i64 0] ds.length = mk at *
      obtain ⟨j0, hj0, hjz, hj1, hj8⟩ := zero3
      have hsz5 := K5.size
      have hnn := Lib.uvarint_length64 (x := ds.length) (by omega)
      go_wp2_with fail
      have O6 : (wc.alloc (Obj.cells mk 3)).ownsRow w.heap.size 3 1 (.slice (some ⟨wc.heap.size, 0, none⟩) 0 ds.length) 0 [] := World.ownsRow_made wc mk ds.length hsz5 hmx hmks
      refine (appendUvarint w.heap.size _ ds.length (by omega) _ _ _ (R5.alloc _) (by simp; omega) (by omega)).mono ?_
      rintro e w6 ⟨v6, rfl, ho6, hk6⟩
      have R6 : Row w6 w.heap.size v6 (L5 ++ Lib.uvarint ds.length) := row_more ho6 rfl
      have O7 := own_ints O6 hk6
      have B6 : Below w.heap.size w w6 := (K5.below.alloc hsz5 _).trans hk6.below
      obtain ⟨g, HG⟩ : ∃ g, Hid (g = wc.heap.size) := ⟨_, rfl⟩
      rw [← HG.out] at O7 ⊢
      obtain ⟨L6, HL6⟩ : ∃ L6, Hid (L6 = L5 ++ Lib.uvarint ds.length) := ⟨_, rfl⟩
      rw [← HL6.out] at R6
      have hl6 : L6.length ≤ 10300 := by rw [HL6.out, List.length_append]; omega
      clear ho6 hk6 O6 R5 hl5 hmks hmk
      go_wp2_with fail
      go_loopw [14, 17, 18, 67] (fun vb vc vp vi wr => ∃ k : Nat, vi = .int .i64 k ∧ k ≤ ds.length ∧ vp = .int .i64 ((pv ds k : Nat) : Int) ∧ vc = .slice (some ⟨g, 0, none⟩) k ds.length ∧ wr.ownsRow w.heap.size 3 1 (.slice (some ⟨g, 0, none⟩) k ds.length) k (ints ((psOf ds).take k)) ∧ Row wr w.heap.size vb (L6 ++ encU ((psOf ds).take k)) ∧ Below w.heap.size w wr)
        (fun _ _ _ vi _ => ds.length - (intOf vi).toNat)
      case atStart => exact ⟨0, rfl, by omega, rfl, rfl, O7, by simpa [encU] using R6, B6⟩
      case round =>
        obtain ⟨k, rfl, hk, rfl, rfl, hO, hR, hB⟩ := hrel
        clear O7 R6 B6
        have hle : (encU ((psOf ds).take k)).length ≤ 10 * ((psOf ds).take k).length := encU_len _ fun v hv => by
          have := ((psOf_inc ds hdf (by omega)).lo v (List.mem_of_mem_take hv)).2
          omega
        have hlk : ((psOf ds).take k).length ≤ k := List.length_take_le _ _
        by_cases hlt : k < ds.length
        · have hkm : k < (ds.map fun y : Nat => (y : Int)).length := by simpa using hlt
          obtain ⟨b, o, hao, hc⟩ := hcd.at hkm
          subst hao
          have hc' : wr.cell? ⟨b, o + k, none⟩ = some (.int .u16 (ds[k] : Int)) := by
            refine ((hB.cell (p := ⟨b, o + k, none⟩) (World.block_lt_of_cell? _ _ hc)).trans hc).trans ?_
            simp
          have hq := pv_le ds hdf k
          have hy := hdf _ (List.getElem_mem hlt)
          have hE : ((pv ds k : Nat) : Int) + ((ds[k] : Int) + 1) = ((pv ds (k + 1) : Nat) : Int) := by
            simp only [pv]
            rw [List.getD_eq_getElem?_getD, List.getElem?_eq_getElem hlt]
            simp
            omega
          have HT := hid (psOf_take hlt)
          have HU : Hid (encU ((psOf ds).take (k + 1)) = encU ((psOf ds).take k) ++ Lib.uvarint (pv ds (k + 1))) := by
            show _ = _
            rw [encU_take (by rw [psOf_length]; exact hlt), psOf_get]
          have hp1 : pv ds (k + 1) < 18446744073709551616 := by omega
          have hq2 : pv ds k ≤ 67108864 := by
            have : k * 65536 ≤ 1024 * 65536 := Nat.mul_le_mul_right _ (by omega)
            omega
          generalize hP1 : pv ds (k + 1) = p1 at *
          have HP1 := hid hP1
          clear hP1
          generalize pv ds k = q at *
          generalize ds[k] = y at *
          have hsr := hB.size
          go_wp2_with (at_builtin; refine wpList_append_own_spare _ rfl _ _ 26 rfl w.heap.size 3 j0 1 Ybaf.underlying26 hj0 hj1 g k ds.length _ rfl (hO.alloc _) ⟨wr.heap.size, 0, none⟩ 1 1 [Value.int .i64 (p1 : Int)] rfl rfl (cell_one_new _ _ _) ?_ (by omega) ?_; (intro u hu; simp at hu; subst hu; rfl); intro w7 hO7 hg7)
          have hgB := (hO.lt g rfl).1
          have R7 : Row w7 w.heap.size u14 (L6 ++ encU ((psOf ds).take k)) := own_bytes (hR.alloc _) (hO.alloc _) hg7
          have B7 : Below w.heap.size w w7 := (hB.alloc hsr _).grown hg7 (by simp; omega) (fun j hj => by cases hj; exact hgB)
          rw [HT.out] at hO7
          refine (appendUvarint w.heap.size _ p1 hp1 _ _ w7 R7 B7.size (by rw [List.length_append]; omega)).mono ?_
          rintro e w8 ⟨v8, rfl, ho8, hk8⟩
          have R8 : Row w8 w.heap.size v8 (L6 ++ encU ((psOf ds).take (k + 1))) := by
            rw [HU.out, ← List.append_assoc]
            exact row_more ho8 rfl
          have O8 := own_ints hO7 hk8
          have B8 := B7.trans hk8.below
          clear ho8 hk8 hc hc' hcd hO7 hg7 R7 B7
          have HE := hid hE
          clear hE
          go_wp2
          exact ⟨⟨k + 1, by go_num, by omega, by rw [HP1.out], rfl, O8, R8, B8⟩, by simp [intOf]; omega⟩
        · have hkn : k = ds.length := by omega
          have hnl : ¬ (k : Int) < (ds.length : Int) := by omega
          have htk : (psOf ds).take k = psOf ds := by rw [hkn, ← psOf_length, List.take_length]
          have HR : Hid (Row wr w.heap.size u14 (frameBytes (d + 1) r fl b1 b2 vs x (psOf ds))) := by
            rw [htk] at hR
            have e1 : L6 ++ encU (psOf ds) = frameBytes (d + 1) r fl b1 b2 vs x (psOf ds) := by
              unfold frameBytes
              rw [HL6.out, HL5.out, HL4.out, HL3.out, psOf_length]
              simp [List.append_assoc]
            rw [← e1]
            exact hR
          have HO : Hid (wr.ownsRow w.heap.size 3 1 (.slice (some ⟨g, 0, none⟩) ds.length ds.length) ds.length (ints (psOf ds))) := by
            rw [htk, hkn] at hO
            exact hO
          clear hR hO htk
          have HK := hid hkn
          clear hkn
          go_wp2
          go_ret2
          refine ⟨_, g, ?_, HR.out, HO.out, hB⟩
          have := HK.out
          subst this
          rfl
end Go.Proofs.YbulkbsrsFmt
