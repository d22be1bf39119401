/-
  LawS3463ARoundTrip: THE WALK.
-/
import Derived.Test.YbulkbsrsFmtEnc
import Derived.Test.YbulkbsrsFmtFrame
import Derived.Deep.QuietTactic
import Derived.BigQuiet
namespace Go.Proofs.YbulkbsrsFmt
open Go Go.RowKit

/-- 'flags & 31'. -/
def low5 (f : Nat) : UInt8 := (f % 32).toUInt8
theorem low5_nat (f : Nat) : (low5 f).toNat = f % 32 := toU8 (by omega)
theorem and31 (f : Nat) (h : f < 256) : bits .and .u8 (f : Int) 31 = ((low5 f).toNat : Int) := by
  rw [low5_nat]
  have := bits_mask .u8 8 (by decide) wraps_u8 5 (by decide) (f : Int) (by omega) (by omega)
  rw [show ((2 : Int) ^ 5 - 1) = 31 by decide, show ((2 : Int) ^ 5) = 32 by decide] at this
  rw [this]
  omega
theorem andNot31 (f : Nat) : (bits .andNot .u8 ((low5 f).toNat : Int) 31 != 0) = false := by
  rw [low5_nat]
  have h : ∀ k : Fin 32, (bits .andNot .u8 ((k.val : Nat) : Int) 31 != 0) = false := by decide
  exact h ⟨f % 32, by omega⟩
/-- The bytes that a row holds, as the reader wants them. -/
theorem row_reader {w : World} {B : Nat} {v : Value} {L : List UInt8} (h : Row w B v L) (hl : 1 ≤ L.length) : ∃ gb cap, v = .slice (some ⟨gb, 0, none⟩) L.length cap ∧ gb < w.heap.size ∧ ∀ j (hj : j < L.length), w.cell? ⟨gb, j, none⟩ = some (.int .u8 (L[j]).toNat) := by
  obtain ⟨h1, h2 | ⟨g, cap, cur, hv, hb, hh, hn, hm, hs, ht⟩⟩ := h
  · omega
  · refine ⟨g, cap, hv, blk_lt hh, fun j hj => ?_⟩
    have e : (Lib.byteCells L)[j]? = some (.int .u8 (L[j]).toNat) := by
      unfold Lib.byteCells
      rw [List.getElem?_map, List.getElem?_eq_getElem hj]
      rfl
    rw [← ht, List.getElem?_take] at e
    split at e
    · simp only [World.cell?, hh]
      simpa using e
    · cases e

theorem frameBytes_len (d r : Nat) (fl : UInt8) (b1 b2 : Bool) (vs : List Int) (x : Int) (ps : List Nat) (hd : d < 18446744073709551616) (hr : r < 18446744073709551616) (hvn : vs.length ≤ 1024) (hvf : ∀ v ∈ vs, Fits v) (hx : Fits x) (hpn : ps.length ≤ 1024) (hpi : Inc ps) :
    1 ≤ (frameBytes d r fl b1 b2 vs x ps).length ∧ (frameBytes d r fl b1 b2 vs x ps).length ≤ 100000 := by
  have h1 := Lib.uvarint_length64 hd
  have h2 := Lib.uvarint_length64 hr
  have h3 := Lib.uvarint_length64 (x := vs.length) (by omega)
  have h4 := Lib.uvarint_length64 (x := ps.length) (by omega)
  have h5 := encI_len vs hvf
  have h6 := encU_len ps fun p hp => by have := (hpi.lo p hp).2; omega
  have h7 := Lib.uvarint_length64 (zigzag_lt x hx.1 hx.2)
  have h8 : (encV b1 vs).length ≤ 10 + 10240 := by
    unfold encV
    split
    · rw [List.length_append]; omega
    · simp
  have h9 : (encX b2 x).length ≤ 10 := by
    unfold encX
    split
    · exact h7
    · simp
  unfold frameBytes
  simp only [List.length_append, List.length_singleton]
  omega

set_option maxHeartbeats 4000000 in
set_option maxRecDepth 100000 in
theorem rt_long (w : World) (d r f : Nat) (va da : Option Addr) (n m vcap dcap : Nat) (x : Int) (hn : ¬ (n ≤ 1024 ∧ m ≤ 1024)) :
    Calls Ybaf.prog 3 #[.int .u32 d, .int .u32 r, .int .u8 f, .slice va n vcap, .int .i64 x, .slice da m dcap] w fun e w' => e = .returned (.bool true) ∧ Below w.heap.size w w' := by
  by_cases h1 : 1024 < n
  · have h1' : (1024 : Int) < (n : Int) := by omega
    go_enter Ybaf.func3, Ybaf.ntmps3
    go_wp2
    go_ret
    exact ⟨rfl, Below.refl _ _⟩
  · have h1' : ¬ (1024 : Int) < (n : Int) := by omega
    have h2' : (1024 : Int) < (m : Int) := by omega
    go_enter Ybaf.func3, Ybaf.ntmps3
    go_wp2
    go_ret
    exact ⟨rfl, Below.refl _ _⟩

set_option maxHeartbeats 4000000 in
set_option maxRecDepth 100000 in
theorem rt_walk (w : World) (d r f : Nat) (va da : Option Addr) (vcap dcap : Nat) (vs : List Int) (x : Int) (ds : List Nat) (aE aU aS aO : Addr) (hgl : Gl w aE aU aS aO) (h4 : 4 ≤ w.heap.size)
    (hd : d < 4294967296) (hr : r < 4294967296) (hf : f < 256)
    (hvn : vs.length ≤ 1024) (hvf : ∀ v ∈ vs, Fits v) (hx : Fits x) (hdn : ds.length ≤ 1024) (hdf : ∀ y ∈ ds, y < 65536)
    (hcv : Came w .i64 va vs) (hcd : Came w .u16 da (ds.map fun y : Nat => (y : Int))) :
    Calls Ybaf.prog 3 #[.int .u32 d, .int .u32 r, .int .u8 f, .slice va vs.length vcap, .int .i64 x, .slice da ds.length dcap] w fun e w' => e = .returned (.bool true) ∧ Below w.heap.size w w' := by
  have hm31 := and31 f hf
  have hk := andNot31 f
  generalize low5 f = fl at *
  obtain ⟨b1, h1⟩ : ∃ b1, (bits .and .u8 (fl.toNat : Int) 1 != 0) = b1 := ⟨_, rfl⟩
  obtain ⟨b2, h2⟩ : ∃ b2, (bits .and .u8 (fl.toNat : Int) 2 != 0) = b2 := ⟨_, rfl⟩
  obtain ⟨b4, h4'⟩ : ∃ b4, (bits .and .u8 (fl.toNat : Int) 4 != 0) = b4 := ⟨_, rfl⟩
  obtain ⟨b8, h8⟩ : ∃ b8, (bits .and .u8 (fl.toNat : Int) 8 != 0) = b8 := ⟨_, rfl⟩
  obtain ⟨b16, h16⟩ : ∃ b16, (bits .and .u8 (fl.toNat : Int) 16 != 0) = b16 := ⟨_, rfl⟩
  have hE := encode_any w d r fl b1 b2 va da vcap dcap vs x ds hd hr h1 h2 hvn hvf hx hdn hdf hcv hcd
  have hv1 : ¬ (1024 : Int) < (vs.length : Int) := by omega
  have hv2 : ¬ (1024 : Int) < (ds.length : Int) := by omega
  have hpi := psOf_inc ds hdf (by omega)
  have hpl := psOf_length ds
  obtain ⟨L, HL⟩ : ∃ L, Hid (L = frameBytes (d + 1) r fl b1 b2 vs x (psOf ds)) := ⟨_, rfl⟩
  rw [← HL.out] at hE
  go_enter Ybaf.func3, Ybaf.ntmps3
  go_wp2_with fail
  refine hE.mono ?_
  rintro e w1 ⟨vb, g, rfl, hRow, hOwn, hB1⟩
  have hLn := frameBytes_len (d + 1) r fl b1 b2 vs x (psOf ds) (by omega) (by omega) hvn hvf hx (by omega) hpi
  rw [← HL.out] at hLn
  obtain ⟨gb, cap, hvb, hgb, hcells⟩ := row_reader hRow hLn.1
  subst hvb
  have hs1 := hB1.size
  have hRd : Rd (w1.alloc (.cells #[.slice (some ⟨gb, 0, none⟩) L.length cap, .int .i64 0] 31)) w1.heap.size gb cap L 0 :=
    ⟨by rw [heap_alloc_new]; rfl, fun j hj => (World.cell?_alloc_lt w1 _ ⟨gb, j, none⟩ hgb).trans (hcells j hj), hgb, Nat.zero_le _, by omega⟩
  have hgl1 : Gl (w1.alloc (.cells #[.slice (some ⟨gb, 0, none⟩) L.length cap, .int .i64 0] 31)) aE aU aS aO := by
    have e : ∀ k, k < 4 → ∀ v, w.cell? ⟨k, 0, none⟩ = some v → (w1.alloc (.cells #[.slice (some ⟨gb, 0, none⟩) L.length cap, .int .i64 0] 31)).cell? ⟨k, 0, none⟩ = some v := fun k hk v hv =>
      ((World.cell?_alloc_lt w1 _ ⟨k, 0, none⟩ (by show k < w1.heap.size; omega)).trans (hB1.cell (p := ⟨k, 0, none⟩) (by show k < w.heap.size; omega))).trans hv
    exact ⟨e 0 (by omega) _ hgl.g0, e 1 (by omega) _ hgl.g1, e 2 (by omega) _ hgl.g2, e 3 (by omega) _ hgl.g3⟩
  have hM := readFrame_mid 0 _ w1.heap.size gb cap 0 (d + 1) r fl b1 b2 b4 b8 b16 L (encV b1 vs ++ (encX b2 x ++ (Lib.uvarint (psOf ds).length ++ encU (psOf ds)))) hRd aE aU aS aO hgl1 (by omega) vs x (psOf ds) [] [] (by omega) hvf hx (by omega) hpi (by omega) (by omega) (by omega)
    (by rw [List.drop_zero, HL.out]; rfl) h1 h2 h4' h8 h16 hk (fun _ => by rw [List.append_nil]) (fun q => by cases q) (Or.inl rfl)
  obtain ⟨rb, HRB⟩ : ∃ rb, Hid (rb = w1.heap.size) := ⟨_, rfl⟩
  go_wp2_with fail
  rw [← HRB.out] at hM ⊢
  refine hM.mono ?_
  rintro e w2 hP
  obtain ⟨V, C, g2, p, rfl, hV1, hV0, rfl, hC, hG2, hR2, hdp⟩ := hP.1 rfl
  have hp : p = L.length := by
    have := List.drop_eq_nil_iff.1 hdp
    have := hR2.le
    omega
  subst hp
  have hB2 : Below w.heap.size w w2 := (hB1.alloc hs1 _).grown hG2 (by simp; omega) (fun k hk => by cases hk; rw [HRB.out]; exact hs1)
  have c1 := hR2.c1
  have hrs2 := hR2.size
  have hOwn2 := own_keep hOwn (B' := w.heap.size) (w' := w2) (by
    have hgl2 := (hOwn.lt g rfl).2
    rw [hG2.block g (by simp; omega) (by simp; rw [HRB.out]; omega), Below.heap_alloc _ _ _ hgl2]) (Nat.le_refl _)
  rw [hpl] at hC ⊢
  clear hM hE hP hdp hRow hOwn hRd hgl1 hcells
  obtain ⟨xx, hxx⟩ : ∃ xx, (if b2 = true then x else 0) = xx := ⟨_, rfl⟩
  rw [hxx]
  have hC1 := (hC.lt g2 rfl).2
  have hO1 := (hOwn2.lt g rfl).2
  have HPL := hid hpl
  have HXX := hid hxx
  clear hpl hxx
  cases b1
  · obtain rfl := hV0 rfl
    have hns := fun (wz : World) => run_neq_slice_nil_any (P := Ybaf.prog) wz 26 3 none 0 0 0 0 Ybaf.underlying26
    unfold frameOf
    go_upto_if 142 with fail
    go_cut [] (fun wx => ∃ nq : Nat, wx = (w2.alloc (.cells #[.int .i64 (d + 1), .int .i64 r, .bool false, (.slice none 0 0), .bool b2, .bool b4, .bool b8, .bool b16, .int .i64 xx, .slice (some ⟨g2, 0, none⟩) ds.length ds.length] 33)).drewN nq)
    case first =>
      cases b2
      · have hx0 : xx = 0 := by rw [← HXX.out]; rfl
        subst hx0
        go_wp2
        go_meet
        case rel => exact ⟨0, rfl⟩
      · have hx0 : xx = x := by rw [← HXX.out]; rfl
        subst hx0
        go_wp2
        go_meet
        case rel => exact ⟨0, rfl⟩
    case rest =>
      obtain ⟨nq1, rfl⟩ := hcut
      go_wp2_with fail
      go_loopw [158] (fun vi wr => ∃ k nq : Nat, vi = .int .i64 k ∧ k ≤ ds.length ∧ wr = (w2.alloc (.cells #[.int .i64 (d + 1), .int .i64 r, .bool false, (.slice none 0 0), .bool b2, .bool b4, .bool b8, .bool b16, .int .i64 xx, .slice (some ⟨g2, 0, none⟩) ds.length ds.length] 33)).drewN nq)
        (fun vi _ => ds.length - (intOf vi).toNat)
      case atStart => exact ⟨0, nq1, rfl, by omega, rfl⟩
      case round =>
        obtain ⟨k2, nq2, rfl, hk2, rfl⟩ := hrel
        by_cases hlt2 : k2 < ds.length
        · have hlt2' : (k2 : Int) < (ds.length : Int) := by omega
          have hps : (ints (psOf ds))[k2]? = some (.int .i64 ((psOf ds)[k2]'(by rw [HPL.out]; exact hlt2) : Int)) := by unfold ints; rw [List.getElem?_map, List.getElem?_eq_getElem (by rw [HPL.out]; exact hlt2)]; rfl
          have q1 := own_cell hC hps
          have q2 := own_cell hOwn2 hps
          generalize (psOf ds)[k2]'(by rw [HPL.out]; exact hlt2) = pz at *
          clear hps hcd hpi
          go_wp2_with fail
          go_quiet (fail)
          go_wp2
          exact ⟨⟨k2 + 1, _, by go_num, by omega, rfl⟩, by simp [intOf]; omega⟩
        · have hnl2 : ¬ (k2 : Int) < (ds.length : Int) := by omega
          go_wp2
          go_ret
          exact ⟨rfl, (hB2.alloc (by have := hB2.size; omega) _).trans ⟨rfl, rfl, rfl, Nat.le_refl _, fun _ _ => rfl⟩⟩
  · obtain ⟨gv, rfl, hgv⟩ := hV1 rfl
    have hgvs := blk_lt hgv
    unfold frameOf
    go_wp2_with fail
    go_loopw [123] (fun vi wr => ∃ k nq : Nat, vi = .int .i64 k ∧ k ≤ vs.length ∧ wr = (w2.alloc (.cells #[.int .i64 (d + 1), .int .i64 r, .bool true, (.slice (some ⟨gv, 0, none⟩) vs.length vs.length), .bool b2, .bool b4, .bool b8, .bool b16, .int .i64 xx, .slice (some ⟨g2, 0, none⟩) ds.length ds.length] 33)).drewN nq)
      (fun vi _ => vs.length - (intOf vi).toNat)
    case atStart => exact ⟨0, 0, rfl, by omega, rfl⟩
    case round =>
      obtain ⟨k, nq, rfl, hk, rfl⟩ := hrel
      by_cases hlt : k < vs.length
      · have hlt' : (k : Int) < (vs.length : Int) := by omega
        obtain ⟨b, o, hao, hc⟩ := hcv.at hlt
        subst hao
        have hbs : b < w2.heap.size := by have e1 : b < w.heap.size := World.block_lt_of_cell? _ _ hc; have := hB2.size; omega
        have hc2 : w2.cell? ⟨b, o + k, none⟩ = some (.int .i64 vs[k]) := (hB2.cell (p := ⟨b, o + k, none⟩) (World.block_lt_of_cell? _ _ hc)).trans hc
        have hg2c : w2.cell? ⟨gv, k, none⟩ = some (.int .i64 vs[k]) := by rw [blk_cell (k := k) hgv (by simpa using hlt)]; simp
        generalize vs[k] = v at *
        clear hc hcv hcd
        go_wp2_with fail
        go_quiet (fail)
        go_wp2
        exact ⟨⟨k + 1, _, by go_num, by omega, rfl⟩, by simp [intOf]; omega⟩
      · have hnl : ¬ (k : Int) < (vs.length : Int) := by omega
        clear hcv
        go_upto_if 142 with fail
        go_cut [] (fun wx => ∃ nq : Nat, wx = (w2.alloc (.cells #[.int .i64 (d + 1), .int .i64 r, .bool true, (.slice (some ⟨gv, 0, none⟩) vs.length vs.length), .bool b2, .bool b4, .bool b8, .bool b16, .int .i64 xx, .slice (some ⟨g2, 0, none⟩) ds.length ds.length] 33)).drewN nq)
        case first =>
          cases b2
          · have hx0 : xx = 0 := by rw [← HXX.out]; rfl
            subst hx0
            go_wp2
            go_meet
            case rel => exact ⟨_, rfl⟩
          · have hx0 : xx = x := by rw [← HXX.out]; rfl
            subst hx0
            go_wp2
            go_meet
            case rel => exact ⟨_, rfl⟩
        case rest =>
          obtain ⟨nq1, rfl⟩ := hcut
          go_wp2_with fail
          go_loopw [158] (fun vi wr => ∃ k nq : Nat, vi = .int .i64 k ∧ k ≤ ds.length ∧ wr = (w2.alloc (.cells #[.int .i64 (d + 1), .int .i64 r, .bool true, (.slice (some ⟨gv, 0, none⟩) vs.length vs.length), .bool b2, .bool b4, .bool b8, .bool b16, .int .i64 xx, .slice (some ⟨g2, 0, none⟩) ds.length ds.length] 33)).drewN nq)
            (fun vi _ => ds.length - (intOf vi).toNat)
          case atStart => exact ⟨0, nq1, rfl, by omega, rfl⟩
          case round =>
            obtain ⟨k2, nq2, rfl, hk2, rfl⟩ := hrel
            by_cases hlt2 : k2 < ds.length
            · have hlt2' : (k2 : Int) < (ds.length : Int) := by omega
              have hps : (ints (psOf ds))[k2]? = some (.int .i64 ((psOf ds)[k2]'(by rw [HPL.out]; exact hlt2) : Int)) := by unfold ints; rw [List.getElem?_map, List.getElem?_eq_getElem (by rw [HPL.out]; exact hlt2)]; rfl
              have q1 := own_cell hC hps
              have q2 := own_cell hOwn2 hps
              generalize (psOf ds)[k2]'(by rw [HPL.out]; exact hlt2) = pz at *
              clear hps hcd hpi
              go_wp2_with fail
              go_quiet (fail)
              go_wp2
              exact ⟨⟨k2 + 1, _, by go_num, by omega, rfl⟩, by simp [intOf]; omega⟩
            · have hnl2 : ¬ (k2 : Int) < (ds.length : Int) := by omega
              go_wp2
              go_ret
              exact ⟨rfl, (hB2.alloc (by have := hB2.size; omega) _).trans ⟨rfl, rfl, rfl, Nat.le_refl _, fun _ _ => rfl⟩⟩
end Go.Proofs.YbulkbsrsFmt
