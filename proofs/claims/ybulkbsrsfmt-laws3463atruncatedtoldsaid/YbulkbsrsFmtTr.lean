/-
  LawS3463ATruncated: THE WALK.
-/
import Derived.Test.YbulkbsrsFmtRt
import Derived.Test.YbulkbsrsFmtCut
import Derived.Test.YbulkbsrsFmtIs
namespace Go.Proofs.YbulkbsrsFmt
open Go Go.RowKit

theorem row_cap {w : World} {B gb n cap : Nat} {xs : List Value} (h : w.ownsRow B 5 1 (.slice (some ⟨gb, 0, none⟩) n cap) n xs) : n ≤ cap := by
  obtain ⟨h1, h2 | ⟨g, cap', cur, hv, hb, hh, hn, hm, hs, ht⟩⟩ := h
  · cases h2.1
  · cases hv
    exact hn

set_option maxHeartbeats 4000000 in
set_option maxRecDepth 100000 in
theorem tr_long (w : World) (d r f ct : Nat) (va da : Option Addr) (n m vcap dcap : Nat) (x : Int) (hn : ¬ (n ≤ 1024 ∧ m ≤ 1024)) :
    Calls Ybaf.prog 4 #[.int .u32 d, .int .u32 r, .int .u8 f, .slice va n vcap, .int .i64 x, .slice da m dcap, .int .u16 ct] w fun e w' => e = .returned (.bool true) ∧ Below w.heap.size w w' := by
  by_cases h1 : 1024 < n
  · have h1' : (1024 : Int) < (n : Int) := by omega
    go_enter Ybaf.func4, Ybaf.ntmps4
    go_wp2
    go_ret
    exact ⟨rfl, Below.refl _ _⟩
  · have h1' : ¬ (1024 : Int) < (n : Int) := by omega
    have h2' : (1024 : Int) < (m : Int) := by omega
    go_enter Ybaf.func4, Ybaf.ntmps4
    go_wp2
    go_ret
    exact ⟨rfl, Below.refl _ _⟩

set_option maxHeartbeats 4000000 in
set_option maxRecDepth 100000 in
theorem tr_walk (w : World) (d r f ct : Nat) (va da : Option Addr) (vcap dcap : Nat) (vs : List Int) (x : Int) (ds : List Nat) (aE aU aS aO : Addr) (hgl : Gl w aE aU aS aO) (h4 : 4 ≤ w.heap.size)
    (cE cU : Array Value) (zE zU : TypeId) (hne : aE ≠ aU) (hbE : w.heap[aE.block]? = some (.cells cE zE (0, 0))) (hbU : w.heap[aU.block]? = some (.cells cU zU (0, 0)))
    (hd : d < 4294967296) (hr : r < 4294967296) (hf : f < 256) (hct : ct < 65536)
    (hvn : vs.length ≤ 1024) (hvf : ∀ v ∈ vs, Fits v) (hx : Fits x) (hdn : ds.length ≤ 1024) (hdf : ∀ y ∈ ds, y < 65536)
    (hcv : Came w .i64 va vs) (hcd : Came w .u16 da (ds.map fun y : Nat => (y : Int))) :
    Calls Ybaf.prog 4 #[.int .u32 d, .int .u32 r, .int .u8 f, .slice va vs.length vcap, .int .i64 x, .slice da ds.length dcap, .int .u16 ct] w fun e w' => e = .returned (.bool true) ∧ Below w.heap.size w w' := by
  have hm31 := and31 f hf
  have hk := andNot31 f
  generalize low5 f = fl at *
  obtain ⟨b1, h1⟩ : ∃ b1, (bits .and .u8 (fl.toNat : Int) 1 != 0) = b1 := ⟨_, rfl⟩
  obtain ⟨b2, h2⟩ : ∃ b2, (bits .and .u8 (fl.toNat : Int) 2 != 0) = b2 := ⟨_, rfl⟩
  obtain ⟨b4, h4'⟩ : ∃ b4, (bits .and .u8 (fl.toNat : Int) 4 != 0) = b4 := ⟨_, rfl⟩
  obtain ⟨b8, h8⟩ : ∃ b8, (bits .and .u8 (fl.toNat : Int) 8 != 0) = b8 := ⟨_, rfl⟩
  obtain ⟨b16, h16⟩ : ∃ b16, (bits .and .u8 (fl.toNat : Int) 16 != 0) = b16 := ⟨_, rfl⟩
  have hE := encode_any w d r fl b1 b2 va da vcap dcap vs x ds hd hr h1 h2 hvn hvf hx hdn hdf hcv hcd
  have hv1 : ¬ (1024 : Int) < (vs.length : Int) := by omega
  have hv2 : ¬ (1024 : Int) < (ds.length : Int) := by omega
  have hpi := psOf_inc ds hdf (by omega)
  have hpl := psOf_length ds
  have hLn := frameBytes_len (d + 1) r fl b1 b2 vs x (psOf ds) (by omega) (by omega) hvn hvf hx (by omega) hpi
  obtain ⟨L, HL⟩ : ∃ L, Hid (L = frameBytes (d + 1) r fl b1 b2 vs x (psOf ds)) := ⟨_, rfl⟩
  rw [← HL.out] at hE hLn
  obtain ⟨hLn1, hLn2⟩ := hLn
  obtain ⟨k, HK⟩ : ∃ k, Hid (k = ct % L.length) := ⟨_, rfl⟩
  have hkl : k < L.length := by rw [HK.out]; exact Nat.mod_lt _ hLn1
  have hmod : (ct : Int) % (L.length : Int) = (k : Int) := by rw [HK.out]; simp
  have hl0 : ((L.length : Int) == 0) = false := beq_eq_false_iff_ne.2 (by omega)
  have hL0 : ¬ (L.length : Int) = 0 := by omega
  go_enter Ybaf.func4, Ybaf.ntmps4
  go_wp2_with fail
  refine hE.mono ?_
  rintro e w1 ⟨vb, g, rfl, hRow, hOwn, hB1⟩
  obtain ⟨gb, cap, hvb, hgb, hcells⟩ := row_reader hRow hLn1
  subst hvb
  have hcap := row_cap hRow
  have hkc : (k : Int) ≤ (cap : Int) := by omega
  have hs1 := hB1.size
  have hlt : (L.take k).length = k := by rw [List.length_take]; omega
  have hRd : Rd (w1.alloc (.cells #[.slice (some ⟨gb, 0, none⟩) k cap, .int .i64 0] 31)) w1.heap.size gb cap (L.take k) 0 :=
    ⟨by rw [heap_alloc_new, hlt]; rfl, fun j hj => (World.cell?_alloc_lt w1 _ ⟨gb, j, none⟩ hgb).trans (by rw [hcells j (by omega), List.getElem_take]), hgb, Nat.zero_le _, by omega⟩
  have hgl1 : Gl (w1.alloc (.cells #[.slice (some ⟨gb, 0, none⟩) k cap, .int .i64 0] 31)) aE aU aS aO := by
    have e : ∀ j, j < 4 → ∀ v, w.cell? ⟨j, 0, none⟩ = some v → (w1.alloc (.cells #[.slice (some ⟨gb, 0, none⟩) k cap, .int .i64 0] 31)).cell? ⟨j, 0, none⟩ = some v := fun j hj v hv =>
      ((World.cell?_alloc_lt w1 _ ⟨j, 0, none⟩ (by show j < w1.heap.size; omega)).trans (hB1.cell (p := ⟨j, 0, none⟩) (by show j < w.heap.size; omega))).trans hv
    exact ⟨e 0 (by omega) _ hgl.g0, e 1 (by omega) _ hgl.g1, e 2 (by omega) _ hgl.g2, e 3 (by omega) _ hgl.g3⟩
  have hM := readFrame_cut _ w1.heap.size gb cap 0 (d + 1) r fl b1 b2 b4 b8 b16 (L.take k) hRd aE aU aS aO hgl1 (by omega) vs x (psOf ds) (L.drop k) (by omega) hvf hx (by omega) hpi (by omega) (by omega) (by omega) h1 h2 h4' h8 h16 hk
    (by rw [List.drop_zero, List.take_append_drop, HL.out]; rfl) (by intro q; have := List.drop_eq_nil_iff.1 q; omega)
  clear hRd hcells hRow hOwn hE
  go_wp2_with fail
  refine hM.mono ?_
  rintro e w2 ⟨a, p, rfl, ha, hG2, hR2⟩
  have hB2 : Below w.heap.size w w2 := (hB1.alloc hs1 _).grown hG2 (by simp; omega) (fun j hj => by cases hj; exact hs1)
  have hgl2 := hgl1.grown hG2 (by omega)
  have g0 := hgl2.g0
  have g1 := hgl2.g1
  have hs2 := hB2.size
  have hz0 : (0 : Nat) < w2.heap.size := by omega
  have hz1 : (1 : Nat) < w2.heap.size := by omega
  have hE2 := (hB2.block aE.block (blk_lt hbE)).trans hbE
  have hU2 := (hB2.block aU.block (blk_lt hbU)).trans hbU
  have hns := fun (wz : World) => Lib.run_eql_slice_nil (P := Ybaf.prog) wz 26 3 none 0 0 0 0 Ybaf.underlying26
  have hBF : Below w.heap.size w (w2.alloc (.cells frame0 33)) := hB2.alloc hs2 _
  clear hM hgl1 hgl2 hG2 hR2 hB1
  rcases ha with rfl | rfl
  · go_wp2_with fail
    refine (is_same a _).mono ?_
    rintro e w3 ⟨rfl, rfl⟩
    go_wp2_with fail
    go_ret
    exact ⟨rfl, hBF⟩
  · have hEF := (Below.heap_alloc w2 (.cells frame0 33) aE.block (blk_lt hE2)).trans hE2
    have hUF := (Below.heap_alloc w2 (.cells frame0 33) a.block (blk_lt hU2)).trans hU2
    go_wp2_with fail
    refine (is_other a aE cU cE zU zE _ (Ne.symm hne) hUF hEF).mono ?_
    rintro e w3 ⟨rfl, rfl⟩
    go_wp2_with fail
    refine (is_same a _).mono ?_
    rintro e w3 ⟨rfl, rfl⟩
    go_wp2_with fail
    go_ret
    exact ⟨rfl, hBF⟩
end Go.Proofs.YbulkbsrsFmt
