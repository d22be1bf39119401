/-
  LawS3463ARefuse: THE WALK.
-/
import Derived.Test.YbulkbsrsFmtBad
import Derived.Test.YbulkbsrsFmtRt
import Derived.Test.YbulkbsrsFmtIs
import Derived.Laws.AppendOwnNone
import Derived.Deep.DeepCutAuto
namespace Go.Proofs.YbulkbsrsFmt
open Go Go.RowKit

/-- A slice of bytes as the source of an append: nil, or its cells. -/
def Src (w : World) (sv : Value) (L : List UInt8) : Prop :=
  (sv = .slice none 0 0 ∧ L = []) ∨ ∃ (ad : Addr) (c : Nat), sv = .slice (some ad) L.length c ∧ ∀ j u, (Lib.byteCells L)[j]? = some u → w.cell? (ad.add j) = some u
theorem Src.below {B : Nat} {w w' : World} {sv : Value} {L : List UInt8} (h : Src w sv L) (hb : Below B w w') (hB : B = w.heap.size) : Src w' sv L := by
  rcases h with h | ⟨ad, c, h1, h2⟩
  · exact Or.inl h
  · refine Or.inr ⟨ad, c, h1, fun j u hj => ?_⟩
    have := h2 j u hj
    exact (hb.cell (p := ad.add j) (by rw [hB]; exact World.block_lt_of_cell? _ _ this)).trans this

theorem byteCells_one' (l : List UInt8) : ∀ u ∈ Lib.byteCells l, u.oneCell' = true := by
  intro v hv
  obtain ⟨b, _, rfl⟩ := List.mem_map.1 hv
  rfl

/-- 'append(b, tail...)', b of the call's own. -/
theorem wp_app {w : World} {ops : Array Oper} {rest : List Oper} {o : Oper} {a : Act} {Q : Exit → Act → World → Prop} (hgd : o.guard = none) (s x : Operand)
    (ho : o.op = .call { callee := .builtin .append, args := #[s, x], argTypes := #[25, 25] }) (B : Nat) (v : Value) (L M : List UInt8) (hs : a.eval s = v) (hown : Row w B v L) (sv : Value) (hx : a.eval x = sv) (hsrc : Src w sv M)
    (hlim : L.length + M.length ≤ 1000000000) (hB : B ≤ w.heap.size) (h : ∀ v' w', Row w' B v' (L ++ M) → Below B w w' → wpList Ybaf.prog ops Q rest (a.put o.dst v') w') : wpList Ybaf.prog ops Q (o :: rest) a w := by
  obtain ⟨i0, hi, hz0, hz1, hz2⟩ := info5
  rcases hsrc with ⟨rfl, rfl⟩ | ⟨ad, c, rfl, hc⟩
  · exact wpList_append_own_none hgd s x 25 ho B 5 i0 1 Ybaf.underlying25 hi v _ _ hs hown hx (h v w (by simpa using hown) (Below.refl _ _))
  · refine wpList_append_own w hgd s x 25 ho B 5 i0 (.int .u8 0) 1 1 Ybaf.underlying25 hi hz0 hz1 hz2 rfl (by decide) v _ _ hs hown ad M.length c (Lib.byteCells M) hx (by rw [Lib.byteCells_length, Nat.mul_one]) hc (byteCells_one' M) (by unfold maxLen; omega) (by omega) hB ?_
    intro v' w' h1 h2 _
    exact h v' w' (row_more h1 rfl) ((Below.refl _ _).grown h2 hB (fun k hk => (hown.lt k hk).1))

theorem neq_same (a : Addr) (w : World) : (Go.binOp .neq 35 (err a) (err a)).run Ybaf.prog w = .ok (.bool false) w := by
  obtain ⟨i, hi, hcmp⟩ := Option.map_eq_some_iff.1 isComp
  obtain ⟨j, hj, hjs⟩ := Option.map_eq_some_iff.1 isSize
  simp only [binOp]
  simp [Op.equal, Op.maxDepth, run_equalIn_iface_ptr_same (P := Ybaf.prog) w 9998 a Ybaf.underlying35 Ybaf.underlying87 hi hcmp hj]

/-- The flags byte with a bit beyond the five known ones. -/
def badOf (f : Nat) : UInt8 := (if f < 32 then f + 32 else f).toUInt8
theorem badOf_nat (f : Nat) (h : f < 256) : (badOf f).toNat = if f < 32 then f + 32 else f := by
  unfold badOf
  rw [toU8]
  split <;> omega
theorem or32 (f : Nat) (h : f < 32) : bits .or .u8 (f : Int) 32 = ((badOf f).toNat : Int) := by
  rw [badOf_nat f (by omega), if_pos h]
  have h2 : ∀ k : Fin 32, bits .or .u8 ((k.val : Nat) : Int) 32 = ((k.val + 32 : Nat) : Int) := by decide
  exact h2 ⟨f, h⟩
set_option maxRecDepth 100000 in
theorem bad31 (f : Nat) (h : f < 256) : (bits .andNot .u8 ((badOf f).toNat : Int) 31 != 0) = true := by
  have h2 : ∀ k : Fin 256, 32 ≤ k.val → (bits .andNot .u8 ((k.val : Nat) : Int) 31 != 0) = true := by decide
  have h3 := badOf_nat f h
  have h4 : (badOf f).toNat < 256 := (badOf f).toNat_lt
  exact h2 ⟨(badOf f).toNat, h4⟩ (by show 32 ≤ (badOf f).toNat; rw [h3]; split <;> omega)

set_option maxHeartbeats 4000000 in
set_option maxRecDepth 100000 in
theorem re_long (w : World) (r f : Nat) (ta : Option Addr) (n cap : Nat) (hn : ¬ n ≤ 1024) :
    Calls Ybaf.prog 5 #[.int .u32 r, .int .u8 f, .slice ta n cap] w fun e w' => e = .returned (.bool true) ∧ Below w.heap.size w w' := by
  have h1' : (1024 : Int) < (n : Int) := by omega
  go_enter Ybaf.func5, Ybaf.ntmps5
  go_wp2
  go_ret
  exact ⟨rfl, Below.refl _ _⟩

set_option maxHeartbeats 4000000 in
set_option maxRecDepth 100000 in
theorem re_walk (w : World) (r f : Nat) (ta : Option Addr) (cap : Nat) (L : List UInt8) (hsrc : Src w (.slice ta L.length cap) L) (aE aU aS aO : Addr) (hgl : Gl w aE aU aS aO) (h4 : 4 ≤ w.heap.size)
    (cE cU cS : Array Value) (zE zU zS : TypeId) (hbE : w.heap[aE.block]? = some (.cells cE zE (0, 0))) (hbU : w.heap[aU.block]? = some (.cells cU zU (0, 0))) (hbS : w.heap[aS.block]? = some (.cells cS zS (0, 0)))
    (hr : r < 4294967296) (hf : f < 256) (hn : L.length ≤ 1024) :
    Calls Ybaf.prog 5 #[.int .u32 r, .int .u8 f, .slice ta L.length cap] w fun e w' => e = .returned (.bool true) ∧ Below w.heap.size w w' := by
  have hn' : ¬ (1024 : Int) < (L.length : Int) := by omega
  have nq := neq_same
  have hA0 : Row (w.alloc (.cells #[.int .u8 0] 5)) w.heap.size (.slice (some ⟨w.heap.size, 0, none⟩) 1 1) [0] :=
    ⟨rfl, Or.inr ⟨w.heap.size, 1, #[.int .u8 0], rfl, Nat.le_refl _, heap_alloc_new w _, by decide, by unfold maxLen; decide, rfl, rfl⟩⟩
  have hB0 : Below w.heap.size w (w.alloc (.cells #[.int .u8 0] 5)) := (Below.refl _ _).alloc (Nat.le_refl _) _
  go_enter Ybaf.func5, Ybaf.ntmps5
  go_wp2_with (at_builtin; refine wp_app rfl _ _ rfl w.heap.size _ [0] L rfl hA0 _ rfl (hsrc.below hB0 rfl) ?c1 ?c2 ?_)
  case c1 => omega
  intro v1 w1 hR1 hb1
  have hB1 := hB0.trans hb1
  clear hA0 hB0 hb1
  obtain ⟨gb, cap1, hvb, hgb, hcells⟩ := row_reader hR1 (by simp)
  subst hvb
  have hs1 := hB1.size
  obtain ⟨RD, HRD⟩ : ∃ RD : Obj, Hid (RD = .cells #[.slice (some ⟨gb, 0, none⟩) (0 :: L).length cap1, .int .i64 0] 31) := ⟨_, rfl⟩
  have hRd : Rd (w1.alloc RD) w1.heap.size gb cap1 (0 :: L) 0 :=
    ⟨by rw [heap_alloc_new, HRD.out]; rfl, fun j hj => (World.cell?_alloc_lt w1 _ ⟨gb, j, none⟩ hgb).trans (hcells j hj), hgb, Nat.zero_le _, by simp; omega⟩
  have hgl1 : Gl (w1.alloc RD) aE aU aS aO := by
    have e : ∀ j, j < 4 → ∀ v, w.cell? ⟨j, 0, none⟩ = some v → (w1.alloc RD).cell? ⟨j, 0, none⟩ = some v := fun j hj v hv =>
      ((World.cell?_alloc_lt w1 _ ⟨j, 0, none⟩ (by show j < w1.heap.size; omega)).trans (hB1.cell (p := ⟨j, 0, none⟩) (by show j < w.heap.size; omega))).trans hv
    exact ⟨e 0 (by omega) _ hgl.g0, e 1 (by omega) _ hgl.g1, e 2 (by omega) _ hgl.g2, e 3 (by omega) _ hgl.g3⟩
  have hM := readFrame_stop (w1.alloc RD) w1.heap.size gb cap1 0 (0 :: L) L hRd aE aU aS aO hgl1 (by omega) rfl
  obtain ⟨rb, HRB⟩ : ∃ rb, Hid (rb = w1.heap.size) := ⟨_, rfl⟩
  rw [← HRB.out, HRD.out] at hM
  clear hRd hcells hR1
  go_wp2_with fail
  rw [← HRB.out]
  refine hM.mono ?_
  rintro e w2 ⟨rfl, hG2, hR2⟩
  have hB2 : Below w.heap.size w w2 := (hB1.alloc hs1 _).grown hG2 (by simp; omega) (fun j hj => by cases hj; rw [HRB.out]; exact hs1)
  rw [HRD.out] at hgl1
  have hgl2 := hgl1.grown hG2 (by rw [HRB.out]; omega)
  have g2 := hgl2.g2
  have hs2 := hB2.size
  have hz2 : (2 : Nat) < w2.heap.size := by omega
  have c1 := hR2.c1
  have hrs2 := hR2.size
  have c1' : w2.cell? ⟨rb, 1, none⟩ = some (.int .i64 1) := c1
  clear hM hgl1 hG2 hR2 hB1 c1 hgl2
  go_upto_if 44 with fail
  go_cut [11] (fun vb wx => vb = .int .u8 ((badOf f).toNat : Int) ∧ wx = w2.alloc (.cells frame0 33))
  case first =>
    by_cases hf32 : f < 32
    · have hf' : (f : Int) < 32 := by omega
      have hor := or32 f hf32
      go_wp2
      go_meet
      case rel => exact ⟨rfl, rfl⟩
    · have hf' : ¬ (f : Int) < 32 := by omega
      have HF := hid (badOf_nat f hf)
      go_wp2
      go_meet
      case rel => exact ⟨by rw [HF.out, if_neg hf32], rfl⟩
  case rest =>
    obtain ⟨rfl, rfl⟩ := hcut
    have hk := bad31 f hf
    generalize badOf f = fl at *
    have hB3 : Below w.heap.size w (w2.alloc (.cells frame0 33)) := hB2.alloc hs2 _
    generalize w2.alloc (.cells frame0 33) = w3 at *
    clear hB2 hs2 hz2 g2 hrs2 c1' HRB HRD
    have hl1 : Lib.uvarint 1 = [1] := Lib.uvarint_small (by decide)
    have hl2 := Lib.uvarint_length64 (x := r) (by omega)
    have HL1 := hid hl1
    clear hl1
    go_wp2_with fail
    refine (appendUvarint w.heap.size 0 1 (by decide) _ [] w3 (World.ownsRow_nil w3 _ _ _) hB3.size (by decide)).mono ?_
    rintro e w4 ⟨v4, rfl, ho4, hk4⟩
    have R4 : Row w4 w.heap.size v4 [1] := by
      rw [HL1.out] at ho4
      exact ho4
    have B4 := hB3.trans hk4.below
    clear ho4 hk4 hB3
    go_wp2_with fail
    refine (appendUvarint w.heap.size _ r (by omega) v4 _ w4 R4 B4.size (by simp)).mono ?_
    rintro e w5 ⟨v5, rfl, ho5, hk5⟩
    have R5 : Row w5 w.heap.size v5 ([1] ++ Lib.uvarint r) := row_more ho5 rfl
    have B5 := B4.trans hk5.below
    clear ho5 hk5 R4 B4
    obtain ⟨L5, HL5⟩ : ∃ L5 : List UInt8, Hid (L5 = [1] ++ Lib.uvarint r) := ⟨[1] ++ Lib.uvarint r, hid rfl⟩
    rw [← HL5.out] at R5
    have hl5 : L5.length ≤ 11 := by rw [HL5.out]; simp; omega
    have hs5 := B5.size
    have hA5 : Row (w5.alloc (.cells #[.int .u8 (fl.toNat : Int)] 5)) w.heap.size v5 L5 := R5.alloc _
    have hS5 : Src (w5.alloc (.cells #[.int .u8 (fl.toNat : Int)] 5)) (.slice (some ⟨w5.heap.size, 0, none⟩) 1 1) [fl] :=
      Or.inr ⟨⟨w5.heap.size, 0, none⟩, 1, rfl, cell_one_new _ _ _⟩
    have hB5 : Below w.heap.size w (w5.alloc (.cells #[.int .u8 (fl.toNat : Int)] 5)) := B5.alloc hs5 _
    have hd1 : L5.length + [fl].length ≤ 1000000000 := by simp; omega
    have hd2 : w.heap.size ≤ (w5.alloc (.cells #[.int .u8 (fl.toNat : Int)] 5)).heap.size := by simp; omega
    go_upto_region 14 with (at_builtin; refine wp_app rfl _ _ rfl w.heap.size _ L5 [fl] rfl hA5 _ rfl hS5 hd1 hd2 ?_)
    intro v6 w6 R6 hb6
    have B6 := hB5.trans hb6
    clear hA5 hS5 hB5 hb6 R5 B5 hs5 hd1 hd2
    obtain ⟨L6, HL6⟩ : ∃ L6 : List UInt8, Hid (L6 = L5 ++ [fl]) := ⟨L5 ++ [fl], hid rfl⟩
    rw [← HL6.out] at R6
    have hl6 : L6.length ≤ 12 := by rw [HL6.out]; simp; omega
    have hl6b : 1 ≤ L6.length := by rw [HL6.out]; simp
    obtain ⟨g6, cap6, hv6, hg6, hc6⟩ := row_reader R6 hl6b
    subst hv6
    have hs6 := B6.size
    have hd1 : L6.length + L.length ≤ 1000000000 := by omega
    have hs6' := hsrc.below B6 rfl
    go_wp2_with (at_builtin; refine wp_app rfl _ _ rfl w.heap.size _ L6 L rfl R6 _ rfl hs6' hd1 hs6 ?_)
    intro v7 w7 R7 hb7
    have B7 := B6.trans hb7
    clear hs6' hb7 R6 B6 hs6 hc6 hg6
    have hl7 : 1 ≤ (L6 ++ L).length := by rw [List.length_append]; omega
    have hl7b : (L6 ++ L).length ≤ 2000 := by rw [List.length_append]; omega
    obtain ⟨g7, cap7, hv7, hg7, hc7⟩ := row_reader R7 hl7
    obtain ⟨LL, HLL⟩ : ∃ LL : List UInt8, Hid (LL = L6 ++ L) := ⟨L6 ++ L, hid rfl⟩
    rw [← HLL.out] at R7 hl7 hl7b hv7
    simp only [← HLL.out] at hc7
    subst hv7
    have hs7 := B7.size
    have hRd7 : Rd (w7.alloc (.cells #[.slice (some ⟨g7, 0, none⟩) LL.length cap7, .int .i64 0] 31)) w7.heap.size g7 cap7 LL 0 :=
      ⟨by rw [heap_alloc_new]; rfl, fun j hj => (World.cell?_alloc_lt w7 _ ⟨g7, j, none⟩ hg7).trans (hc7 j hj), hg7, Nat.zero_le _, by omega⟩
    have hl : LL.drop 0 = Lib.uvarint 1 ++ (Lib.uvarint r ++ (fl :: L)) := by
      rw [List.drop_zero, HLL.out, HL6.out, HL5.out, HL1.out]; simp
    have hpos : 0 + (Lib.uvarint 1).length + (Lib.uvarint r).length + 1 = L6.length := by
      rw [HL6.out, HL5.out, HL1.out]; simp; omega
    have hM := readFrame_bad _ w7.heap.size g7 cap7 0 1 r fl LL L hRd7 (by decide) (by decide) (by omega) hl hk
    rw [hpos] at hM
    obtain ⟨rb2, HRB⟩ : ∃ rb2, Hid (rb2 = w7.heap.size) := ⟨_, rfl⟩
    clear hRd7 hl hpos hc7 R7
    go_wp2_with fail
    rw [← HRB.out] at hM ⊢
    refine hM.mono ?_
    rintro e w8 ⟨a, c, rfl, hab, hac, hG8, hR8⟩
    have B8 : Below w.heap.size w w8 := (B7.alloc hs7 _).grown hG8 (by simp; omega) (fun j hj => by cases hj; rw [HRB.out]; exact hs7)
    have hab' : w.heap.size ≤ a.block := by simp at hab; omega
    have hcl : ∀ j, j < 4 → ∀ v, w.cell? ⟨j, 0, none⟩ = some v → w8.cell? ⟨j, 0, none⟩ = some v := fun j hj v hv => (B8.cell (p := ⟨j, 0, none⟩) (by show j < w.heap.size; omega)).trans hv
    have g0 := hcl 0 (by omega) _ hgl.g0
    have g1 := hcl 1 (by omega) _ hgl.g1
    have g2 := hcl 2 (by omega) _ hgl.g2
    have hs8 := B8.size
    have hz0 : (0 : Nat) < w8.heap.size := by omega
    have hz1 : (1 : Nat) < w8.heap.size := by omega
    have hz2 : (2 : Nat) < w8.heap.size := by omega
    have c1 := hR8.c1
    have hrs8 := hR8.size
    have kE := (Below.heap_alloc w8 (.cells frame0 33) aE.block (by have := blk_lt hbE; omega)).trans ((B8.block aE.block (blk_lt hbE)).trans hbE)
    have kU := (Below.heap_alloc w8 (.cells frame0 33) aU.block (by have := blk_lt hbU; omega)).trans ((B8.block aU.block (blk_lt hbU)).trans hbU)
    have kS := (Below.heap_alloc w8 (.cells frame0 33) aS.block (by have := blk_lt hbS; omega)).trans ((B8.block aS.block (blk_lt hbS)).trans hbS)
    have kA := (Below.heap_alloc w8 (.cells frame0 33) a.block (blk_lt hac)).trans hac
    have nE : a ≠ aE := by rintro rfl; have := blk_lt hbE; omega
    have nU : a ≠ aU := by rintro rfl; have := blk_lt hbU; omega
    have nS : a ≠ aS := by rintro rfl; have := blk_lt hbS; omega
    have qS := eql_other nS kA kS
    have hns := fun (wz : World) => Lib.run_eql_slice_nil (P := Ybaf.prog) wz 26 3 none 0 0 0 0 Ybaf.underlying26
    have hBF : Below w.heap.size w (w8.alloc (.cells frame0 33)) := B8.alloc hs8 _
    clear hM hcl hG8 hR8 B7 hac hab
    go_wp2_with fail
    refine (is_other a aE c cE 89 zE _ nE kA kE).mono ?_
    rintro e w9 ⟨rfl, rfl⟩
    go_wp2_with fail
    refine (is_other a aU c cU 89 zU _ nU kA kU).mono ?_
    rintro e w9 ⟨rfl, rfl⟩
    go_wp2_with fail
    go_ret
    exact ⟨rfl, hBF⟩
end Go.Proofs.YbulkbsrsFmt
