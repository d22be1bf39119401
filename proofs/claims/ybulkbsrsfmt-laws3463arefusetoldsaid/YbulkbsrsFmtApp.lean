/-
  encoding/binary.AppendUvarint, AppendVarint ONTO A ROW OF THE CALL's OWN: what comes back owns the bytes; nothing below B has turned, nor any row of ints. (After the guide's shelf: Derived/Shelf/Bin/AppendUvarint.lean, with a narrower frame.)
-/
import Derived.Test.YbulkbsrsFmtCrash
import Derived.Lib.VarintMem
import Derived.Lib.Zigzag
namespace Go.Proofs.YbulkbsrsFmt
open Go Go.RowKit

/-- Below B nothing has turned, and no row of ints has. -/
structure KI (B : Nat) (w w' : World) : Prop where
  below : Below B w w'
  rows : ∀ (k : Nat) (c : Array Value), w.heap[k]? = some (Obj.cells c 3 (0, 0)) → w'.heap[k]? = some (Obj.cells c 3 (0, 0))
theorem KI.refl (B : Nat) (w : World) : KI B w w := ⟨Below.refl _ _, fun _ _ h => h⟩
theorem KI.trans {B : Nat} {a b c : World} (h : KI B a b) (k : KI B b c) : KI B a c := ⟨h.below.trans k.below, fun j d hj => k.rows j d (h.rows j d hj)⟩
theorem KI.alloc {B : Nat} {a w : World} (h : KI B a w) (hB : B ≤ w.heap.size) (o : Obj) : KI B a (w.alloc o) :=
  ⟨h.below.alloc hB o, fun k c hk => by
    have := h.rows k c hk
    rw [Below.heap_alloc _ _ _ (blk_lt this)]
    exact this⟩
theorem KI.grown {B n : Nat} {a w w' : World} {v : Value} {xs : List Value} (h : KI B a w) (hg : w.grownBy w' v.ownBlock) (hB : B ≤ w.heap.size) (hown : w.ownsRow B 5 1 v n xs) : KI B a w' :=
  ⟨h.below.grown hg hB (fun k hk => (hown.lt k hk).1), fun k c hk => by
    have h1 := h.rows k c hk
    refine (hg.block k (blk_lt h1) ?_).trans h1
    intro e
    obtain ⟨_, h2 | ⟨g, cap, cur, hv, _, hh, _⟩⟩ := hown
    · rw [h2.1] at e; cases e
    · rw [hv] at e
      simp only [Value.ownBlock, Option.some.injEq] at e
      subst e
      rw [hh] at h1
      cases h1⟩
theorem KI.size {B : Nat} {w w' : World} (h : KI B w w') : w.heap.size ≤ w'.heap.size := h.below.size

theorem info5 : ∃ i, Ybaf.prog.info? 5 = some i ∧ i.zero = some (.int .u8 0) ∧ i.size = 1 ∧ i.bytes = 1 := by
  have h : (Ybaf.prog.info? 5).map (fun i => (i.zero, i.size, i.bytes)) = some (some (.int .u8 0), 1, 1) := by kernel_rfl
  obtain ⟨i, hi, he⟩ := Option.map_eq_some_iff.1 h
  simp only [Prod.mk.injEq] at he
  exact ⟨i, hi, he.1, he.2.1, he.2.2⟩

set_option maxHeartbeats 8000000 in
set_option maxRecDepth 100000 in
theorem appendUvarint (B n x : Nat) (hx : x < 18446744073709551616) (sv : Value) (xs : List Value) (w : World) (hown : w.ownsRow B 5 1 sv n xs) (hBw : B ≤ w.heap.size) (hlim : n + 10 ≤ 1000000000) :
    Calls Ybaf.prog 9 #[sv, .int .u64 x] w fun e w' => ∃ v', e = .returned v' ∧ w'.ownsRow B 5 1 v' (n + (Lib.uvarint x).length) (xs ++ Lib.byteCells (Lib.uvarint x)) ∧ KI B w w' := by
  obtain ⟨i0, hi, hz0, hz1, hz2⟩ := info5
  have hlen := Lib.uvarint_length64 hx
  go_enter Ybaf.func9, Ybaf.ntmps9
  go_wp2
  go_loopw [0, 1] (fun vb vx wr => ∃ (y : Nat) (pre : List UInt8), vx = .int .u64 y ∧ y ≤ x ∧ Lib.uvarint x = pre ++ Lib.uvarint y ∧ wr.ownsRow B 5 1 vb (n + pre.length) (xs ++ Lib.byteCells pre) ∧ KI B w wr)
    (fun _ vx _ => (intOf vx).toNat)
  case atStart => exact ⟨x, [], rfl, Nat.le_refl _, rfl, by simpa [Lib.byteCells] using hown, KI.refl _ _⟩
  case round =>
    obtain ⟨y, pre, rfl, hy, hsplit, hown1, hnx⟩ := hrel
    have hpl : pre.length + (Lib.uvarint y).length ≤ 10 := by
      have h2 := congrArg List.length hsplit
      rw [List.length_append] at h2
      omega
    have hyp := Lib.uvarint_pos y
    have hsz := hnx.size
    by_cases h128 : 128 ≤ y
    · have hor : bits .or .u8 ((y : Int) % 256) 128 = ((y % 128 + 128 : Nat) : Int) := by
        rw [Lib.u8_or128_any _ (by omega) (by omega)]
        omega
      have hown2 := hown1.alloc (.cells #[.int .u8 ((y % 128 + 128 : Nat) : Int)] 5)
      go_wp2_with (at_builtin; refine wpList_append_own _ rfl _ _ 25 rfl B 5 i0 (.int .u8 0) 1 1 Ybaf.underlying25 hi hz0 hz1 hz2 rfl (by decide) _ _ _ rfl hown2 ⟨wr.heap.size, 0, none⟩ 1 1 [Value.int .u8 ((y % 128 + 128 : Nat) : Int)] rfl rfl ?c1 ?c2 ?c3 ?c4 ?c5 ?_)
      case c1 =>
        intro j u hj
        match j, hj with
        | 0, hj => simp at hj; subst hj; simp [Addr.add]
      case c2 => intro u hu; simp at hu; subst hu; rfl
      case c3 => unfold maxLen; omega
      case c4 => omega
      case c5 => simp; omega
      intro v' w1 hown' hgrow _
      have hnx1 : KI B w w1 := (hnx.alloc (by omega) _).grown hgrow (by simp; omega) hown2
      go_wp2
      go_roundw
      case rel =>
        refine ⟨y / 128, pre ++ [(y % 128 + 128).toUInt8], by go_num, by omega, by rw [hsplit, Lib.uvarint_big h128]; simp, ?_, hnx1⟩
        have ec : ((y % 128 + 128 : Nat) : Int) = (y : Int) % 128 + 128 := by omega
        rw [Lib.byteCells_snoc pre (by omega), List.length_append, List.length_singleton, ← Nat.add_assoc, ec]
        exact hown'
      case measure => simp [intOf]; omega
    · have hsm : Lib.uvarint y = [y.toUInt8] := Lib.uvarint_small (by omega)
      have hown2 := hown1.alloc (.cells #[.int .u8 (y : Int)] 5)
      go_wp2_with (at_builtin; refine wpList_append_own _ rfl _ _ 25 rfl B 5 i0 (.int .u8 0) 1 1 Ybaf.underlying25 hi hz0 hz1 hz2 rfl (by decide) _ _ _ rfl hown2 ⟨wr.heap.size, 0, none⟩ 1 1 [Value.int .u8 (y : Int)] rfl rfl ?c1 ?c2 ?c3 ?c4 ?c5 ?_)
      case c1 =>
        intro j u hj
        match j, hj with
        | 0, hj => simp at hj; subst hj; simp [Addr.add]
      case c2 => intro u hu; simp at hu; subst hu; rfl
      case c3 => unfold maxLen; omega
      case c4 => omega
      case c5 => simp; omega
      intro v' w1 hown' hgrow _
      have hnx1 : KI B w w1 := (hnx.alloc (by omega) _).grown hgrow (by simp; omega) hown2
      go_wp2
      go_ret
      refine ⟨v', rfl, ?_, hnx1⟩
      rw [hsplit, hsm, Lib.byteCells_snoc pre (by omega), List.length_append, List.length_singleton, ← Nat.add_assoc]
      exact hown'

set_option maxHeartbeats 2000000 in
set_option maxRecDepth 100000 in
theorem appendVarint (B n : Nat) (x : Int) (hx : Fits x) (sv : Value) (xs : List Value) (w : World) (hown : w.ownsRow B 5 1 sv n xs) (hBw : B ≤ w.heap.size) (hlim : n + 10 ≤ 1000000000) :
    Calls Ybaf.prog 10 #[sv, .int .i64 x] w fun e w' => ∃ v', e = .returned v' ∧ w'.ownsRow B 5 1 v' (n + (Lib.uvarint (Lib.zigzag x)).length) (xs ++ Lib.byteCells (Lib.uvarint (Lib.zigzag x))) ∧ KI B w w' := by
  obtain ⟨h0, h1⟩ := hx
  have hU := appendUvarint B n (Lib.zigzag x) (zigzag_lt x h0 h1) sv xs w hown hBw hlim
  by_cases hneg : x < 0
  · rw [← Lib.zigzag_neg h0 hneg] at hU
    go_enter Ybaf.func10, Ybaf.ntmps10
    go_wp2_with fail
    refine hU.mono ?_
    rintro e w1 ⟨v', rfl, ho, hb⟩
    go_wp2
    go_ret
    exact ⟨v', rfl, ho, hb⟩
  · rw [Lib.zigzag_nonneg (by omega)] at hU
    go_enter Ybaf.func10, Ybaf.ntmps10
    go_wp2_with fail
    refine hU.mono ?_
    rintro e w1 ⟨v', rfl, ho, hb⟩
    go_wp2
    go_ret
    exact ⟨v', rfl, ho, hb⟩
end Go.Proofs.YbulkbsrsFmt
