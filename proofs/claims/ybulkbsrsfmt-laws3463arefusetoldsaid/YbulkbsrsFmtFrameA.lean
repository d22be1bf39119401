/-
  readFrame OVER THE LAWS' READER: what its walk rests on.
-/
import Derived.Test.YbulkbsrsFmtCrash
import Derived.Test.YbulkbsrsFmtFlags
namespace Go.Proofs.YbulkbsrsFmt
open Go Go.RowKit

/-- The frame's cells. -/
def frameOf (d r : Int) (b1 : Bool) (V : Value) (b2 b4 b8 b16 : Bool) (x : Int) (C : Value) : Array Value :=
  #[.int .i64 d, .int .i64 r, .bool b1, V, .bool b2, .bool b4, .bool b8, .bool b16, .int .i64 x, C]
abbrev nilS : Value := .slice none 0 0
/-- The frame while its flags are being read. -/
def flagging (d r : Int) (b1 b2 b4 b8 b16 : Bool) : Nat → Array Value
  | 0 => frameOf d r false nilS false false false false 0 nilS
  | 1 => frameOf d r b1 nilS false false false false 0 nilS
  | 2 => frameOf d r b1 nilS b2 false false false 0 nilS
  | 3 => frameOf d r b1 nilS b2 b4 false false 0 nilS
  | 4 => frameOf d r b1 nilS b2 b4 b8 false 0 nilS
  | _ => frameOf d r b1 nilS b2 b4 b8 b16 0 nilS
/-- The flags known so far. -/
def known : Nat → Int
  | 0 => 0
  | 1 => 1
  | 2 => 3
  | 3 => 7
  | 4 => 15
  | _ => 31

theorem idx0 (fb : Nat) (w : World) : (Instr.index 55 (.agg (flagsOf fb)) (.int .i64 0)).run Ybaf.prog w = .ok (.agg #[.int .u8 1, .pointer (some ⟨fb, 2, none⟩)]) w := by kernel_rfl
theorem idx1 (fb : Nat) (w : World) : (Instr.index 55 (.agg (flagsOf fb)) (.int .i64 1)).run Ybaf.prog w = .ok (.agg #[.int .u8 2, .pointer (some ⟨fb, 4, none⟩)]) w := by kernel_rfl
theorem idx2 (fb : Nat) (w : World) : (Instr.index 55 (.agg (flagsOf fb)) (.int .i64 2)).run Ybaf.prog w = .ok (.agg #[.int .u8 4, .pointer (some ⟨fb, 5, none⟩)]) w := by kernel_rfl
theorem idx3 (fb : Nat) (w : World) : (Instr.index 55 (.agg (flagsOf fb)) (.int .i64 3)).run Ybaf.prog w = .ok (.agg #[.int .u8 8, .pointer (some ⟨fb, 6, none⟩)]) w := by kernel_rfl
theorem idx4 (fb : Nat) (w : World) : (Instr.index 55 (.agg (flagsOf fb)) (.int .i64 4)).run Ybaf.prog w = .ok (.agg #[.int .u8 16, .pointer (some ⟨fb, 7, none⟩)]) w := by kernel_rfl
theorem or0 : bits .or .u8 0 1 = 1 := by decide
theorem or1 : bits .or .u8 1 2 = 3 := by decide
theorem or2 : bits .or .u8 3 4 = 7 := by decide
theorem or3 : bits .or .u8 7 8 = 15 := by decide
theorem or4 : bits .or .u8 15 16 = 31 := by decide

/-- The frame's zero value. -/
abbrev frame0 : Array Value := #[.int .i64 0, .int .i64 0, .bool false, .slice none 0 0, .bool false, .bool false, .bool false, .bool false, .int .i64 0, .slice none 0 0]
/-- The values of the message, if there is one. -/
def encV (b : Bool) (vs : List Int) : List UInt8 := if b then Lib.uvarint vs.length ++ encI vs else []
/-- The value decided, if there is one. -/
def encX (b : Bool) (x : Int) : List UInt8 := if b then Lib.uvarint (Lib.zigzag x) else []
/-- What a frame leaves: a whole one (sc = 0), one that is cut short (sc = 1). -/
def FramePost (sc : Nat) (e : Ending) (w w' : World) (rb gb cap : Nat) (d r : Int) (b1 b2 b4 b8 b16 : Bool) (l : List UInt8) (vs : List Int) (x : Int) (ps : List Nat) (rest2 : List UInt8) (aE aU : Addr) : Prop :=
  (sc = 0 → ∃ V C g2 p, e = .returned (.tuple #[.agg (frameOf d r b1 V b2 b4 b8 b16 (if b2 then x else 0) C), .nilIface]) ∧
    (b1 = true → ∃ g, V = .slice (some ⟨g, 0, none⟩) vs.length vs.length ∧ w'.heap[g]? = some (.cells (vs.map (Value.int .i64)).toArray 3 (0, 0))) ∧ (b1 = false → V = nilS) ∧
    C = .slice (some ⟨g2, 0, none⟩) ps.length ps.length ∧ w'.ownsRow w.heap.size 3 1 C ps.length (ints ps) ∧ w.grownBy w' (some rb) ∧ Rd w' rb gb cap l p ∧ l.drop p = rest2) ∧
  (sc = 1 → ∃ a p, e = .returned (.tuple #[.agg frame0, err a]) ∧ (a = aE ∨ a = aU) ∧ w.grownBy w' (some rb) ∧ Rd w' rb gb cap l p)

/-- A row that the call owns, behind a store into an elder block. -/
theorem own_set {w : World} {B n g cap b o : Nat} {e : TypeId} {xs : List Value} (h : w.ownsRow B e 1 (.slice (some ⟨g, 0, none⟩) n cap) n xs) (v : Value) (hb : b < B) : (w.setCell ⟨b, o, none⟩ v).ownsRow B e 1 (.slice (some ⟨g, 0, none⟩) n cap) n xs :=
  ownsRow_setCell_below h (by exact hb) v

theorem own_keep {w w' : World} {B B' n g cap : Nat} {e : TypeId} {xs : List Value} (h : w.ownsRow B e 1 (.slice (some ⟨g, 0, none⟩) n cap) n xs) (hb : w'.heap[g]? = w.heap[g]?) (hB : B' ≤ B) : w'.ownsRow B' e 1 (.slice (some ⟨g, 0, none⟩) n cap) n xs := by
  obtain ⟨h1, h2 | ⟨g', cap', cur, hv, hg, hh, r⟩⟩ := h
  · cases h2.1
  · cases hv
    exact ⟨h1, Or.inr ⟨g, cap, cur, rfl, Nat.le_trans hB hg, hb.trans hh, r⟩⟩

/-- One round over the flags leaves: the frame's field set, a new block. -/
theorem flag_round {w wr : World} {rb gb cap p fb rs j : Nat} {l : List UInt8} {c c' z : Array Value} {v : Value} (o : Obj) (hrs : rb < rs) (hfb : rs < fb) (hw : w.heap.size ≤ rs)
    (hF : wr.heap[fb]? = some (.cells c 33 (0, 0))) (hS : wr.heap[rs]? = some (.cells z 33 (0, 0))) (hrd : Rd wr rb gb cap l p) (hgr : w.grownBy wr (some rb)) (he : c.setIfInBounds j v = c') :
    ((wr.setCell ⟨fb, j, none⟩ v).alloc o).heap[fb]? = some (.cells c' 33 (0, 0)) ∧ ((wr.setCell ⟨fb, j, none⟩ v).alloc o).heap[rs]? = some (.cells z 33 (0, 0)) ∧
    Rd ((wr.setCell ⟨fb, j, none⟩ v).alloc o) rb gb cap l p ∧ w.grownBy ((wr.setCell ⟨fb, j, none⟩ v).alloc o) (some rb) := by
  have h1 := blk_set (k := j) hF v
  rw [he] at h1
  have h2 : (wr.setCell ⟨fb, j, none⟩ v).heap[rs]? = some (.cells z 33 (0, 0)) := (Below.heap_setCell wr _ v rs (by simp; omega)).trans hS
  refine ⟨?_, ?_, (hrd.setOther (by omega) v).alloc o, grown_allocR (grown_setNew hgr (by omega) v) o⟩
  · rw [Below.heap_alloc _ _ _ (blk_lt h1)]; exact h1
  · rw [Below.heap_alloc _ _ _ (blk_lt h2)]; exact h2

/-- How it stands between two steps: the frame's cells, the result's cells, the reader, all else as it was. -/
structure St (w W : World) (rb gb cap fb rs p : Nat) (l : List UInt8) (c : Array Value) : Prop where
  F : W.heap[fb]? = some (.cells c 33 (0, 0))
  S : W.heap[rs]? = some (.cells frame0 33 (0, 0))
  R : Rd W rb gb cap l p
  G : w.grownBy W (some rb)
theorem St.call {w W W' : World} {rb gb cap fb rs p p' : Nat} {l : List UInt8} {c : Array Value} (h : St w W rb gb cap fb rs p l c) (hrs : rb < rs) (hfb : rs < fb) (hg : W.grownBy W' (some rb)) (hr : Rd W' rb gb cap l p') : St w W' rb gb cap fb rs p' l c :=
  ⟨blk_grown hg h.F (by omega), blk_grown hg h.S hrs, hr, grown_trans h.G hg⟩
theorem St.set {w W : World} {rb gb cap fb rs p : Nat} {l : List UInt8} {c c' : Array Value} (h : St w W rb gb cap fb rs p l c) (hrs : rb < rs) (hfb : rs < fb) (hw : w.heap.size ≤ rs) (j : Nat) (v : Value) (he : c.setIfInBounds j v = c') : St w (W.setCell ⟨fb, j, none⟩ v) rb gb cap fb rs p l c' := by
  refine ⟨?_, (Below.heap_setCell W _ v rs (by simp; omega)).trans h.S, h.R.setOther (by omega) v, grown_setNew h.G (by omega) v⟩
  rw [← he]
  exact blk_set h.F v

theorem frameCells {W : World} {b : Nat} {d r x : Int} {b1 b2 b4 b8 b16 : Bool} {V C : Value} (h : W.heap[b]? = some (.cells (frameOf d r b1 V b2 b4 b8 b16 x C) 33 (0, 0))) :
    W.cell? ⟨b, 0, none⟩ = some (.int .i64 d) ∧ W.cell? ⟨b, 1, none⟩ = some (.int .i64 r) ∧ W.cell? ⟨b, 2, none⟩ = some (.bool b1) ∧ W.cell? ⟨b, 3, none⟩ = some V ∧ W.cell? ⟨b, 4, none⟩ = some (.bool b2) ∧
    W.cell? ⟨b, 5, none⟩ = some (.bool b4) ∧ W.cell? ⟨b, 6, none⟩ = some (.bool b8) ∧ W.cell? ⟨b, 7, none⟩ = some (.bool b16) ∧ W.cell? ⟨b, 8, none⟩ = some (.int .i64 x) ∧ W.cell? ⟨b, 9, none⟩ = some C :=
  ⟨blk_cell h (by show 0 < 10; decide), blk_cell h (by show 1 < 10; decide), blk_cell h (by show 2 < 10; decide), blk_cell h (by show 3 < 10; decide), blk_cell h (by show 4 < 10; decide),
   blk_cell h (by show 5 < 10; decide), blk_cell h (by show 6 < 10; decide), blk_cell h (by show 7 < 10; decide), blk_cell h (by show 8 < 10; decide), blk_cell h (by show 9 < 10; decide)⟩
/-- Ten stores into one block turn no other. -/
theorem ten (W : World) (rs : Nat) (v0 v1 v2 v3 v4 v5 v6 v7 v8 v9 : Value) : ∀ k, k ≠ rs →
    ((((((((((W.setCell ⟨rs, 0, none⟩ v0).setCell ⟨rs, 1, none⟩ v1).setCell ⟨rs, 2, none⟩ v2).setCell ⟨rs, 3, none⟩ v3).setCell ⟨rs, 4, none⟩ v4).setCell ⟨rs, 5, none⟩ v5).setCell ⟨rs, 6, none⟩ v6).setCell ⟨rs, 7, none⟩ v7).setCell ⟨rs, 8, none⟩ v8).setCell ⟨rs, 9, none⟩ v9).heap[k]? = W.heap[k]? := by
  intro k hk
  have e : ∀ (X : World) (o : Nat) (v : Value), (X.setCell ⟨rs, o, none⟩ v).heap[k]? = X.heap[k]? := fun X o v => Below.heap_setCell X _ v k hk
  simp only [e]
theorem ten_same {W : World} {rs : Nat} {u0 u1 u2 u3 u4 u5 u6 u7 u8 u9 : Value} (h : W.heap[rs]? = some (.cells #[u0, u1, u2, u3, u4, u5, u6, u7, u8, u9] 33 (0, 0))) (v0 v1 v2 v3 v4 v5 v6 v7 v8 v9 : Value) :
    ((((((((((W.setCell ⟨rs, 0, none⟩ v0).setCell ⟨rs, 1, none⟩ v1).setCell ⟨rs, 2, none⟩ v2).setCell ⟨rs, 3, none⟩ v3).setCell ⟨rs, 4, none⟩ v4).setCell ⟨rs, 5, none⟩ v5).setCell ⟨rs, 6, none⟩ v6).setCell ⟨rs, 7, none⟩ v7).setCell ⟨rs, 8, none⟩ v8).setCell ⟨rs, 9, none⟩ v9).heap[rs]? = some (.cells #[v0, v1, v2, v3, v4, v5, v6, v7, v8, v9] 33 (0, 0)) := by
  have h0 : (W.setCell ⟨rs, 0, none⟩ v0).heap[rs]? = some (.cells #[v0, u1, u2, u3, u4, u5, u6, u7, u8, u9] 33 (0, 0)) := blk_set (k := 0) h v0
  have h1 : ((W.setCell ⟨rs, 0, none⟩ v0).setCell ⟨rs, 1, none⟩ v1).heap[rs]? = some (.cells #[v0, v1, u2, u3, u4, u5, u6, u7, u8, u9] 33 (0, 0)) := blk_set (k := 1) h0 v1
  have h2 : (((W.setCell ⟨rs, 0, none⟩ v0).setCell ⟨rs, 1, none⟩ v1).setCell ⟨rs, 2, none⟩ v2).heap[rs]? = some (.cells #[v0, v1, v2, u3, u4, u5, u6, u7, u8, u9] 33 (0, 0)) := blk_set (k := 2) h1 v2
  have h3 : ((((W.setCell ⟨rs, 0, none⟩ v0).setCell ⟨rs, 1, none⟩ v1).setCell ⟨rs, 2, none⟩ v2).setCell ⟨rs, 3, none⟩ v3).heap[rs]? = some (.cells #[v0, v1, v2, v3, u4, u5, u6, u7, u8, u9] 33 (0, 0)) := blk_set (k := 3) h2 v3
  have h4 : (((((W.setCell ⟨rs, 0, none⟩ v0).setCell ⟨rs, 1, none⟩ v1).setCell ⟨rs, 2, none⟩ v2).setCell ⟨rs, 3, none⟩ v3).setCell ⟨rs, 4, none⟩ v4).heap[rs]? = some (.cells #[v0, v1, v2, v3, v4, u5, u6, u7, u8, u9] 33 (0, 0)) := blk_set (k := 4) h3 v4
  have h5 : ((((((W.setCell ⟨rs, 0, none⟩ v0).setCell ⟨rs, 1, none⟩ v1).setCell ⟨rs, 2, none⟩ v2).setCell ⟨rs, 3, none⟩ v3).setCell ⟨rs, 4, none⟩ v4).setCell ⟨rs, 5, none⟩ v5).heap[rs]? = some (.cells #[v0, v1, v2, v3, v4, v5, u6, u7, u8, u9] 33 (0, 0)) := blk_set (k := 5) h4 v5
  have h6 : (((((((W.setCell ⟨rs, 0, none⟩ v0).setCell ⟨rs, 1, none⟩ v1).setCell ⟨rs, 2, none⟩ v2).setCell ⟨rs, 3, none⟩ v3).setCell ⟨rs, 4, none⟩ v4).setCell ⟨rs, 5, none⟩ v5).setCell ⟨rs, 6, none⟩ v6).heap[rs]? = some (.cells #[v0, v1, v2, v3, v4, v5, v6, u7, u8, u9] 33 (0, 0)) := blk_set (k := 6) h5 v6
  have h7 : ((((((((W.setCell ⟨rs, 0, none⟩ v0).setCell ⟨rs, 1, none⟩ v1).setCell ⟨rs, 2, none⟩ v2).setCell ⟨rs, 3, none⟩ v3).setCell ⟨rs, 4, none⟩ v4).setCell ⟨rs, 5, none⟩ v5).setCell ⟨rs, 6, none⟩ v6).setCell ⟨rs, 7, none⟩ v7).heap[rs]? = some (.cells #[v0, v1, v2, v3, v4, v5, v6, v7, u8, u9] 33 (0, 0)) := blk_set (k := 7) h6 v7
  have h8 : (((((((((W.setCell ⟨rs, 0, none⟩ v0).setCell ⟨rs, 1, none⟩ v1).setCell ⟨rs, 2, none⟩ v2).setCell ⟨rs, 3, none⟩ v3).setCell ⟨rs, 4, none⟩ v4).setCell ⟨rs, 5, none⟩ v5).setCell ⟨rs, 6, none⟩ v6).setCell ⟨rs, 7, none⟩ v7).setCell ⟨rs, 8, none⟩ v8).heap[rs]? = some (.cells #[v0, v1, v2, v3, v4, v5, v6, v7, v8, u9] 33 (0, 0)) := blk_set (k := 8) h7 v8
  have h9 : ((((((((((W.setCell ⟨rs, 0, none⟩ v0).setCell ⟨rs, 1, none⟩ v1).setCell ⟨rs, 2, none⟩ v2).setCell ⟨rs, 3, none⟩ v3).setCell ⟨rs, 4, none⟩ v4).setCell ⟨rs, 5, none⟩ v5).setCell ⟨rs, 6, none⟩ v6).setCell ⟨rs, 7, none⟩ v7).setCell ⟨rs, 8, none⟩ v8).setCell ⟨rs, 9, none⟩ v9).heap[rs]? = some (.cells #[v0, v1, v2, v3, v4, v5, v6, v7, v8, v9] 33 (0, 0)) := blk_set (k := 9) h8 v9
  exact h9
theorem St.ten {w W : World} {rb gb cap fb rs p : Nat} {l : List UInt8} {c : Array Value} (h : St w W rb gb cap fb rs p l c) (hrs : rb < rs) (hw : w.heap.size ≤ rs) (v0 v1 v2 v3 v4 v5 v6 v7 v8 v9 : Value) :
    Rd ((((((((((W.setCell ⟨rs, 0, none⟩ v0).setCell ⟨rs, 1, none⟩ v1).setCell ⟨rs, 2, none⟩ v2).setCell ⟨rs, 3, none⟩ v3).setCell ⟨rs, 4, none⟩ v4).setCell ⟨rs, 5, none⟩ v5).setCell ⟨rs, 6, none⟩ v6).setCell ⟨rs, 7, none⟩ v7).setCell ⟨rs, 8, none⟩ v8).setCell ⟨rs, 9, none⟩ v9) rb gb cap l p ∧
    w.grownBy ((((((((((W.setCell ⟨rs, 0, none⟩ v0).setCell ⟨rs, 1, none⟩ v1).setCell ⟨rs, 2, none⟩ v2).setCell ⟨rs, 3, none⟩ v3).setCell ⟨rs, 4, none⟩ v4).setCell ⟨rs, 5, none⟩ v5).setCell ⟨rs, 6, none⟩ v6).setCell ⟨rs, 7, none⟩ v7).setCell ⟨rs, 8, none⟩ v8).setCell ⟨rs, 9, none⟩ v9) (some rb) := by
  refine ⟨h.R.keep fun k hk => Go.Proofs.YbulkbsrsFmt.ten W rs v0 v1 v2 v3 v4 v5 v6 v7 v8 v9 k (by omega), ?_⟩
  repeat (refine grown_setNew ?_ hw _)
  exact h.G
end Go.Proofs.YbulkbsrsFmt
