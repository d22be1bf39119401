/-
  THE READER OF THE LAWS: what its memory holds, what a step of it leaves, and the contract of (*zzs3463areader).ReadByte.
-/
import Derived.Test.YbulkbsrsFmtProg
import Derived.WalkKit
import Derived.WalkLawsBesides
import Derived.RegionTactic
import Derived.ChangeAlike
namespace Go.Proofs.YbulkbsrsFmt
open Go Go.RowKit

/-- Block rb holds the reader: its slice (block gb, the bytes l) and the count i of the bytes taken. -/
structure Rd (w : World) (rb gb cap : Nat) (l : List UInt8) (i : Nat) : Prop where
  st : w.heap[rb]? = some (.cells #[.slice (some ⟨gb, 0, none⟩) l.length cap, .int .i64 i] 31 (0, 0))
  by_ : ∀ j (hj : j < l.length), w.cell? ⟨gb, j, none⟩ = some (.int .u8 (l[j]).toNat)
  lt : gb < rb
  le : i ≤ l.length
  mx : l.length ≤ 1000000000

/-- The four package-level variables hold what they hold. -/
structure Gl (w : World) (aE aU aS aO : Addr) : Prop where
  g0 : w.cell? ⟨0, 0, none⟩ = some (.iface 87 (.pointer (some aE)))
  g1 : w.cell? ⟨1, 0, none⟩ = some (.iface 87 (.pointer (some aU)))
  g2 : w.cell? ⟨2, 0, none⟩ = some (.iface 87 (.pointer (some aS)))
  g3 : w.cell? ⟨3, 0, none⟩ = some (.iface 87 (.pointer (some aO)))

theorem Rd.c0 {w : World} {rb gb cap i : Nat} {l : List UInt8} (h : Rd w rb gb cap l i) : w.cell? ⟨rb, 0, none⟩ = some (.slice (some ⟨gb, 0, none⟩) l.length cap) := by
  simp [World.cell?, h.st]
theorem Rd.c1 {w : World} {rb gb cap i : Nat} {l : List UInt8} (h : Rd w rb gb cap l i) : w.cell? ⟨rb, 1, none⟩ = some (.int .i64 i) := by
  simp [World.cell?, h.st]
theorem Rd.f1 {w : World} {rb gb cap i : Nat} {l : List UInt8} (h : Rd w rb gb cap l i) : w.frozen? ⟨rb, 1, none⟩ = false := by
  simp [World.frozen?, h.st]

theorem grown_refl (w : World) (r : Option Nat) : w.grownBy w r := ⟨rfl, rfl, rfl, Nat.le_refl _, fun _ _ _ => rfl⟩
theorem grown_trans {a b c : World} {r : Option Nat} (h : a.grownBy b r) (k : b.grownBy c r) : a.grownBy c r :=
  ⟨k.os.trans h.os, k.tape.trans h.tape, k.output.trans h.output, Nat.le_trans h.size k.size, fun i hi hr => (k.block i (Nat.lt_of_lt_of_le hi h.size) hr).trans (h.block i hi hr)⟩
theorem grown_drewN (w : World) (n : Nat) (r : Option Nat) : w.grownBy (w.drewN n) r := ⟨rfl, rfl, rfl, Nat.le_refl _, fun _ _ _ => rfl⟩
theorem grown_alloc (w : World) (o : Obj) (r : Option Nat) : w.grownBy (w.alloc o) r :=
  ⟨rfl, rfl, rfl, by simp, fun k hk _ => Below.heap_alloc w o k hk⟩
theorem grown_set (w : World) (rb o : Nat) (v : Value) : w.grownBy (w.setCell ⟨rb, o, none⟩ v) (some rb) :=
  ⟨rfl, rfl, rfl, by simp, fun k _ hr => Below.heap_setCell w _ v k (fun e => hr (by rw [e]))⟩

theorem Gl.grown {w w' : World} {aE aU aS aO : Addr} {rb : Nat} (h : Gl w aE aU aS aO) (hg : w.grownBy w' (some rb)) (hr : 4 ≤ rb) : Gl w' aE aU aS aO := by
  refine ⟨hg.cell h.g0 ?_, hg.cell h.g1 ?_, hg.cell h.g2 ?_, hg.cell h.g3 ?_⟩ <;> (simp; omega)

/-- The step of the count. -/
theorem Rd.step {w : World} {rb gb cap i : Nat} {l : List UInt8} (h : Rd w rb gb cap l i) (hi : i < l.length) : Rd (w.setCell ⟨rb, 1, none⟩ (.int .i64 ((i + 1 : Nat) : Int))) rb gb cap l (i + 1) := by
  refine ⟨?_, fun j hj => ?_, h.lt, hi, h.mx⟩
  · simp [World.setCell, Array.getElem?_modify, h.st]
  · rw [World.cell?_setCell_other _ _ _ _ (by have := h.lt; intro e; cases e; omega)]
    exact h.by_ j hj
theorem Rd.drewN {w : World} {rb gb cap i : Nat} {l : List UInt8} (h : Rd w rb gb cap l i) (n : Nat) : Rd (w.drewN n) rb gb cap l i := ⟨h.st, h.by_, h.lt, h.le, h.mx⟩

theorem Rd.size {w : World} {rb gb cap i : Nat} {l : List UInt8} (h : Rd w rb gb cap l i) : rb < w.heap.size := by
  rcases Nat.lt_or_ge rb w.heap.size with h' | h'
  · exact h'
  · have := h.st
    rw [Array.getElem?_eq_none h'] at this
    cases this
/-- Whatever keeps the blocks up to the reader's keeps the reader. -/
theorem Rd.keep {w w' : World} {rb gb cap i : Nat} {l : List UInt8} (h : Rd w rb gb cap l i) (hb : ∀ k, k ≤ rb → w'.heap[k]? = w.heap[k]?) : Rd w' rb gb cap l i :=
  ⟨(hb rb (Nat.le_refl _)).trans h.st, fun j hj => (World.cell?_of_block (hb gb (Nat.le_of_lt h.lt))).trans (h.by_ j hj), h.lt, h.le, h.mx⟩
theorem Rd.alloc {w : World} {rb gb cap i : Nat} {l : List UInt8} (h : Rd w rb gb cap l i) (o : Obj) : Rd (w.alloc o) rb gb cap l i :=
  h.keep fun k hk => Below.heap_alloc w o k (by have := h.size; omega)
theorem Rd.setOther {w : World} {rb gb cap i g o : Nat} {l : List UInt8} (h : Rd w rb gb cap l i) (hg : rb < g) (v : Value) : Rd (w.setCell ⟨g, o, none⟩ v) rb gb cap l i :=
  h.keep fun k hk => Below.heap_setCell w _ v k (by simp; omega)
/-- A store into a block that is new. -/
theorem grown_setNew {w w' : World} {r : Option Nat} (h : w.grownBy w' r) {g o : Nat} (hg : w.heap.size ≤ g) (v : Value) : w.grownBy (w'.setCell ⟨g, o, none⟩ v) r :=
  ⟨h.os, h.tape, h.output, by have := h.size; simpa using this, fun k hk hr => (Below.heap_setCell w' _ v k (by simp; omega)).trans (h.block k hk hr)⟩
theorem grown_allocR {w w' : World} {r : Option Nat} (h : w.grownBy w' r) (o : Obj) : w.grownBy (w'.alloc o) r := grown_trans h (grown_alloc w' o r)

set_option maxHeartbeats 400000 in
theorem readByte_ok (w : World) (rb gb cap i : Nat) (l : List UInt8) (h : Rd w rb gb cap l i) (hi : i < l.length) :
    Calls Ybaf.prog 39 #[.pointer (some ⟨rb, 0, none⟩)] w fun e w' => e = .returned (.tuple #[.int .u8 (l[i]).toNat, .nilIface]) ∧ w.grownBy w' (some rb) ∧ Rd w' rb gb cap l (i + 1) := by
  have c0 := h.c0
  have c1 := h.c1
  have f1 := h.f1
  have cb := h.by_ i hi
  have hm := h.mx
  have hi' : (i : Int) < (l.length : Int) := by omega
  have hlt : ¬ (l.length : Int) ≤ (i : Int) := by omega
  have hdec : decide ((l.length : Int) ≤ (i : Int)) = false := by simpa using hi
  go_enter Ybaf.func39, Ybaf.ntmps39
  go_wp2
  go_region
  all_goals go_wp2
  all_goals go_region
  all_goals go_wp2
  all_goals go_ret2
  have e1 : ((i : Int) + 1) = ((i + 1 : Nat) : Int) := by omega
  rw [e1]
  exact ⟨rfl, grown_trans (grown_set w rb 1 _) (grown_drewN _ 2 _), (h.step hi).drewN 2⟩

set_option maxHeartbeats 400000 in
theorem readByte_eof (w : World) (rb gb cap : Nat) (l : List UInt8) (aE aU aS aO : Addr) (h : Rd w rb gb cap l l.length) (hg : Gl w aE aU aS aO) :
    Calls Ybaf.prog 39 #[.pointer (some ⟨rb, 0, none⟩)] w fun e w' => e = .returned (.tuple #[.int .u8 0, .iface 87 (.pointer (some aE))]) ∧ w.grownBy w' (some rb) ∧ Rd w' rb gb cap l l.length := by
  have c0 := h.c0
  have c1 := h.c1
  have g0 := hg.g0
  have hm := h.mx
  have hdec : decide ((l.length : Int) ≤ (l.length : Int)) = true := by simp
  go_enter Ybaf.func39, Ybaf.ntmps39
  go_wp2
  go_region
  all_goals go_wp2
  all_goals go_region
  all_goals go_wp2
  all_goals go_ret2
  all_goals exact ⟨rfl, grown_drewN _ 2 _, h.drewN 2⟩
end Go.Proofs.YbulkbsrsFmt
