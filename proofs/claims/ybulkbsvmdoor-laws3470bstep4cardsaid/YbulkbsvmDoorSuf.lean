/-
  LawS3470BStep4: A WORD IN MEMORY; hasSuffix.
-/
import Derived.Test.YbulkbsvmDoorProg
import Derived.WalkKit
import Derived.WalkLawsBesides
import Derived.Deep.QuietTactic
import Derived.BigQuiet
import Derived.Laws.Cover4
namespace Go.Proofs.YbulkbsvmDoor
open Go Go.RowKit

theorem hid {p : Prop} (h : p) : Hid p := h
theorem drew_drew (w : World) (m n : Nat) : (w.drewN m).drewN n = w.drewN (m + n) := by simp [World.drewN, Nat.add_assoc]
/-- The bytes of a string, as numbers. -/
def nums (s : ByteArray) : List Nat := s.data.toList.map UInt8.toNat
theorem nums_length (s : ByteArray) : (nums s).length = s.size := by
  rw [nums, List.length_map, Array.length_toList]
  rfl
theorem nums_get (s : ByteArray) (i : Nat) (h : i < s.size) : (nums s)[i]'(by rw [nums_length]; exact h) = (s[i]).toNat := by
  simp [nums]
  rfl

/-- Runes in memory: 'rs' from cell o on of block b. -/
def Runes (w : World) (b o : Nat) (rs : List Nat) : Prop := ∀ j (h : j < rs.length), w.cell? ⟨b, o + j, none⟩ = some (.int .i32 (rs[j] : Int))
/-- A word: its runes, and the starts of its regions. -/
structure Wd (w : World) (wb rb cap : Nat) (rs : List Nat) (r1 r2 : Int) : Prop where
  c0 : w.cell? ⟨wb, 0, none⟩ = some (.slice (some ⟨rb, 0, none⟩) rs.length cap)
  c1 : w.cell? ⟨wb, 1, none⟩ = some (.int .i64 r1)
  c2 : w.cell? ⟨wb, 2, none⟩ = some (.int .i64 r2)
  z0 : w.frozen? ⟨wb, 0, none⟩ = false
  le : rs.length ≤ cap
  bd : rs.length < 1000000
  rows : Runes w rb 0 rs
theorem Wd.drew {w : World} {wb rb cap : Nat} {rs : List Nat} {r1 r2 : Int} (h : Wd w wb rb cap rs r1 r2) (n : Nat) : Wd (w.drewN n) wb rb cap rs r1 r2 := ⟨h.c0, h.c1, h.c2, h.z0, h.le, h.bd, h.rows⟩

/-- The word ends with s. -/
def suf (rs : List Nat) (s : ByteArray) : Bool := decide (s.size ≤ rs.length) && decide (rs.drop (rs.length - s.size) = nums s)

theorem suf_step {rs : List Nat} {s : ByteArray} (hn : s.size ≤ rs.length) {i : Nat} (hi : i < s.size) (hp : (rs.drop (rs.length - s.size)).take i = (nums s).take i) (he : rs[rs.length - s.size + i]'(by omega) = (s[i]).toNat) :
    (rs.drop (rs.length - s.size)).take (i + 1) = (nums s).take (i + 1) := by
  have h1 : i < (rs.drop (rs.length - s.size)).length := by rw [List.length_drop]; omega
  have h2 : i < (nums s).length := by rw [nums_length]; exact hi
  rw [List.take_succ_eq_append_getElem h1, List.take_succ_eq_append_getElem h2, hp, nums_get s i hi, List.getElem_drop, he]
theorem suf_all {rs : List Nat} {s : ByteArray} (hn : s.size ≤ rs.length) (hp : (rs.drop (rs.length - s.size)).take s.size = (nums s).take s.size) : suf rs s = true := by
  rw [List.take_of_length_le (by rw [List.length_drop]; omega), List.take_of_length_le (by rw [nums_length]; exact Nat.le_refl _)] at hp
  simp [suf, hn, hp]
theorem suf_not {rs : List Nat} {s : ByteArray} (hn : s.size ≤ rs.length) {i : Nat} (hi : i < s.size) (he : ¬ rs[rs.length - s.size + i]'(by omega) = (s[i]).toNat) : suf rs s = false := by
  have : ¬ rs.drop (rs.length - s.size) = nums s := fun e => he (by
    have h1 : i < (rs.drop (rs.length - s.size)).length := by rw [List.length_drop]; omega
    have := List.getElem_drop (xs := rs) (i := rs.length - s.size) (j := i) (h := h1)
    rw [← this, ← nums_get s i hi]
    simp only [e])
  simp [suf, this]

set_option maxRecDepth 100000 in
set_option maxHeartbeats 1600000 in
theorem hasSuffix_any (w : World) (wb rb cap : Nat) (rs : List Nat) (r1 r2 : Int) (h : Wd w wb rb cap rs r1 r2) (s : ByteArray) (hs : s.size < 1000000) (hs1 : 1 ≤ s.size) :
    Calls Ybad.prog 12 #[.pointer (some ⟨wb, 0, none⟩), .string s] w fun e w' => e = .returned (.bool (suf rs s)) ∧ ∃ m, w' = w.drewN m := by
  have hle := h.le
  have hbd := h.bd
  have h0 := h.c0
  by_cases hn : s.size ≤ rs.length
  · have hn' : ¬ ((rs.length : Int) < (s.size : Int)) := by omega
    have hc : ¬ cap = rs.length - s.size := by omega
    have e1 : rs.length - (rs.length - s.size) = s.size := by omega
    obtain ⟨o, HO⟩ : ∃ o, Hid (o = rs.length - s.size) := ⟨_, rfl⟩
    have hrow : ∀ i (hi : i < s.size), w.cell? ⟨rb, o + i, none⟩ = some (.int .i32 ((rs[rs.length - s.size + i]'(by omega) : Nat) : Int)) := fun i hi => by
      have := h.rows (rs.length - s.size + i) (by omega)
      rw [Nat.zero_add] at this
      rw [HO.out]
      exact this
    have HR := hid hrow
    clear hrow
    go_enter Ybad.func12, Ybad.ntmps12
    go_wp2_with fail
    go_quiet (fail)
    rw [← HO.out]
    go_wp2_with fail
    go_loopw [30] (fun vi wr => ∃ i m : Nat, vi = .int .i64 (i : Int) ∧ i ≤ s.size ∧ (rs.drop (rs.length - s.size)).take i = (nums s).take i ∧ wr = w.drewN m) (fun vi _ => s.size - (intOf vi).toNat)
    case atStart => exact ⟨0, nq, rfl, Nat.zero_le _, rfl, rfl⟩
    case round =>
      obtain ⟨i, m, rfl, hi, hp, rfl⟩ := hrel
      by_cases hlt : i < s.size
      · have hlt' : (i : Int) < (s.size : Int) := by omega
        have hrow1 := HR.out i hlt
        have hb : (s[i]).toNat < 256 := UInt8.toNat_lt _
        obtain ⟨y, hy⟩ : ∃ y, y = rs[rs.length - s.size + i]'(by omega) := ⟨_, rfl⟩
        rw [← hy] at hrow1
        have HY := hid hy
        clear hy
        by_cases he : y = (s[i]).toNat
        · rw [he] at hrow1
          go_wp2_with fail
          go_quiet (fail)
          go_wp2_with fail
          go_roundw
          case rel => exact ⟨i + 1, m + nq, by go_num, by omega, suf_step hn hlt hp (by rw [← HY.out]; exact he), by first | rfl | exact drew_drew w m nq⟩
          case measure => simp [intOf]; omega
        · have he2 : ((y : Int) == ((s[i]).toNat : Int)) = false := by simp; omega
          go_wp2_with fail
          go_quiet (fail)
          go_wp2_with fail
          go_ret
          exact ⟨by rw [suf_not hn hlt (by rw [← HY.out]; exact he)]; rfl, m + nq, by first | rfl | exact drew_drew w m nq⟩
      · have hlt' : ¬ (i : Int) < (s.size : Int) := by omega
        obtain rfl : i = s.size := by omega
        go_wp2_with fail
        go_ret
        exact ⟨by rw [suf_all hn hp]; rfl, m, rfl⟩
  · have hn' : (rs.length : Int) < (s.size : Int) := by omega
    go_enter Ybad.func12, Ybad.ntmps12
    go_wp2_with fail
    go_ret
    exact ⟨by simp [suf, hn], 0, rfl⟩
end Go.Proofs.YbulkbsvmDoor
