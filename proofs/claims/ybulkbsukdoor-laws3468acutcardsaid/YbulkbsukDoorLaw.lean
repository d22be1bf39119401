/-
  LawS3468AExact: zzs3468abuild, AND THE WALK.
-/
import Derived.Test.YbulkbsukDoorIdle
namespace Go.Proofs.YbulkbsukDoor
open Go Go.RowKit

/-- A sequence's cells. -/
abbrev seqOf (n hd : ByteArray) (h g : Option Addr) : Array Value :=
  #[.nilIface, .string n, .string hd, .bool false, .bool false, .pointer none, .int .i32 0, .int .u32 0, .int .i32 0, .int .u32 0, .int .i32 0, .int .u32 0, .pointer h, .nilIface, .pointer g,
    .int .i64 0, .int .i64 0, .int .i64 0, .int .i64 0, .string { data := #[] }, .int .u64 0, .int .u32 0]
abbrev held0 : Array Value :=
  #[.chan none, .nilIface, .string { data := #[] }, .string { data := #[] }, .int .i64 0, .string { data := #[] }, .int .i64 0, .int .i64 0, .int .i64 0, .int .i64 0, .int .i64 0, .int .i64 0, .string { data := #[] }, .pointer none, .int .u32 0, .chan none,
    .int .i32 0, .int .u32 0, .int .u64 0, .int .i64 0, .pointer none, .int .i64 0, .int .i64 0, .int .i64 0, .nilIface]

set_option maxRecDepth 100000 in
theorem new_any (n hd : ByteArray) (w : World) :
    Calls Ybad.prog 14 #[.nilIface, .string n, .string hd, .bool false, .bool false, .pointer none] w fun e w' => e = .returned (.pointer (some ⟨w.heap.size, 0, none⟩)) ∧ w' = w.alloc (.cells (seqOf n hd none none) 53) := by
  go_enter Ybad.func14, Ybad.ntmps14
  go_wp2
  go_ret
  exact ⟨rfl, rfl⟩

/-- What zzs3468abuild leaves: the sequence in block sb, its holding and its generator. -/
structure Built (w w' : World) (a0 a1 : Bool) (sb : Nat) (h g : Option Addr) : Prop where
  st : ∃ n hd, w'.heap[sb]? = some (.cells (seqOf n hd h g) 53 (0, 0))
  hh : Held w' h
  ne : ∀ hb, h = some ⟨hb, 0, none⟩ → hb ≠ sb
  h0 : h.isNone = !a0
  g0 : g.isNone = !a1
  lo : w.heap.size ≤ sb
  be : Below w.heap.size w w'

theorem bc {w : World} {b k : Nat} {c : Array Value} {t : TypeId} (h : w.heap[b]? = some (.cells c t (0, 0))) (hk : k < c.size) : w.cell? ⟨b, k, none⟩ = some c[k] := by
  simp [World.cell?, h, hk]
theorem bz {w : World} {b k : Nat} {c : Array Value} {t : TypeId} (h : w.heap[b]? = some (.cells c t (0, 0))) : w.frozen? ⟨b, k, none⟩ = false := by
  simp [World.frozen?, h]
theorem bs {w : World} {g k : Nat} {c : Array Value} {t : TypeId} (h : w.heap[g]? = some (.cells c t (0, 0))) (v : Value) : (w.setCell ⟨g, k, none⟩ v).heap[g]? = some (.cells (c.setIfInBounds k v) t (0, 0)) := by
  simp [World.setCell, Array.getElem?_modify, h]

theorem sc {w : World} {b : Nat} {n hd : ByteArray} {h g : Option Addr} (q : w.heap[b]? = some (.cells (seqOf n hd h g) 53 (0, 0))) :
    w.cell? ⟨b, 10, none⟩ = some (.int .i32 0) ∧ w.cell? ⟨b, 12, none⟩ = some (.pointer h) ∧ w.cell? ⟨b, 14, none⟩ = some (.pointer g) :=
  ⟨bc q (by show 10 < 22; decide), bc q (by show 12 < 22; decide), bc q (by show 14 < 22; decide)⟩

/-- The generator's store, and its block. -/
theorem genned {w W : World} {sb : Nat} {n hd : ByteArray} {h : Option Addr} (v : Addr) (o : Obj) (q : W.heap[sb]? = some (.cells (seqOf n hd h none) 53 (0, 0))) (hh : Held W h) (ne : ∀ hb, h = some ⟨hb, 0, none⟩ → hb ≠ sb) (hlo : w.heap.size ≤ sb) (be : Below w.heap.size w W) :
    ((W.setCell ⟨sb, 14, none⟩ (.pointer (some v))).alloc o).heap[sb]? = some (.cells (seqOf n hd h (some v)) 53 (0, 0)) ∧ Held ((W.setCell ⟨sb, 14, none⟩ (.pointer (some v))).alloc o) h ∧ Below w.heap.size w ((W.setCell ⟨sb, 14, none⟩ (.pointer (some v))).alloc o) := by
  have s1 := bs (k := 14) q (.pointer (some v))
  have hlt : sb < W.heap.size := by
    rcases Nat.lt_or_ge sb W.heap.size with h' | h'
    · exact h'
    · rw [Array.getElem?_eq_none h'] at q; cases q
  refine ⟨(Below.heap_alloc _ o sb (by simpa using hlt)).trans s1, ?_, (be.setCell hlo _).alloc (by have := be.size; simp; omega) o⟩
  rcases hh.set (o := 14) (v := .pointer (some v)) ne with rfl | ⟨hb, c, rfl, hb1, hc⟩
  · exact Or.inl rfl
  · refine Or.inr ⟨hb, c, rfl, (Below.heap_alloc _ o hb ?_).trans hb1, hc⟩
    rcases Nat.lt_or_ge hb (W.setCell ⟨sb, 14, none⟩ (.pointer (some v))).heap.size with h' | h'
    · exact h'
    · rw [Array.getElem?_eq_none h'] at hb1; cases hb1

set_option maxRecDepth 100000 in
set_option maxHeartbeats 1600000 in
theorem build_any (a0 a1 : Bool) (a2 a3 : ByteArray) (w : World) :
    Calls Ybad.prog 6 #[.bool a0, .bool a1, .string a2, .string a3] w fun e w' => ∃ sb h g, e = .returned (.tuple #[.pointer (some ⟨sb, 0, none⟩), .pointer h, .pointer g]) ∧ Built w w' a0 a1 sb h g := by
  have hal : ∀ (X : World) (o : Obj), (X.alloc o).heap[X.heap.size]? = some o := fun X o => heap_alloc_new X o
  obtain ⟨W1, HW1⟩ : ∃ W1, Hid (W1 = w.alloc (.cells (seqOf a2 a3 none none) 53)) := ⟨_, rfl⟩
  obtain ⟨sb, HS⟩ : ∃ sb, Hid (sb = w.heap.size) := ⟨_, rfl⟩
  have s1 : W1.heap[sb]? = some (.cells (seqOf a2 a3 none none) 53 (0, 0)) := by rw [HW1.out, HS.out, hal]
  have z1 : W1.heap.size = sb + 1 := by rw [HW1.out, HS.out]; simp
  have b1 : Below w.heap.size w W1 := by rw [HW1.out]; exact (Below.refl _ _).alloc (Nat.le_refl _) _
  have hlo : w.heap.size ≤ sb := by rw [HS.out]; exact Nat.le_refl _
  go_enter Ybad.func6, Ybad.ntmps6
  go_wp2_with fail
  refine (new_any a2 a3 w).mono ?_
  rintro e w1 ⟨rfl, rfl⟩
  rw [← HW1.out, ← HS.out]
  cases a0
  · cases a1
    · go_wp2_with fail
      go_ret3
      exact ⟨sb, none, none, rfl, ⟨_, _, s1⟩, Or.inl rfl, (fun hb q => by cases q), rfl, rfl, hlo, b1⟩
    · obtain ⟨-, -, c14⟩ := sc s1
      have z14 := bz (k := 14) s1
      go_wp2_with fail
      go_ret3
      obtain ⟨q1, q2, q3⟩ := genned (w := w) ⟨sb + 1, 0, none⟩ _ s1 (Or.inl rfl) (fun hb q => by cases q) hlo b1
      exact ⟨sb, none, some ⟨sb + 1, 0, none⟩, rfl, ⟨_, _, q1⟩, q2, (fun hb q => by cases q), rfl, rfl, hlo, q3⟩
  · obtain ⟨-, c12, -⟩ := sc s1
    have hlt : sb < W1.heap.size := by omega
    have s2 : (W1.alloc (.cells held0 67)).heap[sb]? = some (.cells (seqOf a2 a3 none none) 53 (0, 0)) := (Below.heap_alloc W1 _ sb hlt).trans s1
    have hH : Held (W1.alloc (.cells held0 67)) (some ⟨sb + 1, 0, none⟩) := by
      rw [← z1]
      exact Or.inr ⟨W1.heap.size, held0, rfl, hal _ _, rfl⟩
    have b2 : Below w.heap.size w (W1.alloc (.cells held0 67)) := b1.alloc (by omega) _
    have hne : ∀ hb, some (⟨sb + 1, 0, none⟩ : Addr) = some ⟨hb, 0, none⟩ → hb ≠ sb := by intro hb q; cases q; omega
    have zz : (W1.alloc (.cells held0 67)).heap.size = sb + 2 := by simp; omega
    obtain ⟨-, d12, -⟩ := sc s2
    have z12 := bz (k := 12) s2
    have HH := hH
    go_wp2_with fail
    refine (store_any sb 12 (some ⟨sb + 1, 0, none⟩) _ _ d12 z12 hH).mono ?_
    rintro e w2 ⟨rfl, rfl⟩
    have s3 : ((W1.alloc (.cells held0 67)).setCell ⟨sb, 12, none⟩ (.pointer (some ⟨sb + 1, 0, none⟩))).heap[sb]? = some (.cells (seqOf a2 a3 (some ⟨sb + 1, 0, none⟩) none) 53 (0, 0)) := bs (k := 12) s2 _
    have hH3 := hH.set (o := 12) (v := .pointer (some ⟨sb + 1, 0, none⟩)) hne
    have b3 : Below w.heap.size w ((W1.alloc (.cells held0 67)).setCell ⟨sb, 12, none⟩ (.pointer (some ⟨sb + 1, 0, none⟩))) := b2.setCell hlo _
    have zz3 : ((W1.alloc (.cells held0 67)).setCell ⟨sb, 12, none⟩ (.pointer (some ⟨sb + 1, 0, none⟩))).heap.size = sb + 2 := by rw [World.size_setCell]; exact zz
    generalize (W1.alloc (.cells held0 67)).setCell ⟨sb, 12, none⟩ (.pointer (some ⟨sb + 1, 0, none⟩)) = W3 at *
    clear s2 hH HH b2 zz d12 z12
    cases a1
    · go_wp2_with fail
      go_ret3
      exact ⟨sb, some ⟨sb + 1, 0, none⟩, none, rfl, ⟨_, _, s3⟩, hH3, hne, rfl, rfl, hlo, b3⟩
    · obtain ⟨-, -, c14⟩ := sc s3
      have z14 := bz (k := 14) s3
      have hlt3 : sb < W3.heap.size := by omega
      go_wp2_with fail
      go_ret3
      obtain ⟨q1, q2, q3⟩ := genned (w := w) ⟨sb + 2, 0, none⟩ _ s3 hH3 hne hlo b3
      exact ⟨sb, some ⟨sb + 1, 0, none⟩, some ⟨sb + 2, 0, none⟩, rfl, ⟨_, _, q1⟩, q2, hne, rfl, rfl, hlo, q3⟩
end Go.Proofs.YbulkbsukDoor
