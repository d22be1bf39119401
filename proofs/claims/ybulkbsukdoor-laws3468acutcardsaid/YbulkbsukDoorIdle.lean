/-
  LawS3468AExact: atomic.Pointer's Load and Store, idle.
-/
import Derived.Test.YbulkbsukDoorWalks
namespace Go.Proofs.YbulkbsukDoor
open Go Go.RowKit

theorem setCell_back {w : World} {a : Addr} {v : Value} (h : w.cell? a = some v) (u : Value) : (w.setCell a u).setCell a v = w := by
  have e : ((w.setCell a u).setCell a v).heap = w.heap := by
    apply Array.ext_getElem?
    intro k
    simp only [World.setCell, Array.getElem?_modify]
    by_cases hk : a.block = k
    · subst hk
      unfold World.cell? at h
      split at h
      · rename_i c e fr hb
        split at h
        · cases h
        · rename_i hs
          simp only [hb, if_true, Option.map_some]
          have hs' : a.spot.isSome = false := by simpa using hs
          simp only [hs', Bool.false_eq_true, if_false]
          congr 2
          apply Array.ext_getElem?
          intro j
          simp only [Array.getElem?_setIfInBounds]
          by_cases hj : a.off = j
          · subst hj
            have := (Array.getElem?_eq_some_iff.1 h).1
            rw [h]
            simp [this]
          · simp [hj]
      · cases h
    · simp [hk]
  cases w
  simp only [World.setCell] at e ⊢
  simp only [World.mk.injEq, and_true]
  exact e

/-- The holding that a pointer leads to. -/
def Held (w : World) (h : Option Addr) : Prop := h = none ∨ ∃ hb c, h = some ⟨hb, 0, none⟩ ∧ w.heap[hb]? = some (.cells c 67 (0, 0)) ∧ c.size = 25
theorem lies67 : liesAt Ybad.prog Ybad.prog.depth 67 (25 / Ybad.prog.cellsOf 67) 0 67 1 = true := by kernel_rfl
theorem info67 : ∃ i, Ybad.prog.info? 67 = some i := by
  have h : (Ybad.prog.info? 67).isSome = true := by kernel_rfl
  exact Option.isSome_iff_exists.1 h
theorem Held.from {w : World} {h : Option Addr} (hh : Held w h) : (convert 39 23 (.pointer h)).run Ybad.prog w = .ok (.pointer h) w := by
  rcases hh with rfl | ⟨hb, c, rfl, hb1, hc⟩
  · exact conv_nil_from Ybad.underlying23 w
  · exact conv_from Ybad.underlying23 hb1 hc lies67 info67
theorem Held.into {w : World} {h : Option Addr} (hh : Held w h) : (convert 23 39 (.pointer h)).run Ybad.prog w = .ok (.pointer h) w := by
  rcases hh with rfl | ⟨hb, c, rfl, hb1, hc⟩
  · exact conv_nil_to Ybad.underlying23 w
  · exact conv_to Ybad.underlying23 (by kernel_rfl) (v := c[0]) (by simp [World.cell?, hb1])
theorem Held.set {w : World} {h : Option Addr} (hh : Held w h) {sb o : Nat} {v : Value} (hne : ∀ hb, h = some ⟨hb, 0, none⟩ → hb ≠ sb) : Held (w.setCell ⟨sb, o, none⟩ v) h := by
  rcases hh with rfl | ⟨hb, c, rfl, hb1, hc⟩
  · exact Or.inl rfl
  · exact Or.inr ⟨hb, c, rfl, (Below.heap_setCell w _ v hb (hne hb rfl)).trans hb1, hc⟩

set_option maxRecDepth 100000 in
theorem load_any (sb o : Nat) (x : Option Addr) (w : World) (hc : w.cell? ⟨sb, o, none⟩ = some (.pointer x)) (hh : Held w x) :
    Calls Ybad.prog 11 #[.pointer (some ⟨sb, o, none⟩)] w fun e w' => e = .returned (.pointer x) ∧ w' = w := by
  have hl := call_loadPtr (P := Ybad.prog) Ybad.func19 (by kernel_rfl) (by kernel_rfl) (by kernel_rfl) (by kernel_rfl) hc
  have hcv := hh.from
  go_enter Ybad.func11, Ybad.ntmps11
  go_wp2
  go_ret
  exact ⟨rfl, rfl⟩

set_option maxRecDepth 100000 in
theorem store_any (sb o : Nat) (x : Option Addr) (u : Value) (w : World) (hc : w.cell? ⟨sb, o, none⟩ = some u) (hz : w.frozen? ⟨sb, o, none⟩ = false) (hh : Held w x) :
    Calls Ybad.prog 15 #[.pointer (some ⟨sb, o, none⟩), .pointer x] w fun e w' => e = .returned (.tuple #[]) ∧ w' = w.setCell ⟨sb, o, none⟩ (.pointer x) := by
  have hl := call_storePtr (P := Ybad.prog) (y := x) Ybad.func25 (by kernel_rfl) (by kernel_rfl) (by kernel_rfl) (by kernel_rfl) hc hz
  have hcv := hh.into
  go_enter Ybad.func15, Ybad.ntmps15
  go_wp2
  go_end0
  exact ⟨rfl, rfl⟩

set_option maxRecDepth 100000 in
set_option maxHeartbeats 1600000 in
theorem idle_any (sb : Nat) (h g : Option Addr) (w : World) (hne : ∀ hb, h = some ⟨hb, 0, none⟩ → hb ≠ sb) (hh : Held w h)
    (c10 : w.cell? ⟨sb, 10, none⟩ = some (.int .i32 0)) (z10 : w.frozen? ⟨sb, 10, none⟩ = false) (c12 : w.cell? ⟨sb, 12, none⟩ = some (.pointer h)) (c14 : w.cell? ⟨sb, 14, none⟩ = some (.pointer g)) :
    Calls Ybad.prog 10 #[.pointer (some ⟨sb, 0, none⟩)] w fun e w' => e = .returned (.bool (h.isNone && g.isNone)) ∧ w' = w := by
  have hbk := setCell_back c10 (.int .i32 1)
  have h0' : (w.setCell ⟨sb, 10, none⟩ (.int .i32 1)).cell? ⟨sb, 10, none⟩ = some (.int .i32 1) := World.cell?_setCell_same _ _ _ c10
  have h2' : (w.setCell ⟨sb, 10, none⟩ (.int .i32 1)).cell? ⟨sb, 12, none⟩ = some (.pointer h) := (World.cell?_setCell_other _ _ _ _ (by intro q; cases q)).trans c12
  have hz' : (w.setCell ⟨sb, 10, none⟩ (.int .i32 1)).frozen? ⟨sb, 10, none⟩ = false := by simp [z10]
  go_enter_defers Ybad.func10, Ybad.ntmps10
  go_wp2_with fail
  refine (lock_any ⟨sb, 10, none⟩ w c10 z10).mono ?_
  rintro e w1 ⟨rfl, rfl⟩
  go_wp2_with fail
  refine (load_any sb 12 h _ h2' (hh.set hne)).mono ?_
  rintro e w1 ⟨rfl, rfl⟩
  go_wp2_with fail
  all_goals
    refine leaves_cons (f := 9) (args := #[.pointer (some ⟨sb, 10, none⟩)]) (by simp) (by simp [go_sem]) ?_
    refine (unlock_deferred ⟨sb, 10, none⟩ .returning _ h0' hz').mono ?_
    rintro e u' w'' ⟨rfl, rfl, rfl⟩
    refine ⟨_, results_tmp rfl _ _ _, ?_, hbk⟩
  · rename_i hn
    simp [hn]
  · rename_i hn
    simp [hn]
end Go.Proofs.YbulkbsukDoor
