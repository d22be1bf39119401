/-
  LawS3470BStep4: zzs3470bis4, slices.Clone, slices.Equal (of two equal rows).
-/
import Derived.Test.YbulkbsvmDoorStep
import Derived.OwnWalk
import Derived.WalkSpells
import Derived.Maps.AppendAt
namespace Go.Proofs.YbulkbsvmDoor
open Go Go.RowKit

def sfxL : List (List UInt8) := [[97, 108], [97, 110, 99, 101], [101, 110, 99, 101], [101, 114], [105, 99], [97, 98, 108, 101], [105, 98, 108, 101], [97, 110, 116], [101, 109, 101, 110, 116], [109, 101, 110, 116],
  [101, 110, 116], [105, 115, 109], [97, 116, 101], [105, 116, 105], [111, 117, 115], [105, 118, 101], [105, 122, 101], [105, 111, 110]]

set_option maxRecDepth 100000 in
set_option maxHeartbeats 1600000 in
theorem is4_any (s : ByteArray) (w : World) :
    Calls Ybad.prog 6 #[.string s] w fun e w' => e = .returned (.bool (sfxL.contains s.toList)) ∧ w' = w := by
  generalize hc : sfxL.contains s.toList = c
  unfold sfxL at hc
  simp only [List.contains_cons, List.contains_nil] at hc
  have HC := hid hc
  clear hc
  go_enter Ybad.func6, Ybad.ntmps6
  go_wp2_with fail
  all_goals
    go_ret
    refine ⟨?_, rfl⟩
    rw [← HC.out]
    first | (simp [*]; done) | (simp_all; done)

set_option maxRecDepth 100000 in
set_option maxHeartbeats 1600000 in
theorem equal_same (w : World) (a b o c1 c2 : Nat) (xs : List Nat) (hx : Runes w a 0 xs) (hy : Runes w b o xs) (hl : xs.length < 1000000) :
    Calls Ybad.prog 7 #[.slice (some ⟨a, 0, none⟩) xs.length c1, .slice (some ⟨b, o, none⟩) xs.length c2] w fun e w' => e = .returned (.bool true) ∧ ∃ m, w' = w.drewN m := by
  have HX := hid hx
  have HY := hid hy
  clear hx hy
  go_enter Ybad.func7, Ybad.ntmps7
  go_wp2_with fail
  go_loopw [13] (fun vi wr => ∃ i m : Nat, vi = .int .i64 (i : Int) ∧ i ≤ xs.length ∧ wr = w.drewN m) (fun vi _ => xs.length - (intOf vi).toNat)
  case atStart => exact ⟨0, 0, rfl, Nat.zero_le _, rfl⟩
  case round =>
    obtain ⟨i, m, rfl, hi, rfl⟩ := hrel
    by_cases hlt : i < xs.length
    · have hlt' : (i : Int) < (xs.length : Int) := by omega
      have h1 := HX.out i hlt
      have h2 := HY.out i hlt
      rw [Nat.zero_add] at h1
      generalize xs[i] = x at *
      go_wp2_with fail
      go_quiet (fail)
      go_wp2_with fail
      go_roundw
      case rel => exact ⟨i + 1, m + nq, by go_num, by omega, by first | rfl | exact drew_drew w m nq⟩
      case measure => simp [intOf]; omega
    · have hlt' : ¬ (i : Int) < (xs.length : Int) := by omega
      go_wp2_with fail
      go_ret
      exact ⟨rfl, m, rfl⟩

theorem info21 : ∃ i, Ybad.prog.info? 21 = some i ∧ i.zero = some (.int .i32 0) ∧ i.size = 1 ∧ i.bytes = 4 := by
  have h : (Ybad.prog.info? 21).map (fun i => (i.zero, i.size, i.bytes)) = some (some (.int .i32 0), 1, 4) := by kernel_rfl
  obtain ⟨i, hi, he⟩ := Option.map_eq_some_iff.1 h
  simp only [Prod.mk.injEq] at he
  exact ⟨i, hi, he.1, he.2.1, he.2.2⟩
/-- The runes' cells. -/
def rc (rs : List Nat) : List Value := rs.map fun n : Nat => Value.int .i32 (n : Int)
theorem rc_length (rs : List Nat) : (rc rs).length = rs.length := by simp [rc]
/-- A row of the call's own that holds the runes. -/
def Own (w : World) (B : Nat) (v : Value) (rs : List Nat) : Prop := w.ownsRow B 21 1 v rs.length (rc rs) ∧ ∃ g cap, v = .slice (some ⟨g, 0, none⟩) rs.length cap
theorem Own.is {w : World} {B : Nat} {v : Value} {rs : List Nat} (h : Own w B v rs) : ∃ g cap, v = .slice (some ⟨g, 0, none⟩) rs.length cap ∧ B ≤ g ∧ g < w.heap.size ∧ rs.length ≤ cap ∧ Runes w g 0 rs := by
  obtain ⟨⟨_, h1⟩, g, cap, rfl⟩ := h
  rcases h1 with ⟨h1, _⟩ | ⟨g', cap', cur, hv, hB, hh, hle, _, hs, ht⟩
  · cases h1
  · cases hv
    refine ⟨g, cap, rfl, hB, ?_, hle, fun j hj => ?_⟩
    · rcases Nat.lt_or_ge g w.heap.size with h' | h'
      · exact h'
      · rw [Array.getElem?_eq_none h'] at hh; cases hh
    · have h2 : (cur.toList.take (rs.length * 1))[j]? = (rc rs)[j]? := by rw [ht]
      rw [List.getElem?_take_of_lt (by omega)] at h2
      simp only [rc, List.getElem?_map, List.getElem?_eq_getElem hj, Option.map_some] at h2
      rw [World.cell?, hh]
      simpa using h2

set_option maxRecDepth 100000 in
set_option maxHeartbeats 1600000 in
theorem clone_any (w : World) (g cap : Nat) (rs : List Nat) (hx : Runes w g 0 rs) (hg : g < w.heap.size) (hl : rs.length < 1000000) :
    Calls Ybad.prog 4 #[.slice (some ⟨g, 0, none⟩) rs.length cap] w fun e w' => ∃ v', e = .returned v' ∧ Own w' w.heap.size v' rs ∧ Below w.heap.size w w' := by
  obtain ⟨i0, hi, hz0, hz1, hz2⟩ := info21
  have hnil := fun (wz : World) => Lib.run_eql_slice_nil (P := Ybad.prog) wz 24 21 (some ⟨g, 0, none⟩) rs.length cap 0 0 Ybad.underlying24
  have hown0 : (w.alloc (.cells #[] 21)).ownsRow w.heap.size 21 1 (.slice (some ⟨w.heap.size, 0, none⟩) 0 0) 0 [] := World.ownsRow_made w #[] 0 (Nat.le_refl _) (by decide) rfl
  have hnews : ∀ j u, (rc rs)[j]? = some u → (w.alloc (.cells #[] 21)).cell? ((⟨g, 0, none⟩ : Addr).add j) = some u := fun j u hj => by
    have hjl : j < rs.length := by
      have := (List.getElem?_eq_some_iff.1 hj).1
      rwa [rc_length] at this
    simp only [rc, List.getElem?_map, List.getElem?_eq_getElem hjl, Option.map_some, Option.some.injEq] at hj
    rw [← hj, ← hx j hjl]
    have e : (⟨g, 0, none⟩ : Addr).add j = ⟨g, 0 + j, none⟩ := by
      simp [Addr.add]
      omega
    rw [e]
    exact ((Below.refl w.heap.size w).alloc (Nat.le_refl _) _).cell (p := ⟨g, 0 + j, none⟩) hg
  have hone : ∀ u ∈ rc rs, u.oneCell' = true := fun u hu => by
    obtain ⟨n, _, rfl⟩ := List.mem_map.1 hu
    rfl
  go_enter Ybad.func4, Ybad.ntmps4
  go_wp2_with (at_builtin; refine wpList_append_own _ rfl _ _ 24 rfl w.heap.size 21 i0 (.int .i32 0) 1 4 Ybad.underlying24 hi hz0 hz1 hz2 rfl (by decide) _ _ _ rfl hown0 ⟨g, 0, none⟩ rs.length cap (rc rs) rfl (by rw [rc_length, Nat.mul_one]) hnews hone ?c3 ?c4 ?c5 ?_)
  case c3 => unfold maxLen; omega
  case c4 => omega
  case c5 => simp
  intro v' w1 hown' hgrow hnn
  go_wp2_with fail
  go_ret
  refine ⟨v', rfl, ⟨hown', ?_⟩, ((Below.refl _ _).alloc (Nat.le_refl _) _).grown hgrow (by simp) (fun k hk => (hown0.lt k hk).1)⟩
  rcases hown'.2 with ⟨h1, _⟩ | ⟨g', cap', _, hv, _⟩
  · exact absurd h1 hnn
  · exact ⟨g', cap', hv⟩
end Go.Proofs.YbulkbsvmDoor
