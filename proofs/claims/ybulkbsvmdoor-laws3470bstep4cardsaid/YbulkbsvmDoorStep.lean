/-
  LawS3470BStep4: replace (by ""), step4.
-/
import Derived.Test.YbulkbsvmDoorLong
namespace Go.Proofs.YbulkbsvmDoor
open Go Go.RowKit

theorem setCell_self {w : World} {a : Addr} {v : Value} (h : w.cell? a = some v) : w.setCell a v = w := by
  have e : (w.setCell a v).heap = w.heap := by
    apply Array.ext_getElem?
    intro k
    simp only [World.setCell, Array.getElem?_modify]
    by_cases hk : a.block = k
    · subst hk
      unfold World.cell? at h
      split at h
      · rename_i c e fr hb
        split at h
        · cases h
        · rename_i hs
          simp only [hb, if_true, Option.map_some]
          have hs' : a.spot.isSome = false := by simpa using hs
          simp only [hs', Bool.false_eq_true, if_false]
          congr 2
          apply Array.ext_getElem?
          intro j
          simp only [Array.getElem?_setIfInBounds]
          by_cases hj : a.off = j
          · subst hj
            have := (Array.getElem?_eq_some_iff.1 h).1
            rw [h]
            simp [this]
          · simp [hj]
      · cases h
    · simp [hk]
  cases w
  simp only [World.setCell] at e ⊢
  simp only [World.mk.injEq, and_true]
  exact e

set_option maxRecDepth 100000 in
set_option maxHeartbeats 1600000 in
theorem replace_any (w : World) (wb rb cap : Nat) (rs : List Nat) (r1 r2 : Int) (h : Wd w wb rb cap rs r1 r2) (s : ByteArray) (hs : s.size ≤ rs.length) :
    Calls Ybad.prog 11 #[.pointer (some ⟨wb, 0, none⟩), .string s, .string { data := #[] }] w fun e w' => e = .returned (.tuple #[]) ∧ ∃ m, w' = (w.setCell ⟨wb, 0, none⟩ (.slice (some ⟨rb, 0, none⟩) (rs.length - s.size) cap)).drewN m := by
  have hle := h.le
  have hbd := h.bd
  have h0 := h.c0
  have z0 := h.z0
  have hx : ((rs.length : Int) - (s.size : Int)).toNat = rs.length - s.size := by omega
  go_enter Ybad.func11, Ybad.ntmps11
  go_wp2_with fail
  go_region
  all_goals
    go_wp2_with fail
  all_goals
    go_loopw [25] (fun vi wr => vi = .int .i64 0 ∧ ∃ m, wr = (w.setCell ⟨wb, 0, none⟩ (.slice (some ⟨rb, 0, none⟩) (rs.length - s.size) cap)).drewN m) (fun _ _ => 0)
    case atStart => exact ⟨rfl, by first | exact ⟨0, rfl⟩ | exact ⟨1, rfl⟩ | exact ⟨2, rfl⟩ | exact ⟨3, rfl⟩ | exact ⟨4, rfl⟩ | exact ⟨5, rfl⟩ | exact ⟨6, rfl⟩⟩
    case round =>
      obtain ⟨rfl, m, rfl⟩ := hrel
      go_wp2_with fail
      go_end0
      exact ⟨rfl, m, rfl⟩

theorem longest_le (rs : List Nat) : ∀ (tab : List ByteArray) (f : ByteArray), f.size ≤ rs.length → (tab.foldl (pickStep rs) f).size ≤ rs.length
  | [], _, hf => hf
  | t :: tab, f, hf => by
    refine longest_le rs tab _ ?_
    unfold pickStep
    split
    · rename_i h
      have := h.2
      simp [suf] at this
      exact this.1
    · exact hf
abbrev none0 : ByteArray := { data := #[] }
abbrev ion : ByteArray := { data := #[105, 111, 110] }
/-- How many runes step4 cuts. -/
def cutOf (rs : List Nat) (reg : Nat) (L : ByteArray) : Nat :=
  if L = none0 then 0 else if rs.length - L.size < reg then 0 else if L = ion ∧ before rs L.size ≠ 115 ∧ before rs L.size ≠ 116 then 0 else L.size

set_option maxRecDepth 100000 in
set_option maxHeartbeats 1600000 in
theorem step4_any (w : World) (wb rb cap : Nat) (rs : List Nat) (r1 : Int) (reg : Nat) (h : Wd w wb rb cap rs r1 reg) (tb to tcap : Nat) (tab : List ByteArray) (hg : w.cell? ⟨0, 0, none⟩ = some (.slice (some ⟨tb, to, none⟩) tab.length tcap))
    (htab : ∀ j (hj : j < tab.length), w.cell? ⟨tb, to + j, none⟩ = some (.string tab[j])) (hsz : ∀ t ∈ tab, 1 ≤ t.size ∧ t.size ≤ 10) (hlen : tab.length < 1000) :
    Calls Ybad.prog 5 #[.pointer (some ⟨wb, 0, none⟩)] w fun e w' => e = .returned (.tuple #[]) ∧ ∃ m, w' = (w.setCell ⟨wb, 0, none⟩ (.slice (some ⟨rb, 0, none⟩) (rs.length - cutOf rs reg (longest rs tab)) cap)).drewN m := by
  have hL := longest_any w wb rb cap rs r1 reg h tb to tcap tab htab hsz hlen
  have hle := longest_le rs tab ⟨#[]⟩ (Nat.zero_le _)
  change (longest rs tab).size ≤ rs.length at hle
  clear htab
  generalize longest rs tab = L at *
  go_enter Ybad.func5, Ybad.ntmps5
  go_wp2_with fail
  refine hL.mono ?_
  rintro e w1 ⟨rfl, q, rfl⟩
  have h0 := h.c0
  have hback : w.setCell ⟨wb, 0, none⟩ (.slice (some ⟨rb, 0, none⟩) rs.length cap) = w := setCell_self h0
  have hR := inR2_any (w.drewN q) wb rb cap rs r1 reg (h.drew q) L hle
  have hB : ∀ k, Calls Ybad.prog 10 #[.pointer (some ⟨wb, 0, none⟩), .string L] (w.drewN k) fun e w' => e = .returned (.int .i32 (before rs L.size : Nat)) ∧ w' = w.drewN k :=
    fun k => before_any (w.drewN k) wb rb cap rs r1 reg (h.drew k) L hle
  have hP : ∀ k, Calls Ybad.prog 11 #[.pointer (some ⟨wb, 0, none⟩), .string L, .string { data := #[] }] (w.drewN k) fun e w' => e = .returned (.tuple #[]) ∧ ∃ m, w' = (w.setCell ⟨wb, 0, none⟩ (.slice (some ⟨rb, 0, none⟩) (rs.length - L.size) cap)).drewN m :=
    fun k => (replace_any (w.drewN k) wb rb cap rs r1 reg (h.drew k) L hle).mono fun e w' ⟨h1, m, h2⟩ => ⟨h1, k + m, h2.trans (by simp [World.drewN, World.setCell, Nat.add_assoc])⟩
  have HB := hid hback
  clear hback hL hg
  by_cases h1 : L = none0
  · go_wp2_with fail
    refine bodyPost_ret (results_none rfl _ _ _) rfl ?_
    refine ⟨rfl, q, ?_⟩
    rw [h1]
    simp only [cutOf, if_true, Nat.sub_zero, HB.out]
  · have hE : L.toList.isEmpty = false := by
      rw [ByteArray.toList_eq]
      cases hl : L.data.toList with
      | nil => exact absurd (ByteArray.ext (Array.ext' hl)) h1
      | cons _ _ => rfl
    have H1 := hid h1
    clear h1
    by_cases h2 : reg ≤ rs.length - L.size
    · have hd : decide (reg ≤ rs.length - L.size) = true := decide_eq_true h2
      rw [hd] at hR
      generalize hc : before rs L.size = c at *
      have HC := hid hc
      clear hc
      by_cases h3 : L = ion
      · subst h3
        by_cases h4 : c = 115
        · subst h4
          go_wp2_with fail
          refine hR.mono ?_
          rintro e w1 ⟨rfl, k, rfl⟩
          go_wp2_with fail
          refine (hB _).mono ?_
          rintro e w1 ⟨rfl, rfl⟩
          go_wp2_with fail
          refine (hP _).mono ?_
          rintro e w1 ⟨rfl, m, rfl⟩
          go_wp2_with fail
          go_end0
          refine ⟨rfl, m, ?_⟩
          have : cutOf rs reg ion = ion.size := by simp [cutOf, HC.out, H1.out, Nat.not_lt.2 h2]
          rw [this]
          rfl
        · by_cases h5 : c = 116
          · subst h5
            go_wp2_with fail
            refine hR.mono ?_
            rintro e w1 ⟨rfl, k, rfl⟩
            go_wp2_with fail
            refine (hB _).mono ?_
            rintro e w1 ⟨rfl, rfl⟩
            go_wp2_with fail
            refine (hP _).mono ?_
            rintro e w1 ⟨rfl, m, rfl⟩
            go_wp2_with fail
            go_end0
            refine ⟨rfl, m, ?_⟩
            have : cutOf rs reg ion = ion.size := by simp [cutOf, HC.out, H1.out, Nat.not_lt.2 h2]
            rw [this]
            rfl
          · have b4 : ((c : Int) != 115) = true := by simp; omega
            have b5 : ((c : Int) != 116) = true := by simp; omega
            go_wp2_with fail
            refine hR.mono ?_
            rintro e w1 ⟨rfl, k, rfl⟩
            go_wp2_with fail
            refine (hB _).mono ?_
            rintro e w1 ⟨rfl, rfl⟩
            go_wp2_with fail
            refine bodyPost_ret (results_none rfl _ _ _) rfl ?_
            refine ⟨rfl, q + k, ?_⟩
            have : cutOf rs reg ion = 0 := by simp [cutOf, HC.out, H1.out, Nat.not_lt.2 h2, h4, h5]
            simp only [this, Nat.sub_zero, HB.out]
      · have b3 : (L.toList == [105, 111, 110]) = false := by
          rw [ByteArray.toList_eq]
          cases hx : (L.data.toList == [105, 111, 110])
          · rfl
          · exact absurd (ByteArray.ext (Array.ext' (by simpa using hx))) h3
        have H3 := hid h3
        clear h3
        go_wp2_with fail
        refine hR.mono ?_
        rintro e w1 ⟨rfl, k, rfl⟩
        go_wp2_with fail
        refine (hB _).mono ?_
        rintro e w1 ⟨rfl, rfl⟩
        go_wp2_with fail
        refine (hP _).mono ?_
        rintro e w1 ⟨rfl, m, rfl⟩
        go_wp2_with fail
        go_end0
        refine ⟨rfl, m, ?_⟩
        have : cutOf rs reg L = L.size := by simp [cutOf, H1.out, H3.out, Nat.not_lt.2 h2]
        rw [this]
    · have hd : decide (reg ≤ rs.length - L.size) = false := decide_eq_false h2
      rw [hd] at hR
      go_wp2_with fail
      refine hR.mono ?_
      rintro e w1 ⟨rfl, k, rfl⟩
      go_wp2_with fail
      refine bodyPost_ret (results_none rfl _ _ _) rfl ?_
      refine ⟨rfl, q + k, ?_⟩
      have : cutOf rs reg L = 0 := by simp [cutOf, H1.out, Nat.not_le.1 h2]
      simp only [this, Nat.sub_zero, HB.out]
end Go.Proofs.YbulkbsvmDoor
