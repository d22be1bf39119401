/-
  LawS3470BStep4: longest, inR2, before.
-/
import Derived.Test.YbulkbsvmDoorSuf
namespace Go.Proofs.YbulkbsvmDoor
open Go Go.RowKit

/-- The longest of the strings that the word ends with (the first of them), or "". -/
def pickStep (rs : List Nat) (f t : ByteArray) : ByteArray := if f.size < t.size ∧ suf rs t = true then t else f
def longest (rs : List Nat) (tab : List ByteArray) : ByteArray := tab.foldl (pickStep rs) ⟨#[]⟩
theorem longest_take (rs : List Nat) (tab : List ByteArray) (i : Nat) (h : i < tab.length) : longest rs (tab.take (i + 1)) = pickStep rs (longest rs (tab.take i)) tab[i] := by
  rw [longest, List.take_succ_eq_append_getElem h, List.foldl_append]
  rfl
theorem longest_size (rs : List Nat) (b : Nat) : ∀ (tab : List ByteArray) (f : ByteArray), (∀ t ∈ tab, t.size ≤ b) → f.size ≤ b → (tab.foldl (pickStep rs) f).size ≤ b
  | [], f, _, hf => hf
  | t :: tab, f, ht, hf => by
    refine longest_size rs b tab _ (fun x hx => ht x (List.mem_cons_of_mem _ hx)) ?_
    unfold pickStep
    split
    · exact ht t List.mem_cons_self
    · exact hf

set_option maxRecDepth 100000 in
set_option maxHeartbeats 1600000 in
theorem longest_any (w : World) (wb rb cap : Nat) (rs : List Nat) (r1 r2 : Int) (h : Wd w wb rb cap rs r1 r2) (tb to tcap : Nat) (tab : List ByteArray) (htab : ∀ j (hj : j < tab.length), w.cell? ⟨tb, to + j, none⟩ = some (.string tab[j]))
    (hsz : ∀ t ∈ tab, 1 ≤ t.size ∧ t.size ≤ 10) (hlen : tab.length < 1000) :
    Calls Ybad.prog 8 #[.pointer (some ⟨wb, 0, none⟩), .slice (some ⟨tb, to, none⟩) tab.length tcap] w fun e w' => e = .returned (.string (longest rs tab)) ∧ ∃ m, w' = w.drewN m := by
  have HT := hid htab
  clear htab
  go_enter Ybad.func8, Ybad.ntmps8
  go_wp2_with fail
  go_loopw [5, 10] (fun vf vi wr => ∃ i m : Nat, vf = .string (longest rs (tab.take i)) ∧ vi = .int .i64 (i : Int) ∧ i ≤ tab.length ∧ wr = w.drewN m) (fun _ vi _ => tab.length - (intOf vi).toNat)
  case atStart => exact ⟨0, 0, rfl, rfl, Nat.zero_le _, rfl⟩
  case round =>
    obtain ⟨i, m, rfl, rfl, hi, rfl⟩ := hrel
    by_cases hlt : i < tab.length
    · have hlt' : (i : Int) < (tab.length : Int) := by omega
      have hc := HT.out i hlt
      have hz := hsz tab[i] (List.getElem_mem hlt)
      have hst := longest_take rs tab i hlt
      have hfs : (longest rs (tab.take i)).size ≤ 10 := longest_size rs 10 (tab.take i) _ (fun t ht => (hsz t (List.mem_of_mem_take ht)).2) (by decide)
      have HS := hid hst
      clear hst
      generalize hF : longest rs (tab.take i) = F at *
      generalize hT : tab[i] = T at *
      have hsf := hasSuffix_any (w.drewN m) wb rb cap rs r1 r2 (h.drew m) T (by omega) hz.1
      by_cases hg : F.size < T.size
      · have hg' : (F.size : Int) < (T.size : Int) := by omega
        go_wp2_with fail
        refine hsf.mono ?_
        rintro e w1 ⟨rfl, q, rfl⟩
        cases hb : suf rs T
        · go_wp2_with fail
          go_roundw
          case rel => exact ⟨i + 1, m + q, by rw [HS.out]; simp [pickStep, hb], by go_num, by omega, by first | rfl | exact drew_drew w m q⟩
          case measure => simp [intOf]; omega
        · go_wp2_with fail
          go_roundw
          case rel => exact ⟨i + 1, m + q, by rw [HS.out]; simp [pickStep, hb, hg], by go_num, by omega, by first | rfl | exact drew_drew w m q⟩
          case measure => simp [intOf]; omega
      · have hg' : ¬ (F.size : Int) < (T.size : Int) := by omega
        go_wp2_with fail
        go_roundw
        case rel => exact ⟨i + 1, m, by rw [HS.out]; simp [pickStep, hg], by go_num, by omega, rfl⟩
        case measure => simp [intOf]; omega
    · have hlt' : ¬ (i : Int) < (tab.length : Int) := by omega
      obtain rfl : i = tab.length := by omega
      rw [List.take_length] at *
      go_wp2_with fail
      go_ret
      exact ⟨rfl, m, rfl⟩

set_option maxRecDepth 100000 in
set_option maxHeartbeats 1600000 in
theorem inR2_any (w : World) (wb rb cap : Nat) (rs : List Nat) (r1 : Int) (r2 : Nat) (h : Wd w wb rb cap rs r1 r2) (s : ByteArray) (hs : s.size ≤ rs.length) :
    Calls Ybad.prog 9 #[.pointer (some ⟨wb, 0, none⟩), .string s] w fun e w' => e = .returned (.bool (decide (r2 ≤ rs.length - s.size))) ∧ ∃ m, w' = w.drewN m := by
  have hle := h.le
  have hbd := h.bd
  have h0 := h.c0
  have h2 := h.c2
  go_enter Ybad.func9, Ybad.ntmps9
  go_wp2_with fail
  go_quiet (fail)
  go_wp2_with fail
  go_ret
  exact ⟨by simp; omega, _, rfl⟩

/-- The rune just before the last k, or 0. -/
def before (rs : List Nat) (k : Nat) : Nat := if k < rs.length then rs.getD (rs.length - k - 1) 0 else 0

set_option maxRecDepth 100000 in
set_option maxHeartbeats 1600000 in
theorem before_any (w : World) (wb rb cap : Nat) (rs : List Nat) (r1 r2 : Int) (h : Wd w wb rb cap rs r1 r2) (s : ByteArray) (hs : s.size ≤ rs.length) :
    Calls Ybad.prog 10 #[.pointer (some ⟨wb, 0, none⟩), .string s] w fun e w' => e = .returned (.int .i32 (before rs s.size : Nat)) ∧ w' = w := by
  have hle := h.le
  have hbd := h.bd
  have h0 := h.c0
  by_cases hk : s.size < rs.length
  · have hk' : (0 : Int) ≤ (rs.length : Int) - (s.size : Int) - 1 := by omega
    have hr := h.rows (rs.length - s.size - 1) (by omega)
    rw [Nat.zero_add] at hr
    have hx : ((rs.length : Int) - (s.size : Int) - 1).toNat = rs.length - s.size - 1 := by omega
    go_enter Ybad.func10, Ybad.ntmps10
    go_wp2_with fail
    go_ret
    exact ⟨by simp [before, hk, List.getD_eq_getElem?_getD, List.getElem?_eq_getElem (show rs.length - s.size - 1 < rs.length by omega)], rfl⟩
  · have hk' : ¬ (0 : Int) ≤ (rs.length : Int) - (s.size : Int) - 1 := by omega
    go_enter Ybad.func10, Ybad.ntmps10
    go_wp2_with fail
    go_ret
    exact ⟨by simp [before, hk], rfl⟩
end Go.Proofs.YbulkbsvmDoor
