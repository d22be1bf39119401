/-
  LawS3470BStep4: THE PLAIN LAW: the first hit of the law's own search (k = 5 .. 2) is what longest finds.
-/
import Derived.Test.YbulkbsvmDoorLib
namespace Go.Proofs.YbulkbsvmDoor
open Go

def tab : List ByteArray := sfxL.map fun l => ⟨l.toArray⟩
/-- The last k runes, as bytes. -/
def tail (rs : List Nat) (k : Nat) : List UInt8 := (rs.drop (rs.length - k)).map Nat.toUInt8
theorem tab_mem {t : ByteArray} : t ∈ tab ↔ t.toList ∈ sfxL := by
  rw [tab, List.mem_map, ByteArray.toList_eq]
  constructor
  · rintro ⟨l, hl, rfl⟩
    simpa using hl
  · intro h
    exact ⟨_, h, ByteArray.ext (Array.ext' (by simp))⟩
theorem tab_size : ∀ t ∈ tab, 2 ≤ t.size ∧ t.size ≤ 5 := by
  intro t ht
  have h : (sfxL.all fun l => decide (2 ≤ l.length) && decide (l.length ≤ 5)) = true := by decide
  have h2 := List.all_eq_true.1 h _ (tab_mem.1 ht)
  rw [ByteArray.toList_eq] at h2
  simp only [Bool.and_eq_true, decide_eq_true_eq, Array.length_toList] at h2
  exact h2
theorem toU8_nat {x : Nat} (h : x < 128) : (x.toUInt8).toNat = x := by
  rw [Nat.toUInt8, UInt8.toNat_ofNat']
  omega
theorem nums_tail {rs : List Nat} (ha : ∀ x ∈ rs, x < 128) (k : Nat) : nums ⟨(tail rs k).toArray⟩ = rs.drop (rs.length - k) := by
  simp only [nums, tail, List.map_map]
  have : ∀ x ∈ rs.drop (rs.length - k), (UInt8.toNat ∘ Nat.toUInt8) x = x := fun x hx => toU8_nat (ha x (List.mem_of_mem_drop hx))
  exact (List.map_congr_left this).trans (List.map_id' _)
theorem tail_length {rs : List Nat} {k : Nat} (hk : k ≤ rs.length) : (tail rs k).length = k := by
  simp only [tail, List.length_map, List.length_drop]
  omega
/-- A string that the word ends with is the word's last bytes. -/
theorem suf_tail {rs : List Nat} {t : ByteArray} (h : suf rs t = true) : t.size ≤ rs.length ∧ t.toList = tail rs t.size := by
  simp only [suf, Bool.and_eq_true, decide_eq_true_eq] at h
  refine ⟨h.1, ?_⟩
  rw [tail, h.2, ByteArray.toList_eq, nums, List.map_map]
  have : ∀ x ∈ t.data.toList, (Nat.toUInt8 ∘ UInt8.toNat) x = x := fun x _ => by simp [Nat.toUInt8]
  exact ((List.map_congr_left this).trans (List.map_id' _)).symm
theorem suf_of_tail {rs : List Nat} (ha : ∀ x ∈ rs, x < 128) {k : Nat} (hk : k ≤ rs.length) : suf rs ⟨(tail rs k).toArray⟩ = true := by
  have hs : (⟨(tail rs k).toArray⟩ : ByteArray).size = k := by
    show (tail rs k).toArray.size = k
    rw [List.size_toArray, tail_length hk]
  simp only [suf, hs, nums_tail ha, Bool.and_eq_true, decide_eq_true_eq]
  exact ⟨hk, trivial⟩

theorem longest_is (rs : List Nat) : ∀ (l : List ByteArray) (f : ByteArray), (f = none0 ∨ (f ∈ tab ∧ suf rs f = true)) → (∀ t ∈ l, t ∈ tab) →
    (l.foldl (pickStep rs) f = none0 ∨ (l.foldl (pickStep rs) f ∈ tab ∧ suf rs (l.foldl (pickStep rs) f) = true)) ∧ f.size ≤ (l.foldl (pickStep rs) f).size ∧ ∀ t ∈ l, suf rs t = true → t.size ≤ (l.foldl (pickStep rs) f).size
  | [], f, hf, _ => ⟨hf, Nat.le_refl _, fun t ht => by cases ht⟩
  | t :: l, f, hf, hl => by
    have hstep : (pickStep rs f t = none0 ∨ (pickStep rs f t ∈ tab ∧ suf rs (pickStep rs f t) = true)) ∧ f.size ≤ (pickStep rs f t).size ∧ (suf rs t = true → t.size ≤ (pickStep rs f t).size) := by
      unfold pickStep
      split
      · rename_i h
        exact ⟨Or.inr ⟨hl t List.mem_cons_self, h.2⟩, Nat.le_of_lt h.1, fun _ => Nat.le_refl _⟩
      · rename_i h
        refine ⟨hf, Nat.le_refl _, fun hs => ?_⟩
        exact Nat.not_lt.1 fun hlt => h ⟨hlt, hs⟩
    obtain ⟨h1, h2, h3⟩ := longest_is rs l (pickStep rs f t) hstep.1 (fun x hx => hl x (List.mem_cons_of_mem _ hx))
    refine ⟨h1, Nat.le_trans hstep.2.1 h2, fun x hx hs => ?_⟩
    rcases List.mem_cons.1 hx with rfl | hx
    · exact Nat.le_trans (hstep.2.2 hs) h2
    · exact h3 x hx hs
theorem longest_tab (rs : List Nat) : (longest rs tab = none0 ∨ (longest rs tab ∈ tab ∧ suf rs (longest rs tab) = true)) ∧ ∀ t ∈ tab, suf rs t = true → t.size ≤ (longest rs tab).size :=
  have h := longest_is rs tab ⟨#[]⟩ (Or.inl rfl) (fun _ h => h)
  ⟨h.1, h.2.2⟩

/-- What the law's search asks at k. -/
def hit (rs : List Nat) (k : Nat) : Bool := decide (k ≤ rs.length) && sfxL.contains (tail rs k)
theorem hit_of_longest {rs : List Nat} (h : longest rs tab ≠ none0) : hit rs (longest rs tab).size = true ∧ 2 ≤ (longest rs tab).size ∧ (longest rs tab).size ≤ 5 ∧ (longest rs tab).toList = tail rs (longest rs tab).size := by
  rcases (longest_tab rs).1 with h1 | ⟨h1, h2⟩
  · exact absurd h1 h
  · have h3 := suf_tail h2
    have h4 := tab_size _ h1
    have h5 := tab_mem.1 h1
    refine ⟨?_, h4.1, h4.2, h3.2⟩
    rw [h3.2] at h5
    simp [hit, h3.1, h5]
theorem found_hit {rs : List Nat} (ha : ∀ x ∈ rs, x < 128) {k : Nat} (hk : 1 ≤ k) (hh : hit rs k = true) (hno : ∀ j, k < j → j ≤ 5 → hit rs j = false) : (longest rs tab).size = k ∧ (longest rs tab).toList = tail rs k := by
  simp only [hit, Bool.and_eq_true, decide_eq_true_eq, List.contains_iff_mem] at hh
  have hm : (⟨(tail rs k).toArray⟩ : ByteArray) ∈ tab := tab_mem.2 (by rw [ByteArray.toList_eq]; simpa using hh.2)
  have h1 := (longest_tab rs).2 _ hm (suf_of_tail ha hh.1)
  have hs : (⟨(tail rs k).toArray⟩ : ByteArray).size = k := by
    show (tail rs k).toArray.size = k
    rw [List.size_toArray, tail_length hh.1]
  rw [hs] at h1
  have hn : longest rs tab ≠ none0 := fun e => by
    rw [e] at h1
    have : (none0 : ByteArray).size = 0 := rfl
    omega
  obtain ⟨h2, h3, h4, h5⟩ := hit_of_longest hn
  have : (longest rs tab).size = k := by
    rcases Nat.lt_or_ge k (longest rs tab).size with h' | h'
    · rw [hno _ h' h4] at h2; cases h2
    · omega
  exact ⟨this, by rw [h5, this]⟩
theorem found_none {rs : List Nat} (hno : ∀ j, 1 < j → j ≤ 5 → hit rs j = false) : longest rs tab = none0 := by
  by_cases hn : longest rs tab = none0
  · exact hn
  · obtain ⟨h2, h3, h4, h5⟩ := hit_of_longest hn
    rw [hno _ h3 h4] at h2
    cases h2

/-- 'string(runes)' of runes below 128. -/
theorem encode_ascii {n : Nat} (h : n < 128) : Utf8.encode (n : Int) = ⟨#[n.toUInt8]⟩ := by
  have hv : Utf8.valid (n : Int) = true := by
    simp [Utf8.valid]
    omega
  simp only [Utf8.encode, hv, if_true, Int.toNat_natCast]
  rw [if_pos h]
theorem runesBytes_ascii : ∀ (l : List Nat), (∀ x ∈ l, x < 128) → ∀ (acc : ByteArray), ((l.map fun n : Nat => (n : Int)).foldl (fun r n => r ++ Utf8.encode n) acc).data.toList = acc.data.toList ++ l.map Nat.toUInt8
  | [], _, acc => by simp
  | x :: l, hx, acc => by
    simp only [List.map_cons, List.foldl_cons]
    rw [runesBytes_ascii l (fun y hy => hx y (List.mem_cons_of_mem _ hy)), encode_ascii (hx x List.mem_cons_self)]
    simp
theorem string_tail {rs : List Nat} (ha : ∀ x ∈ rs, x < 128) (k : Nat) : (runesBytes ((rs.drop (rs.length - k)).map fun n : Nat => (n : Int))).toList = tail rs k := by
  rw [ByteArray.toList_eq, runesBytes, runesBytes_ascii _ (fun x hx => ha x (List.mem_of_mem_drop hx))]
  rfl
end Go.Proofs.YbulkbsvmDoor
