/-
  THE FRAME WRITTEN BY HAND (zzs3463aencode): the plain laws.
-/
import Derived.Test.YbulkbsrsFmtFrameA
namespace Go.Proofs.YbulkbsrsFmt
open Go

/-- The process behind the first k deltas. -/
def pv (ds : List Nat) : Nat → Nat
  | 0 => 0
  | k + 1 => pv ds k + ds.getD k 0 + 1
/-- The crashed processes. -/
def psOf (ds : List Nat) : List Nat := (List.range ds.length).map fun k => pv ds (k + 1)
theorem psOf_length (ds : List Nat) : (psOf ds).length = ds.length := by simp [psOf]
theorem psOf_get (ds : List Nat) (k : Nat) (h : k < (psOf ds).length) : (psOf ds)[k] = pv ds (k + 1) := by simp [psOf]
theorem pv_le (ds : List Nat) (hd : ∀ x ∈ ds, x < 65536) : ∀ k, pv ds k ≤ k * 65536
  | 0 => by simp [pv]
  | k + 1 => by
    have h := pv_le ds hd k
    have h2 : ds.getD k 0 < 65536 := by
      rw [List.getD_eq_getElem?_getD]
      cases hk : ds[k]? with
      | none => simp
      | some y => exact hd y (List.mem_of_getElem? hk)
    simp only [pv]
    omega
theorem pv_lt (ds : List Nat) : ∀ {a b : Nat}, a < b → pv ds a < pv ds b := by
  intro a b
  induction b with
  | zero => intro h; omega
  | succ b ih =>
    intro h
    simp only [pv]
    rcases Nat.lt_or_ge a b with h' | h'
    · have := ih h'; omega
    · obtain rfl : a = b := by omega
      omega
theorem psOf_inc (ds : List Nat) (hd : ∀ x ∈ ds, x < 65536) (hn : ds.length ≤ 65536) : Inc (psOf ds) := by
  refine ⟨List.pairwise_iff_getElem.2 fun i j hi hj hij => ?_, fun p hp => ?_⟩
  · rw [psOf_get, psOf_get]
    exact pv_lt ds (by omega)
  · obtain ⟨k, hk, rfl⟩ := List.mem_map.1 hp
    have hk' := List.mem_range.1 hk
    have h1 := pv_le ds hd (k + 1)
    have h2 := pv_lt ds (show 0 < k + 1 by omega)
    simp only [pv] at h1 h2 ⊢
    have : (k + 1) * 65536 ≤ 65536 * 65536 := Nat.mul_le_mul_right _ (by omega)
    omega

theorem encI_append : ∀ (a b : List Int), encI (a ++ b) = encI a ++ encI b
  | [], b => rfl
  | x :: a, b => by rw [List.cons_append, encI, encI, encI_append a b, List.append_assoc]
theorem encU_append : ∀ (a b : List Nat), encU (a ++ b) = encU a ++ encU b
  | [], b => rfl
  | x :: a, b => by rw [List.cons_append, encU, encU, encU_append a b, List.append_assoc]
theorem encI_take {vs : List Int} {k : Nat} (h : k < vs.length) : encI (vs.take (k + 1)) = encI (vs.take k) ++ Lib.uvarint (Lib.zigzag vs[k]) := by
  rw [List.take_succ_eq_append_getElem h, encI_append, encI, encI, List.append_nil]
theorem encU_take {ps : List Nat} {k : Nat} (h : k < ps.length) : encU (ps.take (k + 1)) = encU (ps.take k) ++ Lib.uvarint ps[k] := by
  rw [List.take_succ_eq_append_getElem h, encU_append, encU, encU, List.append_nil]
theorem encI_len : ∀ (vs : List Int), (∀ v ∈ vs, Fits v) → (encI vs).length ≤ 10 * vs.length
  | [], _ => by simp [encI]
  | v :: vs, h => by
    have h1 := encI_len vs fun u hu => h u (List.mem_cons_of_mem _ hu)
    have h2 := h v (List.mem_cons_self ..)
    have h3 := Lib.uvarint_length64 (zigzag_lt v h2.1 h2.2)
    rw [encI, List.length_append, List.length_cons]
    omega
theorem encU_len : ∀ (ps : List Nat), (∀ p ∈ ps, p < 18446744073709551616) → (encU ps).length ≤ 10 * ps.length
  | [], _ => by simp [encU]
  | p :: ps, h => by
    have h1 := encU_len ps fun u hu => h u (List.mem_cons_of_mem _ hu)
    have h3 := Lib.uvarint_length64 (h p (List.mem_cons_self ..))
    rw [encU, List.length_append, List.length_cons]
    omega
end Go.Proofs.YbulkbsrsFmt
