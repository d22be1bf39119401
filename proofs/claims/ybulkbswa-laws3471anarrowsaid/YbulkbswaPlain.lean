/-
  LawS3471ANarrow: AllSpans; THE PLAIN LAW: narrowing keeps s, and what is held answers alike.
-/
import Derived.Test.YbulkbswaHolds
namespace Go.Proofs.Ybulkbswa
open Go Go.RowKit

set_option maxRecDepth 100000 in
theorem allSpans_any (w : World) :
    Calls Yba.prog 8 #[] w fun e w' => e = .returned (.agg (setC (-9223372036854775808) 9223372036854775807 (-9223372036854775808) 9223372036854775807)) ∧ Below w.heap.size w w' := by
  go_enter Yba.func8, Yba.ntmps8
  go_wp2_with fail
  have h3 : (w.alloc (.cells (setC (-9223372036854775808) 9223372036854775807 (-9223372036854775808) 9223372036854775807) 34)).heap[w.heap.size]? = some (.cells (setC (-9223372036854775808) 9223372036854775807 (-9223372036854775808) 9223372036854775807) 34 (0, 0)) := heap_alloc_new w _
  have b3 : Below w.heap.size w (w.alloc (.cells (setC (-9223372036854775808) 9223372036854775807 (-9223372036854775808) 9223372036854775807) 34)) := (Below.refl _ _).alloc (Nat.le_refl _) _
  generalize w.alloc (.cells (setC (-9223372036854775808) 9223372036854775807 (-9223372036854775808) 9223372036854775807) 34) = U at h3 b3 ⊢
  have t0 : U.cell? ⟨w.heap.size, 0, none⟩ = some (.int .i64 (-9223372036854775808)) := bc h3 (by show 0 < 4; decide)
  have t1 : U.cell? ⟨w.heap.size, 1, none⟩ = some (.int .i64 9223372036854775807) := bc h3 (by show 1 < 4; decide)
  have t2 : U.cell? ⟨w.heap.size, 2, none⟩ = some (.int .i64 (-9223372036854775808)) := bc h3 (by show 2 < 4; decide)
  have t3 : U.cell? ⟨w.heap.size, 3, none⟩ = some (.int .i64 9223372036854775807) := bc h3 (by show 3 < 4; decide)
  refine bodyPost_ret (v := .agg (setC (-9223372036854775808) 9223372036854775807 (-9223372036854775808) 9223372036854775807)) (by simp [results, Yba.results8, go_sem, t0, t1, t2, t3]) rfl ?_
  exact ⟨rfl, b3⟩

/-- The four bounds. -/
structure Bd where
  fa : Int
  fu : Int
  tf : Int
  tb : Int
/-- The span A..B is held. -/
def Bd.has (z : Bd) (A B : Int) : Prop := z.fa < A ∧ A ≤ z.fu ∧ z.tf ≤ B ∧ B < z.tb
/-- The days f..t meet the span A..B. -/
def meet (f t A B : Int) : Bool := decide (f ≤ B) && decide (A ≤ t)
/-- Narrowed by the question f..t asked of A..B. -/
def Bd.step (z : Bd) (f t A B : Int) : Bd :=
  if f ≤ B then (if A ≤ t then ⟨z.fa, min z.fu t, max z.tf f, z.tb⟩ else ⟨max z.fa t, z.fu, z.tf, z.tb⟩) else ⟨z.fa, z.fu, z.tf, min z.tb f⟩
theorem Bd.step_has {z : Bd} {f t A B : Int} (h : z.has A B) : (z.step f t A B).has A B := by
  unfold Bd.has Bd.step at *
  repeat' split
  all_goals (simp only; omega)
theorem Bd.step_sub {z : Bd} {f t A B C D : Int} (h : (z.step f t A B).has C D) : z.has C D := by
  unfold Bd.has Bd.step at *
  repeat' split at h
  all_goals (simp only at h; omega)
theorem Bd.step_meet {z : Bd} {f t A B C D : Int} (h : (z.step f t A B).has C D) : meet f t C D = meet f t A B := by
  unfold Bd.has Bd.step at h
  unfold meet
  repeat' split at h
  all_goals
    simp only at h
    rw [Bool.eq_iff_iff]
    simp only [Bool.and_eq_true, decide_eq_true_eq]
    omega
end Go.Proofs.Ybulkbswa
