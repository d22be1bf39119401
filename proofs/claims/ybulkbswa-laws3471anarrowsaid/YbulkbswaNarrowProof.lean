/-
  LawS3471ANarrow: THE ROW (the frame: the shell that lay beside the sister statement; the slice of structs: the kit's SlicePairs).
-/
import Derived.Test.YbulkbswaRows
import Derived.Test.YbulkbswaNarrow
import Derived.ProofKit
import Derived.OpenShut
import Derived.Carry
import Derived.Deep.SlicePairs
namespace Go.Proofs.Ybulkbswa
open Go.ChangeShapes Go.WideShapes Go.ChangeAt Go.RowKit

theorem narrow_own : ownKnob Yba.prog.godebug = none := by kernel_rfl
theorem narrow_laidOut : laidOutB Yba.prog = true := by kernel_rfl
theorem narrow_cells41 : Yba.prog.cellsOf 41 = 2 := by kernel_rfl
theorem narrow_cells22 : Yba.prog.cellsOf 22 = 1 := by kernel_rfl

theorem narrow_mod {x : Int} (h : (Lit.int .u32 x).wf = true) : 0 ≤ x ∧ ∃ k : Nat, x % 256 = (k : Int) ∧ k < 256 := by
  have := bounds_u32 h
  exact ⟨this.1, (x % 256).toNat, by omega, by omega⟩

/-- WHAT CAME IN: the questions, read out of the slice of structs. -/
theorem open_qs {H : Type} {enc : TypeId × Value → H} {W : World} {base : Nat} {spare : Nat → Bool} {held : Bool} {a0 : Option Addr} {len cap : Nat} {d : DataW H} {p : List MemPlace}
    (h : DataW.Trod enc Yba.prog W base spare held 37 (.slice a0 len cap) d p) : ∃ qs : List (Int × Int), qs.length = len ∧ CameQ W a0 qs ∧ ∀ x ∈ qs, 0 ≤ x.1 ∧ 0 ≤ x.2 := by
  obtain ⟨fuel, hf⟩ := h
  rcases Go.Deep.open_slice_pairs Yba.underlying37 Yba.underlying41 narrow_cells41 rfl rfl narrow_cells22 narrow_cells22 hf with ⟨hcs, _⟩ | ⟨a, l, c, m, n, V0, V1, D0, D1, P0, P1, hcs, _, hl, hm, hmm, _, hx⟩
  · simp [Value.cells] at hcs
    obtain ⟨rfl, rfl, rfl⟩ := hcs
    exact ⟨[], rfl, .inl rfl, fun x hx => by simp at hx⟩
  · simp [Value.cells] at hcs
    obtain ⟨rfl, rfl, rfl⟩ := hcs
    have hlm : len ≤ m := by rw [hmm]; split <;> omega
    have hv : ∀ i, i < len → ∃ x y, V0 i = .int .u32 x ∧ V1 i = .int .u32 y ∧ 0 ≤ x ∧ 0 ≤ y := fun i hi => by
      obtain ⟨_, _, t0, t1⟩ := hx i (by omega)
      obtain ⟨x, e0, _, w0⟩ := DataW.trod_int (k := .u32) Yba.underlying22 t0
      obtain ⟨y, e1, _, w1⟩ := DataW.trod_int (k := .u32) Yba.underlying22 t1
      simp at e0 e1
      exact ⟨x, y, e0, e1, (bounds_u32 w0).1, (bounds_u32 w1).1⟩
    refine ⟨(List.range len).map fun i => (intOf (V0 i), intOf (V1 i)), by simp, ?_, fun x hx' => ?_⟩
    · by_cases h0 : len = 0
      · exact .inl (by rw [h0]; rfl)
      · obtain ⟨b, off, spot⟩ := a
        have hspot : spot = none := by simpa [Addr.add] using World.cell?_spot (hx 0 (by omega)).1
        subst hspot
        refine .inr ⟨b, off, rfl, fun j hj => ?_⟩
        have hj' : j < len := by simpa using hj
        obtain ⟨c0, c1, _, _⟩ := hx j (by omega)
        obtain ⟨x, y, e0, e1, _, _⟩ := hv j hj'
        rw [e0] at c0
        rw [e1] at c1
        simp only [List.getElem_map, List.getElem_range, e0, e1, intOf]
        have ea : ∀ k, (⟨b, off, none⟩ : Addr).add k = ⟨b, off + k, none⟩ := fun k => by simp [Addr.add]
        rw [ea] at c0 c1
        exact ⟨c0, c1⟩
    · obtain ⟨i, hi, rfl⟩ := List.mem_map.1 hx'
      obtain ⟨x, y, e0, e1, h0, h1⟩ := hv i (List.mem_range.1 hi)
      simp only [e0, e1, intOf]
      exact ⟨h0, h1⟩

theorem narrow_all (w : World) (ao : Option Addr) (len cap : Nat) (qs : List (Int × Int)) (a1 a2 a3 a4 : Int) (hl : qs.length = len) (hQ : CameQ w ao qs) (hqs : ∀ x ∈ qs, 0 ≤ x.1 ∧ 0 ≤ x.2)
    (w1 : (Lit.int .u32 a1).wf = true) (w2 : (Lit.int .u32 a2).wf = true) (w3 : (Lit.int .u32 a3).wf = true) (w4 : (Lit.int .u32 a4).wf = true) :
    Calls Yba.prog 4 #[.slice ao len cap, .int .u32 a1, .int .u32 a2, .int .u32 a3, .int .u32 a4] w fun e w' => e = .returned (.bool true) ∧ Below w.heap.size w w' := by
  obtain ⟨hp0, a, hp, ha⟩ := narrow_mod w1
  obtain ⟨hq0, b, hq, hb⟩ := narrow_mod w2
  obtain ⟨hr0, c, hr, hc⟩ := narrow_mod w3
  obtain ⟨hs0, d, hs, hd⟩ := narrow_mod w4
  subst hl
  by_cases hn : qs.length ≤ 1024
  · exact narrow_walk w ao cap qs a1 a2 a3 a4 a b c d hp0 hq0 hr0 hs0 hp hq hr hs ha hb hc hd hn hQ hqs
  · exact narrow_long w ao qs.length cap a1 a2 a3 a4 (by omega)

set_option maxRecDepth 100000 in
theorem narrow_lifted (os : Os) (started : os.Started) (H : Type) (enc : TypeId × Value → H) :
    ReturnsInHanded {} Yba.checked os 4 .any (Rows.lawS3471ANarrowSpec.pre6 enc Yba.prog Yba.f4 Rows.lawS3471ANarrowRow.domain false) (Rows.lawS3471ANarrowSpec.post enc Yba.prog Yba.f4 false true false false) := by
  refine returnsInHanded_of_change (C := Yba.checked) narrow_own started (by kernel_rfl) Yba.func4
    (ChangeSpec.witness6 (enc := enc) (C := Yba.checked) false ⟨#[], #[.slice .none 0 0, .int .u32 0, .int .u32 0, .int .u32 0, .int .u32 0], []⟩ 8 (by kernel_rfl) (by kernel_rfl) (by kernel_rfl) (by kernel_rfl)) ?_
  intro W base args ds gs before hval0 hW hcnd _
  have hval : ∀ (j : Nat) t v, Yba.f4.params[j]? = some t → args[j]? = some v → Value.okWide Yba.prog W .any base t v := hval0
  have hW' := hW
  obtain ⟨p, q, hA0, hV, rfl, hfz, hnd⟩ := hW
  have hA : DataW.TrodAll enc Yba.prog W 0 (fun _ => true) true Yba.f4.params.toList args.toList ds p := hA0
  rw [Yba.params4] at hA hval
  obtain ⟨v0, vs0, d0, ds0, p0, q0, hargs, rfl, rfl, h0, r0⟩ := trodAll_cons hA
  obtain ⟨v1, vs1, d1, ds1, p1, q1, rfl, rfl, rfl, h1, r1⟩ := trodAll_cons r0
  obtain ⟨v2, vs2, d2, ds2, p2, q2, rfl, rfl, rfl, h2, r2⟩ := trodAll_cons r1
  obtain ⟨v3, vs3, d3, ds3, p3, q3, rfl, rfl, rfl, h3, r3⟩ := trodAll_cons r2
  obtain ⟨v4, vs4, d4, ds4, p4, q4, rfl, rfl, rfl, h4, r4⟩ := trodAll_cons r3
  obtain ⟨rfl, rfl, rfl⟩ := trodAll_nil r4
  obtain rfl : args = #[v0, v1, v2, v3, v4] := by cases args; simp_all
  obtain ⟨rfl, rfl⟩ := trodVars_none hV
  obtain ⟨a0, len, cap, rfl⟩ := okWide_slice Yba.underlying37 (hval 0 37 v0 rfl rfl)
  have k0 := h0
  have lt0 : ∀ x ∈ p0, x.block < W.heap.size := by obtain ⟨m, hm⟩ := k0; exact DataW.trod_lt m _ _ _ hm
  obtain ⟨qs, hl, hQ, hqs⟩ := open_qs h0
  obtain ⟨a1, rfl, rfl, rfl, w1⟩ := open_int Yba.underlying22 (hval 1 22 v1 rfl rfl) h1
  obtain ⟨a2, rfl, rfl, rfl, w2⟩ := open_int Yba.underlying22 (hval 2 22 v2 rfl rfl) h2
  obtain ⟨a3, rfl, rfl, rfl, w3⟩ := open_int Yba.underlying22 (hval 3 22 v3 rfl rfl) h3
  obtain ⟨a4, rfl, rfl, rfl, w4⟩ := open_int Yba.underlying22 (hval 4 22 v4 rfl rfl) h4
  clear hA0 hval0
  refine (narrow_all W a0 len cap qs a1 a2 a3 a4 hl hQ hqs w1 w2 w3 w4).mono fun e W' ⟨he, bel⟩ => ?_
  subst he
  exact ⟨_, rfl, _, _, _, [], _, [], hW', trodAll_mk1 (shut_bool Yba.underlying4 _), (trodAll_cons_mk (Below.trod narrow_laidOut (by kernel_rfl) (of_decide_eq_true (by kernel_rfl)) k0 bel lt0) (trodAll_cons_mk (shut_int Yba.underlying22 w1) (trodAll_cons_mk (shut_int Yba.underlying22 w2) (trodAll_cons_mk (shut_int Yba.underlying22 w3) (trodAll_cons_mk (shut_int Yba.underlying22 w4) trodAll_mk0))))), rfl, bel.frame _, fun h => by cases h⟩

theorem narrow_over : Rows.lawS3471ANarrowRow.holds Yba.pinned (OpenSpec.ofChange Rows.lawS3471ANarrowSpec) :=
  OpenClaim.holds_of_wide 4 Yba.f4 rfl rfl rfl rfl rfl rfl rfl ⟨rfl, rfl, rfl, rfl, rfl⟩ rfl rfl rfl rfl rfl (by kernel_rfl) Yba.func4 (by kernel_rfl)
    (of_decide_eq_true (by kernel_rfl)) (by unfold Func.isWrapper; first | (rw [if_pos (by decide +kernel)]; kernel_rfl) | (rw [if_neg (by decide +kernel)]; exact ⟨rfl, rfl⟩))
    (fun os started H enc _ => narrow_lifted os started H enc)

/-- ████ THE STATEMENT ████ -/
theorem narrow_proved : Rows.LawS3471ANarrowSaid :=
  narrow_over
#print axioms narrow_proved
end Go.Proofs.Ybulkbswa
