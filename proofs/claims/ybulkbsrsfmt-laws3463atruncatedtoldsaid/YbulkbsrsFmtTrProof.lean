/-
  LawS3463ATruncated: THE ROW's STEP AND THE CARD.
-/
import Derived.Test.YbulkbsrsFmtRowA
import Derived.Test.YbulkbsrsFmtTr
namespace Go.Proofs.YbulkbsrsFmt
open Go.ChangeShapes Go.WideShapes Go.ChangeAt Go.RowKit Go.Kit
open Go.Extern.Stop Go.Stop Go.Extern

theorem tr_all (w : World) (a0 a1 a2 a4 a6 : Int) (a3 a5 : Option Addr) (len3 cap3 len5 cap5 : Nat) (z3 z5 : List Int) (aE aU aS aO : Addr) (hgl : Gl w aE aU aS aO)
    (cE cU : Array Value) (zE zU : TypeId) (hne : aE ≠ aU) (hbE : w.heap[aE.block]? = some (.cells cE zE (0, 0))) (hbU : w.heap[aU.block]? = some (.cells cU zU (0, 0)))
    (w0 : (Lit.int .u32 a0).wf = true) (w1 : (Lit.int .u32 a1).wf = true) (w2 : (Lit.int .u8 a2).wf = true) (w3 : IsRow .i64 w a3 len3 cap3 z3) (w4 : (Lit.int .i64 a4).wf = true) (w5 : IsRow .u16 w a5 len5 cap5 z5) (w6 : (Lit.int .u16 a6).wf = true) :
    Calls Ybaf.prog 4 #[.int .u32 a0, .int .u32 a1, .int .u8 a2, .slice a3 len3 cap3, .int .i64 a4, .slice a5 len5 cap5, .int .u16 a6] w fun e w' => e = .returned (.bool true) ∧ Below w.heap.size w w' := by
  have b0 := bounds_u32 w0
  have b1 := bounds_u32 w1
  have b2 := bounds_u8 w2
  have b4 := bounds_i64 w4
  have b6 := bounds_u16 w6
  obtain ⟨d, rfl⟩ := Int.eq_ofNat_of_zero_le b0.1
  obtain ⟨r, rfl⟩ := Int.eq_ofNat_of_zero_le b1.1
  obtain ⟨f, rfl⟩ := Int.eq_ofNat_of_zero_le b2.1
  obtain ⟨ct, rfl⟩ := Int.eq_ofNat_of_zero_le b6.1
  by_cases hn : len3 ≤ 1024 ∧ len5 ≤ 1024
  · obtain ⟨l3, c3, f3⟩ := w3.came
    obtain ⟨l5, c5, f5⟩ := w5.came
    obtain ⟨ds, hds, hdf⟩ := nats_of f5
    rw [hds] at c5 l5
    rw [List.length_map] at l5
    generalize z3.take len3 = vs at *
    subst l3 l5
    have hs := World.block_lt_of_cell? _ _ hgl.g3
    exact tr_walk w d r f ct a3 a5 cap3 cap5 vs a4 ds aE aU aS aO hgl (by have : 3 < w.heap.size := hs; omega) cE cU zE zU hne hbE hbU (by omega) (by omega) (by omega) (by omega) hn.1 (fun v hv => bounds_i64 (f3 v hv)) b4 hn.2 hdf c3 c5
  · exact tr_long w d r f ct a3 a5 len3 len5 cap3 cap5 a4 hn

set_option maxRecDepth 100000 in
set_option maxHeartbeats 1000000 in
theorem tr_lifted (os : Os) (started : os.Started) (H : Type) (enc : TypeId × Value → H) :
    ReturnsInTold none {} Ybaf.checked os 4 .any Input.okWide ((OpenSpec.ofChange Rows.lawS3463ATruncatedSpec).preRow enc Ybaf.prog Ybaf.f4 [] false laid4) (fun F => ((OpenSpec.ofChange Rows.lawS3463ATruncatedSpec).at F).post enc Ybaf.prog Ybaf.f4 false true false false) (aloneAtReturn Ybaf.prog) nothingAlways := by
  refine returnsInTold_of_row (C := Ybaf.checked) (s := OpenSpec.ofChange Rows.lawS3463ATruncatedSpec) (by kernel_rfl) own started (by kernel_rfl) Ybaf.func4
    (OpenSpec.witness_stopped_atRef (enc := enc) (C := Ybaf.checked) false (World.doorLaid Ybaf.prog 85 os) #[.int .u32 0, .int .u32 0, .int .u8 0, .slice none 0 0, .int .i64 0, .slice none 0 0, .int .u16 0] rfl (by kernel_rfl) (by kernel_rfl) (by kernel_rfl)
      (OpenSpec.preRow_of_B rfl 8 (by kernel_rfl) (by kernel_rfl) (door_met os _))) ?_
  intro F W base args ds gs before _ hF hval0 hW _ _ _ hL0 _
  have hL : laidMet Ybaf.prog laid4 W := hL0
  have hval : ∀ (j : Nat) t v, Ybaf.f4.params[j]? = some t → args[j]? = some v → Value.okWide Ybaf.prog W .any base t v := hval0
  have hW' := hW
  obtain ⟨p, q, hA0, hV0, rfl, hfz, hnd⟩ := hW
  have hA : DataW.TrodAll enc Ybaf.prog W 0 (fun _ => true) true Ybaf.f4.params.toList args.toList ds p := hA0
  have hV : DataW.TrodVars enc Ybaf.prog W (fun _ => true) ["example.com/assent/assent.errStopped"] gs q := hV0
  rw [Ybaf.params4] at hA hval
  obtain ⟨v0, vs0, d0, ds0, p0, q0, hargs, rfl, rfl, h0, r0⟩ := trodAll_cons hA
  obtain ⟨v1, vs1, d1, ds1, p1, q1, rfl, rfl, rfl, h1, r1⟩ := trodAll_cons r0
  obtain ⟨v2, vs2, d2, ds2, p2, q2, rfl, rfl, rfl, h2, r2⟩ := trodAll_cons r1
  obtain ⟨v3, vs3, d3, ds3, p3, q3, rfl, rfl, rfl, h3, r3⟩ := trodAll_cons r2
  obtain ⟨v4, vs4, d4, ds4, p4, q4, rfl, rfl, rfl, h4, r4⟩ := trodAll_cons r3
  obtain ⟨v5, vs5, d5, ds5, p5, q5, rfl, rfl, rfl, h5, r5⟩ := trodAll_cons r4
  obtain ⟨v6, vs6, d6, ds6, p6, q6, rfl, rfl, rfl, h6, r6⟩ := trodAll_cons r5
  obtain ⟨rfl, rfl, rfl⟩ := trodAll_nil r6
  obtain rfl : args = #[v0, v1, v2, v3, v4, v5, v6] := by cases args; simp_all
  obtain ⟨aE, aU, aS, aO, cE, cU, cS, zE, zU, zS, hgl, hne, hbE, hbU, hbS, hvS⟩ := laid_gives hL
  have vr : ∀ {X : World}, X.var? Ybaf.prog "example.com/assent/assent.errStopped" = some #[.iface 87 (.pointer (some aS))] → ∀ sp : Nat → Bool, DataW.TrodVars enc Ybaf.prog X sp ["example.com/assent/assent.errStopped"] [tok enc (.iface 87 (.pointer (some aS)))] [.cell 2 0] :=
    fun x sp => vars_read1 enc gS tS Ybaf.underlying35 x trivial sp
  obtain ⟨rfl, rfl⟩ := hV.unique (vr hvS _)
  obtain ⟨a0, rfl, rfl, rfl, w0⟩ := open_int Ybaf.underlying22 (hval 0 22 v0 rfl rfl) h0
  obtain ⟨a1, rfl, rfl, rfl, w1⟩ := open_int Ybaf.underlying22 (hval 1 22 v1 rfl rfl) h1
  obtain ⟨a2, rfl, rfl, rfl, w2⟩ := open_int Ybaf.underlying5 (hval 2 5 v2 rfl rfl) h2
  obtain ⟨a3, len3, cap3, rfl⟩ := okWide_slice Ybaf.underlying23 (hval 3 23 v3 rfl rfl)
  have k3 := h3
  have lt3 : ∀ x ∈ p3, x.block < W.heap.size := by obtain ⟨m, hm⟩ := k3; exact DataW.trod_lt m _ _ _ hm
  obtain ⟨z3, w3⟩ : ∃ zs, IsRow .i64 W a3 len3 cap3 zs := by
    obtain ⟨fuel, hf⟩ := h3
    rcases open_ints Ybaf.underlying23 Ybaf.underlying2 (by kernel_rfl) hf with ⟨hcs, _⟩ | ⟨x, l, c, zs, hcs, _, hl, hm, hz, _, hcell, hwz⟩
    · simp [Value.cells] at hcs
      obtain ⟨rfl, rfl, rfl⟩ := hcs
      exact ⟨[], .inl ⟨rfl, rfl, rfl, rfl⟩⟩
    · simp [Value.cells] at hcs
      obtain ⟨rfl, rfl, rfl⟩ := hcs
      exact ⟨zs, .inr ⟨_, rfl, hl, hm, by simpa using hz, hcell, hwz⟩⟩
  obtain ⟨a4, rfl, rfl, rfl, w4⟩ := open_int Ybaf.underlying2 (hval 4 2 v4 rfl rfl) h4
  obtain ⟨a5, len5, cap5, rfl⟩ := okWide_slice Ybaf.underlying24 (hval 5 24 v5 rfl rfl)
  have k5 := h5
  have lt5 : ∀ x ∈ p5, x.block < W.heap.size := by obtain ⟨m, hm⟩ := k5; exact DataW.trod_lt m _ _ _ hm
  obtain ⟨z5, w5⟩ : ∃ zs, IsRow .u16 W a5 len5 cap5 zs := by
    obtain ⟨fuel, hf⟩ := h5
    rcases open_ints Ybaf.underlying24 Ybaf.underlying39 (by kernel_rfl) hf with ⟨hcs, _⟩ | ⟨x, l, c, zs, hcs, _, hl, hm, hz, _, hcell, hwz⟩
    · simp [Value.cells] at hcs
      obtain ⟨rfl, rfl, rfl⟩ := hcs
      exact ⟨[], .inl ⟨rfl, rfl, rfl, rfl⟩⟩
    · simp [Value.cells] at hcs
      obtain ⟨rfl, rfl, rfl⟩ := hcs
      exact ⟨zs, .inr ⟨_, rfl, hl, hm, by simpa using hz, hcell, hwz⟩⟩
  obtain ⟨a6, rfl, rfl, rfl, w6⟩ := open_int Ybaf.underlying39 (hval 6 39 v6 rfl rfl) h6
  clear hA0 hV0 hval0
  refine (tr_all W a0 a1 a2 a4 a6 a3 a5 len3 cap3 len5 cap5 z3 z5 aE aU aS aO hgl cE cU zE zU hne hbE hbU w0 w1 w2 w3 w4 w5 w6).mono fun e W' ⟨he, bel⟩ => ?_
  subst he
  have hs2 := World.block_lt_of_cell? _ _ hgl.g2
  exact ⟨_, rfl, _, _, _, [], _, [.cell 2 0], hW', trodAll_mk1 (shut_bool Ybaf.underlying4 _), (trodAll_cons_mk (shut_int Ybaf.underlying22 w0) (trodAll_cons_mk (shut_int Ybaf.underlying22 w1) (trodAll_cons_mk (shut_int Ybaf.underlying5 w2) (trodAll_cons_mk (Below.trod laidOut' (by kernel_rfl) (of_decide_eq_true (by kernel_rfl)) k3 bel lt3) (trodAll_cons_mk (shut_int Ybaf.underlying2 w4) (trodAll_cons_mk (Below.trod laidOut' (by kernel_rfl) (of_decide_eq_true (by kernel_rfl)) k5 bel lt5) (trodAll_cons_mk (shut_int Ybaf.underlying39 w6) trodAll_mk0))))))), vr (var?_below bel gS hs2 hvS) _, bel.frame _, fun h => by cases h⟩

/-- ████ THE STATEMENT: THE TOLD AND TIED CARD ████ -/
theorem truncated_proved : Rows.LawS3463ATruncatedToldSaid :=
  Claim7.holds_of_told_tied_any_at .later 4 Ybaf.f4 "fmt.errorf" [] [] _ _ _ _ _ (by kernel_rfl) rfl rfl rfl laidOut (by kernel_rfl) rfl ⟨rfl, rfl, rfl, rfl, rfl, rfl, rfl⟩ rfl rfl (by kernel_rfl) (by kernel_rfl) Ybaf.func4 (by kernel_rfl)
    (of_decide_eq_true (by kernel_rfl)) (of_decide_eq_true (by kernel_rfl)) stops.symm rfl stopKnobs.symm (by kernel_rfl)
    (by kernel_rfl) (by kernel_rfl) (by kernel_rfl) (by kernel_rfl) (by kernel_rfl) (by kernel_rfl) (by kernel_rfl) (by kernel_rfl) (by kernel_rfl) rfl (by kernel_rfl) rfl rfl
    rfl rfl
    rfl (by kernel_rfl) (by kernel_rfl) (by kernel_rfl) (by decide) (by kernel_rfl) lawS3463ATruncated_row_tie
    (OpenClaim.moreEntering_of (by kernel_rfl) (by kernel_rfl) (by kernel_rfl) (by kernel_rfl) (by kernel_rfl) (by kernel_rfl) (by kernel_rfl) (by kernel_rfl) (by kernel_rfl) (by kernel_rfl))
    ⟨_, WideRow.started_initial, quiet _⟩
    (fun os started _ H enc _ => tr_lifted os started H enc)
#print axioms truncated_proved
end Go.Proofs.YbulkbsrsFmt
