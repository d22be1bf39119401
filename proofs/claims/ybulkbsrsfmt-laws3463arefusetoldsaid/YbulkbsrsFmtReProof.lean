/-
  LawS3463ARefuse: THE ROW's STEP AND THE CARD.
-/
import Derived.Test.YbulkbsrsFmtRowA
import Derived.Test.YbulkbsrsFmtRe
namespace Go.Proofs.YbulkbsrsFmt
open Go.ChangeShapes Go.WideShapes Go.ChangeAt Go.RowKit Go.Kit
open Go.Extern.Stop Go.Stop Go.Extern

theorem IsRow.src {w : World} {a : Option Addr} {len cap : Nat} {zs : List Int} (h : IsRow .u8 w a len cap zs) : ∃ L : List UInt8, L.length = len ∧ Src w (.slice a len cap) L := by
  rcases h with ⟨rfl, rfl, rfl, rfl⟩ | ⟨x, rfl, hl, hm, hz, hcell, hwz⟩
  · exact ⟨[], rfl, Or.inl ⟨rfl, rfl⟩⟩
  · refine ⟨(zs.take len).map fun z => z.toNat.toUInt8, by rw [List.length_map, List.length_take]; omega, Or.inr ⟨x, cap, ?_, fun j u hj => ?_⟩⟩
    · rw [List.length_map, List.length_take, Nat.min_eq_left (by omega)]
    · unfold Lib.byteCells at hj
      rw [List.map_map, List.getElem?_map, List.getElem?_take] at hj
      split at hj
      · rename_i hlt
        have hj' : j < zs.length := by omega
        rw [List.getElem?_eq_getElem hj'] at hj
        simp only [Option.map_some, Option.some.injEq, Function.comp] at hj
        have hb := bounds_u8 (hwz zs[j] (List.getElem_mem hj'))
        rw [← hj, hcell j hj', List.getD_eq_getElem?_getD, List.getElem?_eq_getElem hj', toU8 (by omega)]
        simp
        omega
      · cases hj

theorem re_all (w : World) (a0 a1 : Int) (a2 : Option Addr) (len2 cap2 : Nat) (z2 : List Int) (aE aU aS aO : Addr) (hgl : Gl w aE aU aS aO)
    (cE cU cS : Array Value) (zE zU zS : TypeId) (hbE : w.heap[aE.block]? = some (.cells cE zE (0, 0))) (hbU : w.heap[aU.block]? = some (.cells cU zU (0, 0))) (hbS : w.heap[aS.block]? = some (.cells cS zS (0, 0)))
    (w0 : (Lit.int .u32 a0).wf = true) (w1 : (Lit.int .u8 a1).wf = true) (w2 : IsRow .u8 w a2 len2 cap2 z2) :
    Calls Ybaf.prog 5 #[.int .u32 a0, .int .u8 a1, .slice a2 len2 cap2] w fun e w' => e = .returned (.bool true) ∧ Below w.heap.size w w' := by
  have b0 := bounds_u32 w0
  have b1 := bounds_u8 w1
  obtain ⟨r, rfl⟩ := Int.eq_ofNat_of_zero_le b0.1
  obtain ⟨f, rfl⟩ := Int.eq_ofNat_of_zero_le b1.1
  by_cases hn : len2 ≤ 1024
  · obtain ⟨L, hl, hs⟩ := w2.src
    subst hl
    have h3 : 3 < w.heap.size := World.block_lt_of_cell? _ _ hgl.g3
    exact re_walk w r f a2 cap2 L hs aE aU aS aO hgl (by omega) cE cU cS zE zU zS hbE hbU hbS (by omega) (by omega) hn
  · exact re_long w r f a2 len2 cap2 hn

set_option maxRecDepth 100000 in
set_option maxHeartbeats 1000000 in
theorem re_lifted (os : Os) (started : os.Started) (H : Type) (enc : TypeId × Value → H) :
    ReturnsInTold none {} Ybaf.checked os 5 .any Input.okWide ((OpenSpec.ofChange Rows.lawS3463ARefuseSpec).preRow enc Ybaf.prog Ybaf.f5 [] false laid4) (fun F => ((OpenSpec.ofChange Rows.lawS3463ARefuseSpec).at F).post enc Ybaf.prog Ybaf.f5 false true false false) (aloneAtReturn Ybaf.prog) nothingAlways := by
  refine returnsInTold_of_row (C := Ybaf.checked) (s := OpenSpec.ofChange Rows.lawS3463ARefuseSpec) (by kernel_rfl) own started (by kernel_rfl) Ybaf.func5
    (OpenSpec.witness_stopped_atRef (enc := enc) (C := Ybaf.checked) false (World.doorLaid Ybaf.prog 85 os) #[.int .u32 0, .int .u8 0, .slice none 0 0] rfl (by kernel_rfl) (by kernel_rfl) (by kernel_rfl)
      (OpenSpec.preRow_of_B rfl 8 (by kernel_rfl) (by kernel_rfl) (door_met os _))) ?_
  intro F W base args ds gs before _ hF hval0 hW _ _ _ hL0 _
  have hL : laidMet Ybaf.prog laid4 W := hL0
  have hval : ∀ (j : Nat) t v, Ybaf.f5.params[j]? = some t → args[j]? = some v → Value.okWide Ybaf.prog W .any base t v := hval0
  have hW' := hW
  obtain ⟨p, q, hA0, hV0, rfl, hfz, hnd⟩ := hW
  have hA : DataW.TrodAll enc Ybaf.prog W 0 (fun _ => true) true Ybaf.f5.params.toList args.toList ds p := hA0
  have hV : DataW.TrodVars enc Ybaf.prog W (fun _ => true) ["example.com/assent/assent.errStopped"] gs q := hV0
  rw [Ybaf.params5] at hA hval
  obtain ⟨v0, vs0, d0, ds0, p0, q0, hargs, rfl, rfl, h0, r0⟩ := trodAll_cons hA
  obtain ⟨v1, vs1, d1, ds1, p1, q1, rfl, rfl, rfl, h1, r1⟩ := trodAll_cons r0
  obtain ⟨v2, vs2, d2, ds2, p2, q2, rfl, rfl, rfl, h2, r2⟩ := trodAll_cons r1
  obtain ⟨rfl, rfl, rfl⟩ := trodAll_nil r2
  obtain rfl : args = #[v0, v1, v2] := by cases args; simp_all
  obtain ⟨aE, aU, aS, aO, cE, cU, cS, zE, zU, zS, hgl, hne, hbE, hbU, hbS, hvS⟩ := laid_gives hL
  have vr : ∀ {X : World}, X.var? Ybaf.prog "example.com/assent/assent.errStopped" = some #[.iface 87 (.pointer (some aS))] → ∀ sp : Nat → Bool, DataW.TrodVars enc Ybaf.prog X sp ["example.com/assent/assent.errStopped"] [tok enc (.iface 87 (.pointer (some aS)))] [.cell 2 0] :=
    fun x sp => vars_read1 enc gS tS Ybaf.underlying35 x trivial sp
  obtain ⟨rfl, rfl⟩ := hV.unique (vr hvS _)
  obtain ⟨a0, rfl, rfl, rfl, w0⟩ := open_int Ybaf.underlying22 (hval 0 22 v0 rfl rfl) h0
  obtain ⟨a1, rfl, rfl, rfl, w1⟩ := open_int Ybaf.underlying5 (hval 1 5 v1 rfl rfl) h1
  obtain ⟨a2, len2, cap2, rfl⟩ := okWide_slice Ybaf.underlying25 (hval 2 25 v2 rfl rfl)
  have k2 := h2
  have lt2 : ∀ x ∈ p2, x.block < W.heap.size := by obtain ⟨m, hm⟩ := k2; exact DataW.trod_lt m _ _ _ hm
  obtain ⟨z2, w2⟩ : ∃ zs, IsRow .u8 W a2 len2 cap2 zs := by
    obtain ⟨fuel, hf⟩ := h2
    rcases open_ints Ybaf.underlying25 Ybaf.underlying5 (by kernel_rfl) hf with ⟨hcs, _⟩ | ⟨x, l, c, zs, hcs, _, hl, hm, hz, _, hcell, hwz⟩
    · simp [Value.cells] at hcs
      obtain ⟨rfl, rfl, rfl⟩ := hcs
      exact ⟨[], .inl ⟨rfl, rfl, rfl, rfl⟩⟩
    · simp [Value.cells] at hcs
      obtain ⟨rfl, rfl, rfl⟩ := hcs
      exact ⟨zs, .inr ⟨_, rfl, hl, hm, by simpa using hz, hcell, hwz⟩⟩
  clear hA0 hV0 hval0
  refine (re_all W a0 a1 a2 len2 cap2 z2 aE aU aS aO hgl cE cU cS zE zU zS hbE hbU hbS w0 w1 w2).mono fun e W' ⟨he, bel⟩ => ?_
  subst he
  have hs2 := World.block_lt_of_cell? _ _ hgl.g2
  exact ⟨_, rfl, _, _, _, [], _, [.cell 2 0], hW', trodAll_mk1 (shut_bool Ybaf.underlying4 _), (trodAll_cons_mk (shut_int Ybaf.underlying22 w0) (trodAll_cons_mk (shut_int Ybaf.underlying5 w1) (trodAll_cons_mk (Below.trod laidOut' (by kernel_rfl) (of_decide_eq_true (by kernel_rfl)) k2 bel lt2) trodAll_mk0))), vr (var?_below bel gS hs2 hvS) _, bel.frame _, fun h => by cases h⟩

/-- ████ THE STATEMENT: THE TOLD AND TIED CARD ████ -/
theorem refuse_proved : Rows.LawS3463ARefuseToldSaid :=
  Claim7.holds_of_told_tied_any_at .later 5 Ybaf.f5 "fmt.errorf" [] [] _ _ _ _ _ (by kernel_rfl) rfl rfl rfl laidOut (by kernel_rfl) rfl ⟨rfl, rfl, rfl, rfl, rfl, rfl, rfl⟩ rfl rfl (by kernel_rfl) (by kernel_rfl) Ybaf.func5 (by kernel_rfl)
    (of_decide_eq_true (by kernel_rfl)) (of_decide_eq_true (by kernel_rfl)) stops.symm rfl stopKnobs.symm (by kernel_rfl)
    (by kernel_rfl) (by kernel_rfl) (by kernel_rfl) (by kernel_rfl) (by kernel_rfl) (by kernel_rfl) (by kernel_rfl) (by kernel_rfl) (by kernel_rfl) rfl (by kernel_rfl) rfl rfl
    rfl rfl
    rfl (by kernel_rfl) (by kernel_rfl) (by kernel_rfl) (by decide) (by kernel_rfl) lawS3463ARefuse_row_tie
    (OpenClaim.moreEntering_of (by kernel_rfl) (by kernel_rfl) (by kernel_rfl) (by kernel_rfl) (by kernel_rfl) (by kernel_rfl) (by kernel_rfl) (by kernel_rfl) (by kernel_rfl) (by kernel_rfl))
    ⟨_, WideRow.started_initial, quiet _⟩
    (fun os started _ H enc _ => re_lifted os started H enc)
#print axioms refuse_proved
end Go.Proofs.YbulkbsrsFmt
