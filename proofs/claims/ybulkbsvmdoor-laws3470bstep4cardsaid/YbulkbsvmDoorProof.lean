/-
  LawS3470BStep4: THE ROW, AND THE TIED CARD (after the guide's MapyProofs.lean, ToyasCard.lean).
-/
import Derived.Test.YbulkbsvmDoorRows
import Derived.Test.YbulkbsvmDoorTie
import Derived.Test.YbulkbsvmDoorCards
import Derived.Test.YbulkbsvmDoorWalk
import Derived.ProofKit
import Derived.OpenShut
import Derived.SliceStrings
import Derived.Carry
import Derived.ChangeVars
import Derived.LaidMore
import Derived.Stop.Joined
import Derived.WalkSmall
import Derived.SevenTiedAt
namespace Go.Proofs.YbulkbsvmDoor
open Go.ChangeShapes Go.WideShapes Go.ChangeAt Go.RowKit

theorem own : ownKnob Ybad.prog.godebug = none := by kernel_rfl
theorem laidOut : laidOutB Ybad.prog = true := by kernel_rfl
theorem gT : Ybad.prog.globalNamed "example.com/rankweave/rankweave/internal/stem.step4Suffixes" = some 0 := by kernel_rfl
theorem tT : (Ybad.prog.globals[0]?).map (·.type) = some 23 := by kernel_rfl
theorem cells9 : Ybad.prog.cellsOf 9 = 1 := by kernel_rfl
abbrev laid1 : List (String × DataW Unit) := [("example.com/rankweave/rankweave/internal/stem.step4Suffixes", Rows.laid_example_com_rankweave_rankweave_internal_stem_step4Suffixes)]

/-- The door's own heap meets the condition. -/
theorem door_met (os : Os) (args : Array Value) : laidMetH Ybad.prog laid1 ((World.doorLaid Ybad.prog 34 os).forCall (fun _ _ => 0) ⟨#[], args, []⟩).memory :=
  laidMetH_of_parts3 (fuel := 8) (laidMet_of_run' 8 (by kernel_rfl) (by kernel_rfl)) (by kernel_rfl) (by kernel_rfl)

def unlit : DataW Unit → List UInt8
  | .lit (.string l) => l
  | _ => []

/-- WHAT 'laid' GIVES: the slice's header, and the eighteen strings. -/
theorem laid_gives {W : World} (hL : laidMet Ybad.prog laid1 W) : ∃ tb tq tcap, W.var? Ybad.prog "example.com/rankweave/rankweave/internal/stem.step4Suffixes" = some #[.slice (some ⟨tb, tq, none⟩) tab.length tcap] ∧
    W.cell? ⟨0, 0, none⟩ = some (.slice (some ⟨tb, tq, none⟩) tab.length tcap) ∧ ∀ j (hj : j < tab.length), W.cell? ⟨tb, tq + j, none⟩ = some (.string tab[j]) := by
  obtain ⟨ps, ⟨g0, t0, cs0, f0, p0, q0, hg0, ht0, hv0, hd0, _, _⟩, _, _⟩ := hL
  obtain rfl := Option.some.inj (gT.symm.trans hg0)
  obtain rfl := Option.some.inj (tT.symm.trans ht0)
  rcases open_strings Ybad.underlying23 Ybad.underlying9 cells9 hd0 with ⟨_, hx⟩ | ⟨a, len, cap, ss, hcs, _, hl, hm, hz, hx, hcell, hsz⟩
  · exact absurd (congrArg Prod.fst hx) (by intro q; cases q)
  · have hx1 := congrArg Prod.fst hx
    have h1 : sfxL.map (fun l => (DataW.lit (.string l) : DataW Unit)) = strs (ss.take len) := by
      injection hx1
    have h2 : ([] : List (DataW Unit)) = strs (ss.drop len) := by
      injection hx1
    have h3 : ss.drop len = [] := by simpa [strs] using h2.symm
    have h4 : ss.length ≤ len := by simpa using h3
    have h5 : len ≤ ss.length := by rw [hz]; split <;> omega
    have h6 : ss.take len = ss := List.take_of_length_le h4
    rw [h6] at h1
    have h7 : ss.map (fun s => s.data.toList) = sfxL := by
      have := congrArg (List.map unlit) h1
      simp only [strs, List.map_map] at this
      have e1 : (unlit ∘ fun l => (DataW.lit (.string l) : DataW Unit)) = id := rfl
      have e2 : (unlit ∘ fun s : ByteArray => (DataW.lit (.string s.data.toList) : DataW Unit)) = fun s => s.data.toList := rfl
      rw [e1, e2, List.map_id] at this
      exact this.symm
    have h8 : ss = tab := by
      rw [tab, ← h7, List.map_map]
      have : ∀ s ∈ ss, ((fun l : List UInt8 => (⟨l.toArray⟩ : ByteArray)) ∘ fun s : ByteArray => s.data.toList) s = s := fun s _ => ByteArray.ext (Array.ext' (by simp))
      exact ((List.map_congr_left this).trans (List.map_id' _)).symm
    subst h8
    obtain rfl : len = tab.length := by omega
    obtain ⟨b, off, spot⟩ := a
    have hc0 := hcell 0 (by decide)
    have hspot : spot = none := by simpa [Addr.add] using World.cell?_spot hc0
    subst hspot
    have hcs1 : cs0 = #[.slice (some ⟨b, off, none⟩) tab.length cap] := by
      obtain ⟨l⟩ := cs0
      simpa using hcs
    subst hcs1
    refine ⟨b, off, cap, hv0, by simpa using World.var?_cell gT hv0 0, fun j hj => ?_⟩
    have := hcell j hj
    rw [show (⟨b, off, none⟩ : Addr).add j = ⟨b, off + j, none⟩ by simp [Addr.add]] at this
    rw [this, List.getD_eq_getElem?_getD, List.getElem?_eq_getElem hj]
    rfl

/-- A slice of integers that came in: nil; or a row of 'cap' cells, the numbers 'zs'. -/
def IsRow (k : IntKind) (w : World) (a : Option Addr) (len cap : Nat) (zs : List Int) : Prop :=
  (a = none ∧ len = 0 ∧ cap = 0 ∧ zs = []) ∨
  ∃ x, a = some x ∧ len ≤ cap ∧ cap ≤ maxLen ∧ zs.length = cap ∧ (∀ i, i < zs.length → w.cell? (x.add i) = some (.int k (zs.getD i 0))) ∧ ∀ n ∈ zs, (Lit.int k n).wf = true
theorem IsRow.came {w : World} {a : Option Addr} {len cap : Nat} {zs : List Int} (h : IsRow .u8 w a len cap zs) : (zs.take len).length = len ∧ Came w a (zs.take len) ∧ ∀ n ∈ zs.take len, (Lit.int .u8 n).wf = true := by
  rcases h with ⟨rfl, rfl, rfl, rfl⟩ | ⟨x, rfl, hl, hm, hz, hcell, hwz⟩
  · exact ⟨rfl, Or.inl rfl, fun n hn => by simp at hn⟩
  · have hlen : (zs.take len).length = len := by rw [List.length_take]; omega
    refine ⟨hlen, ?_, fun n hn => hwz n (List.mem_of_mem_take hn)⟩
    by_cases h0 : len = 0
    · exact Or.inl (by rw [h0]; simp)
    · obtain ⟨b, off, spot⟩ := x
      have hc := hcell 0 (by omega)
      have hspot : spot = none := by simpa [Addr.add] using World.cell?_spot hc
      subst hspot
      refine Or.inr ⟨b, off, rfl, fun j hj => ?_⟩
      have hj' : j < zs.length := by omega
      have := hcell j hj'
      rw [List.getElem_take, show zs[j] = zs.getD j 0 by rw [List.getD_eq_getElem?_getD, List.getElem?_eq_getElem hj']; rfl]
      rw [show (⟨b, off, none⟩ : Addr).add j = ⟨b, off + j, none⟩ by simp [Addr.add]] at this
      exact this
theorem walk_all (w : World) (ao : Option Addr) (len cap : Nat) (z0 : List Int) (a1 a2 : Int) (h0 : IsRow .u8 w ao len cap z0) (w1 : (Lit.int .u8 a1).wf = true) (w2 : (Lit.int .u8 a2).wf = true)
    (tb tq tcap : Nat) (hg : w.cell? ⟨0, 0, none⟩ = some (.slice (some ⟨tb, tq, none⟩) tab.length tcap)) (htab : ∀ j (hj : j < tab.length), w.cell? ⟨tb, tq + j, none⟩ = some (.string tab[j])) :
    Calls Ybad.prog 3 #[.slice ao len cap, .int .u8 a1, .int .u8 a2] w fun e w' => e = .returned (.bool true) ∧ Below w.heap.size w w' := by
  have b1 := bounds_u8 w1
  have b2 := bounds_u8 w2
  obtain ⟨p, rfl⟩ := Int.eq_ofNat_of_zero_le b1.1
  obtain ⟨r2, rfl⟩ := Int.eq_ofNat_of_zero_le b2.1
  by_cases hn : len ≤ 1024
  · obtain ⟨l0, c0, f0⟩ := h0.came
    generalize z0.take len = zs at *
    subst l0
    exact walk w ao cap zs p r2 (by omega) (by omega) (fun z hz => by have := bounds_u8 (f0 z hz); omega) c0 hn tb tq tcap hg htab
  · exact walk_long w ao len cap _ _ (by omega)

set_option maxRecDepth 100000 in
theorem lifted (os : Os) (started : os.Started) (H : Type) (enc : TypeId × Value → H) :
    ReturnsInHanded {} Ybad.checked os 3 .any (fun w args => (Rows.lawS3470BStep4Spec.pre enc Ybad.prog Ybad.f3 [] false w args ∧ laidMetH Ybad.prog laid1 w) ∧ sizedMet enc Ybad.prog Ybad.f3 (OpenSpec.ofChange Rows.lawS3470BStep4Spec) false w args)
      (Rows.lawS3470BStep4Spec.post enc Ybad.prog Ybad.f3 false true false false) := by
  refine returnsInHanded_of_change_and (C := Ybad.checked) (X := fun w _ => laidMetH Ybad.prog laid1 w) (fun _ _ _ hh h => h.of_heap hh) own started (by kernel_rfl) Ybad.func3
    (ChangeSpec.witness_shaped (enc := enc) (C := Ybad.checked) (os := os) (X := fun w _ => laidMetH Ybad.prog laid1 w) false (World.doorLaid Ybad.prog 34 os) #[.slice none 0 0, .int .u8 0, .int .u8 0] 8 rfl (World.shaped_of_RefB (by kernel_rfl) (by kernel_rfl)) (by kernel_rfl) (by kernel_rfl) (by kernel_rfl) (door_met os _)) ?_
  intro W base args ds gs before hval0 hW _ _ hL0 _
  have hL : laidMet Ybad.prog laid1 W := hL0
  have hval : ∀ (j : Nat) t v, Ybad.f3.params[j]? = some t → args[j]? = some v → Value.okWide Ybad.prog W .any base t v := hval0
  have hW' := hW
  obtain ⟨p, q, hA0, hV0, rfl, hfz, hnd⟩ := hW
  have hA : DataW.TrodAll enc Ybad.prog W 0 (fun _ => true) true Ybad.f3.params.toList args.toList ds p := hA0
  have hV : DataW.TrodVars enc Ybad.prog W (fun _ => true) ["example.com/rankweave/rankweave/internal/stem.step4Suffixes"] gs q := hV0
  rw [Ybad.params3] at hA hval
  obtain ⟨v0, vs0, d0, ds0, p0, q0, hargs, rfl, rfl, h0, r0⟩ := trodAll_cons hA
  obtain ⟨v1, vs1, d1, ds1, p1, q1, rfl, rfl, rfl, h1, r1⟩ := trodAll_cons r0
  obtain ⟨v2, vs2, d2, ds2, p2, q2, rfl, rfl, rfl, h2, r2⟩ := trodAll_cons r1
  obtain ⟨rfl, rfl, rfl⟩ := trodAll_nil r2
  obtain rfl : args = #[v0, v1, v2] := by cases args; simp_all
  obtain ⟨tb, tq, tcap, hvT, hgT, htT⟩ := laid_gives hL
  obtain ⟨g, t, cs, fuel, dv, pv, rfl, hg0, ht0, hv0, hd0, rfl⟩ := trodVars_one hV
  obtain rfl := Option.some.inj (gT.symm.trans hg0)
  obtain rfl := Option.some.inj (tT.symm.trans ht0)
  obtain rfl := Option.some.inj (hvT.symm.trans hv0)
  have kv : DataW.Trod enc Ybad.prog W 0 (fun _ => true) true 23 (.slice (some ⟨tb, tq, none⟩) tab.length tcap) dv pv := ⟨fuel, hd0⟩
  have ltv : ∀ x ∈ pv, x.block < W.heap.size := DataW.trod_lt fuel _ _ _ hd0
  obtain ⟨a0, len, cap, rfl⟩ := okWide_slice Ybad.underlying22 (hval 0 22 v0 rfl rfl)
  have k0 := h0
  have lt0 : ∀ x ∈ p0, x.block < W.heap.size := by obtain ⟨m, hm⟩ := k0; exact DataW.trod_lt m _ _ _ hm
  obtain ⟨z0, w0⟩ : ∃ zs, IsRow .u8 W a0 len cap zs := by
    obtain ⟨fuel, hf⟩ := h0
    rcases open_ints Ybad.underlying22 Ybad.underlying5 (by kernel_rfl) hf with ⟨hcs, _⟩ | ⟨x, l, c, zs, hcs, _, hl, hm, hz, _, hcell, hwz⟩
    · simp [Value.cells] at hcs
      obtain ⟨rfl, rfl, rfl⟩ := hcs
      exact ⟨[], .inl ⟨rfl, rfl, rfl, rfl⟩⟩
    · simp [Value.cells] at hcs
      obtain ⟨rfl, rfl, rfl⟩ := hcs
      exact ⟨zs, .inr ⟨_, rfl, hl, hm, by simpa using hz, hcell, hwz⟩⟩
  obtain ⟨a1, rfl, rfl, rfl, w1⟩ := open_int Ybad.underlying5 (hval 1 5 v1 rfl rfl) h1
  obtain ⟨a2, rfl, rfl, rfl, w2⟩ := open_int Ybad.underlying5 (hval 2 5 v2 rfl rfl) h2
  clear hA0 hV0 hval0
  have h0s : 0 < W.heap.size := World.block_lt_of_cell? _ _ hgT
  refine (walk_all W a0 len cap z0 a1 a2 w0 w1 w2 tb tq tcap hgT htT).mono fun e W' ⟨he, bel⟩ => ?_
  subst he
  obtain ⟨fuel', hd'⟩ := Below.trod laidOut (by kernel_rfl) (of_decide_eq_true (by kernel_rfl)) kv bel ltv
  exact ⟨_, rfl, _, _, _, [], _, _, hW', trodAll_mk1 (shut_bool Ybad.underlying4 _), (trodAll_cons_mk (Below.trod laidOut (by kernel_rfl) (of_decide_eq_true (by kernel_rfl)) k0 bel lt0) (trodAll_cons_mk (shut_int Ybad.underlying5 w1) (trodAll_cons_mk (shut_int Ybad.underlying5 w2) trodAll_mk0))),
    trodVars_mk1 gT tT (var?_below bel gT h0s hvT) hd', bel.frame _, fun h => by cases h⟩

theorem over : Rows.LawS3470BStep4Said :=
  OpenClaim.holds_of_wide 3 Ybad.f3 rfl rfl rfl rfl rfl rfl rfl ⟨rfl, rfl, rfl, rfl, rfl⟩ rfl rfl rfl rfl rfl (by kernel_rfl) Ybad.func3 (by kernel_rfl)
    (of_decide_eq_true (by kernel_rfl)) (by unfold Func.isWrapper; first | (rw [if_pos (by decide +kernel)]; kernel_rfl) | (rw [if_neg (by decide +kernel)]; exact ⟨rfl, rfl⟩))
    (fun os started H enc _ => lifted os started H enc)

/-- ████ THE STATEMENT: THE TIED CARD ████ -/
theorem step4_proved : Rows.LawS3470BStep4CardSaid :=
  Claim7.holds_tied_plain_at .later [] [.widerDeep] true (true, "a6f1a1ad4c3f9dd1c354cc4ea9f626be174815600fb8a11e64fd4c4e516d9aea") false
    over (fun _ h => by cases h) (by kernel_rfl) (fun _ h => by cases h) lawS3470BStep4_row_tie rfl ⟨rfl, rfl⟩ (by kernel_rfl) rfl
    (fun f fn hf hfn => by
      obtain rfl : f = 3 := Option.some.inj ((show Ybad.prog.funcNamed "example.com/rankweave/rankweave/internal/stem.LawS3470BStep4" = some 3 by kernel_rfl).symm.trans hf) |>.symm
      obtain rfl : fn = Ybad.f3 := (Option.some.inj (Ybad.func3.symm.trans hfn)).symm
      exact ⟨by kernel_rfl, fun j t ht => by
        rw [Ybad.params3] at ht
        have hm : t ∈ [22, 5, 5] := by simpa using Array.mem_of_getElem? ht
        have hall : ([22, 5, 5].all fun u => !Ybad.prog.wantsStandIn u) = true := by kernel_rfl
        exact (show Ybad.prog.wantsStandIn t = false by simpa using List.all_eq_true.1 hall t hm)⟩)
    (by kernel_rfl)
#print axioms step4_proved
end Go.Proofs.YbulkbsvmDoor
