/-
  LawS3468ACut: THE ROW, AND THE TIED CARD (after the guide's MapyProofs.lean, Sent6Proofs.lean, ToyasCard.lean).
-/
import Derived.Test.YbulkbsukDoorRows
import Derived.Test.YbulkbsukDoorTie
import Derived.Test.YbulkbsukDoorCards
import Derived.Test.YbulkbsukDoorCut
import Derived.ProofKit
import Derived.OpenShut
import Derived.ShutString
import Derived.LaidMore
import Derived.Stop.Joined
import Derived.Stop.LaidErr
import Derived.RowKitTokens
import Derived.WalkSmall
import Derived.SevenTiedAt
namespace Go.Proofs.YbulkbsukDoor
open Go.ChangeShapes Go.WideShapes Go.ChangeAt Go.RowKit
open Go.ChangeMaps (open_string shut_string)

theorem own : ownKnob Ybad.prog.godebug = none := by kernel_rfl
theorem gE : Ybad.prog.globalNamed "example.com/hoarfrost/hoarfrost/internal/node.ErrClosed" = some 0 := by kernel_rfl
theorem tE : (Ybad.prog.globals[0]?).map (·.type) = some 43 := by kernel_rfl
theorem cells154 : Ybad.prog.cellsOf 154 = 1 := by kernel_rfl
theorem cells9 : Ybad.prog.cellsOf 9 = 1 := by kernel_rfl
theorem star : "*" ++ "errors.errorString" = "*errors.errorString" := by decide
theorem row111 (u : TypeId) (h : Ybad.prog.typeName? 3 u = some "*errors.errorString") : u = 111 :=
  typeName_ptr_named (nm := "errors.errorString") (by rw [star]; kernel_rfl) (by kernel_rfl) (by decide) u (by rw [star]; exact h)
abbrev laid1 : List (String × DataW Unit) := [("example.com/hoarfrost/hoarfrost/internal/node.ErrClosed", Rows.laid_example_com_hoarfrost_hoarfrost_internal_node_ErrClosed)]

/-- The door's own heap meets the condition. -/
theorem door_met (os : Os) (args : Array Value) : laidMetH Ybad.prog laid1 ((World.doorLaid Ybad.prog 87 os).forCall (fun _ _ => 0) ⟨#[], args, []⟩).memory :=
  laidMetH_of_parts3 (fuel := 8) (laidMet_of_run' 8 (by kernel_rfl) (by kernel_rfl)) (by kernel_rfl) (by kernel_rfl)

set_option maxRecDepth 100000 in
theorem lifted (os : Os) (started : os.Started) (H : Type) (enc : TypeId × Value → H) :
    ReturnsInHanded {} Ybad.checked os 3 .any (fun w args => (Rows.lawS3468ACutSpec.pre enc Ybad.prog Ybad.f3 [] false w args ∧ laidMetH Ybad.prog laid1 w) ∧ sizedMet enc Ybad.prog Ybad.f3 (OpenSpec.ofChange Rows.lawS3468ACutSpec) false w args)
      (Rows.lawS3468ACutSpec.post enc Ybad.prog Ybad.f3 false true false false) := by
  refine returnsInHanded_of_change_and (C := Ybad.checked) (X := fun w _ => laidMetH Ybad.prog laid1 w) (fun _ _ _ hh h => h.of_heap hh) own started (by kernel_rfl) Ybad.func3
    (ChangeSpec.witness_shaped (enc := enc) (C := Ybad.checked) (os := os) (X := fun w _ => laidMetH Ybad.prog laid1 w) false (World.doorLaid Ybad.prog 87 os) #[.bool false, .bool false, .string ByteArray.empty] 8 rfl (World.shaped_of_RefB (by kernel_rfl) (by kernel_rfl)) (by kernel_rfl) (by kernel_rfl) (by kernel_rfl) (door_met os _)) ?_
  intro W base args ds gs before hval0 hW _ _ hL0 _
  have hL : laidMet Ybad.prog laid1 W := hL0
  have hval : ∀ (j : Nat) t v, Ybad.f3.params[j]? = some t → args[j]? = some v → Value.okWide Ybad.prog W .any base t v := hval0
  have hW' := hW
  obtain ⟨p, q, hA0, hV0, rfl, hfz, hnd⟩ := hW
  have hA : DataW.TrodAll enc Ybad.prog W 0 (fun _ => true) true Ybad.f3.params.toList args.toList ds p := hA0
  have hV : DataW.TrodVars enc Ybad.prog W (fun _ => true) ["example.com/hoarfrost/hoarfrost/internal/node.ErrClosed"] gs q := hV0
  rw [Ybad.params3] at hA hval
  obtain ⟨v0, vs0, d0, ds0, p0, q0, hargs, rfl, rfl, h0, r0⟩ := trodAll_cons hA
  obtain ⟨v1, vs1, d1, ds1, p1, q1, rfl, rfl, rfl, h1, r1⟩ := trodAll_cons r0
  obtain ⟨v2, vs2, d2, ds2, p2, q2, rfl, rfl, rfl, h2, r2⟩ := trodAll_cons r1
  obtain ⟨rfl, rfl, rfl⟩ := trodAll_nil r2
  obtain rfl : args = #[v0, v1, v2] := by cases args; simp_all
  obtain ⟨a, s, hvE, -, -, -⟩ := laid_sentinel hL gE tE Ybad.underlying43 row111 Ybad.underlying111 Ybad.underlying154 rfl rfl Ybad.underlying9 cells154 cells9
  have vr : ∀ {X : World}, X.var? Ybad.prog "example.com/hoarfrost/hoarfrost/internal/node.ErrClosed" = some #[.iface 111 (.pointer (some a))] → ∀ sp : Nat → Bool, DataW.TrodVars enc Ybad.prog X sp ["example.com/hoarfrost/hoarfrost/internal/node.ErrClosed"] [tok enc (.iface 111 (.pointer (some a)))] [.cell 0 0] :=
    fun x sp => vars_read1 enc gE tE Ybad.underlying43 x trivial sp
  obtain ⟨rfl, rfl⟩ := hV.unique (vr hvE _)
  obtain ⟨a0, rfl, rfl, rfl⟩ := open_bool Ybad.underlying4 (hval 0 4 v0 rfl rfl) h0
  obtain ⟨a1, rfl, rfl, rfl⟩ := open_bool Ybad.underlying4 (hval 1 4 v1 rfl rfl) h1
  obtain ⟨a2, rfl, rfl, rfl, w2⟩ := open_string Ybad.underlying9 (hval 2 9 v2 rfl rfl) h2
  clear hA0 hV0 hval0
  have hc : W.cell? ⟨0, 0, none⟩ = some (.iface 111 (.pointer (some a))) := by simpa using World.var?_cell gE hvE 0
  have h0s : 0 < W.heap.size := World.block_lt_of_cell? _ _ hc
  refine (walk a0 a1 a2 a W hc).mono fun e W' ⟨he, bel⟩ => ?_
  subst he
  exact ⟨_, rfl, _, _, _, [], _, [.cell 0 0], hW', trodAll_mk1 (shut_bool Ybad.underlying4 _), (trodAll_cons_mk (shut_bool Ybad.underlying4 _) (trodAll_cons_mk (shut_bool Ybad.underlying4 _) (trodAll_cons_mk (shut_string Ybad.underlying9 w2) trodAll_mk0))), vr (var?_below bel gE h0s hvE) _, bel.frame _, fun h => by cases h⟩

theorem over : Rows.LawS3468ACutSaid :=
  OpenClaim.holds_of_wide 3 Ybad.f3 rfl rfl rfl rfl rfl rfl rfl ⟨rfl, rfl, rfl, rfl, rfl⟩ rfl rfl rfl rfl rfl (by kernel_rfl) Ybad.func3 (by kernel_rfl)
    (of_decide_eq_true (by kernel_rfl)) (by unfold Func.isWrapper; first | (rw [if_pos (by decide +kernel)]; kernel_rfl) | (rw [if_neg (by decide +kernel)]; exact ⟨rfl, rfl⟩))
    (fun os started H enc _ => lifted os started H enc)

/-- ████ THE STATEMENT: THE TIED CARD ████ -/
theorem cut_proved : Rows.LawS3468ACutCardSaid :=
  Claim7.holds_tied_plain_at .later [] [.sentinel] true (true, "c86bb58e420e7d6acfa9c52bc36e3121e4b6dffe5a47c3ad380b2022edeb9ca5") true
    over (fun _ h => by cases h) (by kernel_rfl) (fun _ h => by cases h) lawS3468ACut_row_tie rfl ⟨rfl, rfl⟩ (by kernel_rfl) rfl
    (fun f fn hf hfn => by
      obtain rfl : f = 3 := Option.some.inj ((show Ybad.prog.funcNamed "example.com/hoarfrost/hoarfrost/internal/node.LawS3468ACut" = some 3 by kernel_rfl).symm.trans hf) |>.symm
      obtain rfl : fn = Ybad.f3 := (Option.some.inj (Ybad.func3.symm.trans hfn)).symm
      exact ⟨by kernel_rfl, fun j t ht => by
        rw [Ybad.params3] at ht
        have hm : t ∈ [4, 4, 9] := by simpa using Array.mem_of_getElem? ht
        have hall : ([4, 4, 9].all fun u => !Ybad.prog.wantsStandIn u) = true := by kernel_rfl
        exact (show Ybad.prog.wantsStandIn t = false by simpa using List.all_eq_true.1 hall t hm)⟩)
    (by kernel_rfl)
#print axioms cut_proved
end Go.Proofs.YbulkbsukDoor
