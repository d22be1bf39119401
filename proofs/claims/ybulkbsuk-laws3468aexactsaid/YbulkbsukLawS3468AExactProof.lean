/-
  LawS3468AExact: THE WALK, AND THE ROW (the frame: the shell that lay beside the statement).
-/
import Derived.Test.YbulkbsukRows
import Derived.Test.YbulkbsukLaw
import Derived.ProofKit
import Derived.OpenShut
import Derived.ShutString
import Derived.Lib.Builder
namespace Go.Proofs.Ybulkbsuk
open Go.ChangeShapes Go.WideShapes Go.ChangeAt Go.RowKit
open Go.ChangeMaps (open_string shut_string)

theorem own : ownKnob Yba.prog.godebug = none := by kernel_rfl
theorem laidOut : laidOutB Yba.prog = true := by kernel_rfl

theorem neq_self23 (x : Option Addr) (w : World) : (Go.binOp .neq 23 (.pointer x) (.pointer x)).run Yba.prog w = .ok (.bool false) w := by
  cases x with
  | none => exact run_neq_pointer_nil (P := Yba.prog) w 23 none (by kernel_rfl)
  | some a => obtain ⟨i, hi⟩ := info66; exact Lib.run_neq_ptr_same (P := Yba.prog) (w := w) a Yba.underlying23 hi
theorem info92 : ∃ i, Yba.prog.info? 92 = some i := by
  have h : (Yba.prog.info? 92).isSome = true := by kernel_rfl
  exact Option.isSome_iff_exists.1 h
theorem neq_self24 (x : Option Addr) (w : World) : (Go.binOp .neq 24 (.pointer x) (.pointer x)).run Yba.prog w = .ok (.bool false) w := by
  cases x with
  | none => exact run_neq_pointer_nil (P := Yba.prog) w 24 none (by kernel_rfl)
  | some a => obtain ⟨i, hi⟩ := info92; exact Lib.run_neq_ptr_same (P := Yba.prog) (w := w) a Yba.underlying24 hi

set_option maxRecDepth 100000 in
set_option maxHeartbeats 1600000 in
theorem walk (a0 a1 : Bool) (a2 a3 : ByteArray) (w : World) :
    Calls Yba.prog 3 #[.bool a0, .bool a1, .string a2, .string a3] w fun e w' => e = .returned (.bool true) ∧ Below w.heap.size w w' := by
  have n23 := neq_self23
  have n24 := neq_self24
  go_enter Yba.func3, Yba.ntmps3
  go_wp2_with fail
  refine (build_any a0 a1 a2 a3 w).mono ?_
  rintro e W ⟨sb, h, g, rfl, hb⟩
  obtain ⟨n, hd, st⟩ := hb.st
  obtain ⟨c10, c12, c14⟩ := sc st
  have z10 := bz (k := 10) st
  have hid := idle_any sb h g W hb.ne hb.hh c10 z10 c12 c14
  rw [hb.h0, hb.g0] at hid
  have hbk := setCell_back c10 (.int .i32 1)
  have h0' : (W.setCell ⟨sb, 10, none⟩ (.int .i32 1)).cell? ⟨sb, 10, none⟩ = some (.int .i32 1) := World.cell?_setCell_same _ _ _ c10
  have hz' : (W.setCell ⟨sb, 10, none⟩ (.int .i32 1)).frozen? ⟨sb, 10, none⟩ = false := by simp [z10]
  have hbe := hb.be
  have hld := load_any sb 12 h W c12 hb.hh
  have htl := trylock_any ⟨sb, 10, none⟩ W c10 z10
  have hul := unlock_any ⟨sb, 10, none⟩ _ h0' hz'
  rw [hbk] at hul
  clear hb hbk
  cases a0 <;> cases a1
  all_goals
    go_wp2_with fail
    refine hid.mono ?_
    rintro e w1 ⟨rfl, rfl⟩
    go_wp2_with fail
    refine hld.mono ?_
    rintro e w1 ⟨rfl, rfl⟩
    go_wp2_with fail
    refine htl.mono ?_
    rintro e w1 ⟨rfl, rfl⟩
    go_wp2_with fail
    refine hul.mono ?_
    rintro e w1 ⟨rfl, rfl⟩
    go_wp2_with fail
    refine hid.mono ?_
    rintro e w1 ⟨rfl, rfl⟩
    go_wp2_with fail
    go_ret
    exact ⟨rfl, hbe⟩

set_option maxRecDepth 100000 in
theorem lifted (os : Os) (started : os.Started) (H : Type) (enc : TypeId × Value → H) :
    ReturnsInHanded {} Yba.checked os 3 .any (Rows.lawS3468AExactSpec.pre6 enc Yba.prog Yba.f3 Rows.lawS3468AExactRow.domain false) (Rows.lawS3468AExactSpec.post enc Yba.prog Yba.f3 false true false false) := by
  refine returnsInHanded_of_change (C := Yba.checked) own started (by kernel_rfl) Yba.func3
    (ChangeSpec.witness6 (enc := enc) (C := Yba.checked) false ⟨#[], #[.bool false, .bool false, .string ByteArray.empty, .string ByteArray.empty], []⟩ 8 (by kernel_rfl) (by kernel_rfl) (by kernel_rfl) (by kernel_rfl)) ?_
  intro W base args ds gs before hval0 hW hcnd _
  have hval : ∀ (j : Nat) t v, Yba.f3.params[j]? = some t → args[j]? = some v → Value.okWide Yba.prog W .any base t v := hval0
  have hW' := hW
  obtain ⟨p, q, hA0, hV, rfl, hfz, hnd⟩ := hW
  have hA : DataW.TrodAll enc Yba.prog W 0 (fun _ => true) true Yba.f3.params.toList args.toList ds p := hA0
  rw [Yba.params3] at hA hval
  obtain ⟨v0, vs0, d0, ds0, p0, q0, hargs, rfl, rfl, h0, r0⟩ := trodAll_cons hA
  obtain ⟨v1, vs1, d1, ds1, p1, q1, rfl, rfl, rfl, h1, r1⟩ := trodAll_cons r0
  obtain ⟨v2, vs2, d2, ds2, p2, q2, rfl, rfl, rfl, h2, r2⟩ := trodAll_cons r1
  obtain ⟨v3, vs3, d3, ds3, p3, q3, rfl, rfl, rfl, h3, r3⟩ := trodAll_cons r2
  obtain ⟨rfl, rfl, rfl⟩ := trodAll_nil r3
  obtain rfl : args = #[v0, v1, v2, v3] := by cases args; simp_all
  obtain ⟨rfl, rfl⟩ := trodVars_none hV
  obtain ⟨a0, rfl, rfl, rfl⟩ := open_bool Yba.underlying4 (hval 0 4 v0 rfl rfl) h0
  obtain ⟨a1, rfl, rfl, rfl⟩ := open_bool Yba.underlying4 (hval 1 4 v1 rfl rfl) h1
  obtain ⟨a2, rfl, rfl, rfl, w2⟩ := open_string Yba.underlying9 (hval 2 9 v2 rfl rfl) h2
  obtain ⟨a3, rfl, rfl, rfl, w3⟩ := open_string Yba.underlying9 (hval 3 9 v3 rfl rfl) h3
  clear hA0 hval0
  refine (walk a0 a1 a2 a3 W).mono fun e W' ⟨he, bel⟩ => ?_
  subst he
  exact ⟨_, rfl, _, _, _, [], _, [], hW', trodAll_mk1 (shut_bool Yba.underlying4 _), (trodAll_cons_mk (shut_bool Yba.underlying4 _) (trodAll_cons_mk (shut_bool Yba.underlying4 _) (trodAll_cons_mk (shut_string Yba.underlying9 w2) (trodAll_cons_mk (shut_string Yba.underlying9 w3) trodAll_mk0)))), rfl, bel.frame _, fun h => by cases h⟩

theorem over : Rows.lawS3468AExactRow.holds Yba.pinned (OpenSpec.ofChange Rows.lawS3468AExactSpec) :=
  OpenClaim.holds_of_wide 3 Yba.f3 rfl rfl rfl rfl rfl rfl rfl ⟨rfl, rfl, rfl, rfl, rfl⟩ rfl rfl rfl rfl rfl (by kernel_rfl) Yba.func3 (by kernel_rfl)
    (of_decide_eq_true (by kernel_rfl)) (by unfold Func.isWrapper; first | (rw [if_pos (by decide +kernel)]; kernel_rfl) | (rw [if_neg (by decide +kernel)]; exact ⟨rfl, rfl⟩))
    (fun os started H enc _ => lifted os started H enc)

/-- ████ THE STATEMENT ████ -/
theorem exact_proved : Rows.LawS3468AExactSaid := over
#print axioms exact_proved
end Go.Proofs.Ybulkbsuk
