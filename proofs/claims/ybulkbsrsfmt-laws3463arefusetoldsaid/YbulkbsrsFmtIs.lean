/-
  errors.Is OVER SENTINELS OF errors.New's MAKE (turned to this program after the guide's SentryIs.lean).
-/
import Derived.Test.YbulkbsrsFmtUv
import Derived.Test.YbulkbsrsFmtChecked
import Derived.Stop.Asserts
import Derived.RowKitTokens
namespace Go.Proofs.YbulkbsrsFmt
open Go.RowKit Go.Extern.Stop Go.Stop Go.Extern

theorem isTypeOf (v : Value) (w : World) : (Extern.ReflectliteType.typeOf #[.iface 87 v]).run Ybaf.prog w = .ok (.iface 77 (.agg #[.pointer (some ⟨4, 87, none⟩)])) w := by kernel_rfl
theorem callComparable (w : World) : (callFunc 45 #[.agg #[.pointer (some ⟨4, 87, none⟩)]]).run Ybaf.prog w = .ok (.value (.bool true)) w := by
  have h := @run_callFunc_extern Ybaf.prog 45 _ (Extern.ReflectliteType.method fun t => do Rtype.noPackHeld "Comparable" t; pure (.bool (← typeInfo t).comparable)) Ybaf.func45 (by kernel_rfl) (by kernel_rfl) (by kernel_rfl) (by kernel_rfl)
  have h2 := h #[.agg #[.pointer (some ⟨4, 87, none⟩)]] w
  have h3 : ((Extern.ReflectliteType.method fun t => do Rtype.noPackHeld "Comparable" t; pure (.bool (← typeInfo t).comparable)) #[.agg #[.pointer (some ⟨4, 87, none⟩)]]).run Ybaf.prog w = .ok (.bool true) w := by kernel_rfl
  rw [h3] at h2
  exact h2
theorem isMethodComparable (v : Value) (w : World) : (Go.method 227 77 v "Comparable").run Ybaf.prog w = .ok (45, v) w := by kernel_rfl
theorem noIsE (v : Value) (xT : TypeId) (w : World) : (Instr.typeAssert (.iface 87 v) xT 79 true).run Ybaf.prog w = .ok (.tuple #[.nilIface, .bool false]) w := run_typeAssert_lacksB Ybaf.underlying79 (by kernel_rfl) (by kernel_rfl) v xT w
theorem noUnwrapE (v : Value) (xT : TypeId) (w : World) : (Instr.typeAssert (.iface 87 v) xT 82 true).run Ybaf.prog w = .ok (.tuple #[.nilIface, .bool false]) w := run_typeAssert_lacksB Ybaf.underlying82 (by kernel_rfl) (by kernel_rfl) v xT w
theorem noUnwrapsE (v : Value) (xT : TypeId) (w : World) : (Instr.typeAssert (.iface 87 v) xT 84 true).run Ybaf.prog w = .ok (.tuple #[.nilIface, .bool false]) w := run_typeAssert_lacksB Ybaf.underlying84 (by kernel_rfl) (by kernel_rfl) v xT w

theorem eql_other {w : World} {a b : Addr} {ca cb : Array Value} {ta tb : TypeId} (hne : a ≠ b) (ha : w.heap[a.block]? = some (.cells ca ta (0, 0))) (hb : w.heap[b.block]? = some (.cells cb tb (0, 0))) : (Go.binOp .eql 35 (err a) (err b)).run Ybaf.prog w = .ok (.bool false) w := by
  obtain ⟨i, hi, hcmp⟩ := Option.map_eq_some_iff.1 isComp
  obtain ⟨j, hj, hjs⟩ := Option.map_eq_some_iff.1 isSize
  exact run_eql_iface_ptr_other (P := Ybaf.prog) w Ybaf.underlying35 Ybaf.underlying87 hi hcmp hj (by rw [hjs]; decide) hne ha hb

/-- errors.Is(x, x). -/
theorem is_same (a : Addr) (w : World) :
    Calls Ybaf.prog 8 #[err a, err a] w fun e w' => e = .returned (.bool true) ∧ w' = w := by
  have h8 := @run_callFunc_extern Ybaf.prog 17 _ Extern.ReflectliteType.typeOf Ybaf.func17 (by kernel_rfl) (by kernel_rfl) (by kernel_rfl) (by kernel_rfl)
  have h32 := callComparable
  have tT := isTypeOf
  have mR := isMethodComparable
  have heq := eql_same a w
  go_enter Ybaf.func8, Ybaf.ntmps8
  go_wp2
  refine wp_loop_rounds 1 ?_
  rw [rounds_succ]
  go_wp2
  go_ret
  exact ⟨rfl, rfl⟩

/-- errors.Is(x, y), two different pointers to errors.errorString: neither has Is nor Unwrap: false. -/
theorem is_other (a b : Addr) (ca cb : Array Value) (ta tb : TypeId) (w : World) (hne : a ≠ b) (ha : w.heap[a.block]? = some (.cells ca ta (0, 0))) (hb : w.heap[b.block]? = some (.cells cb tb (0, 0))) :
    Calls Ybaf.prog 8 #[err a, err b] w fun e w' => e = .returned (.bool false) ∧ w' = w := by
  have h8 := @run_callFunc_extern Ybaf.prog 17 _ Extern.ReflectliteType.typeOf Ybaf.func17 (by kernel_rfl) (by kernel_rfl) (by kernel_rfl) (by kernel_rfl)
  have h32 := callComparable
  have tT := isTypeOf
  have mR := isMethodComparable
  have nE := noIsE
  have uE := noUnwrapE
  have vE := noUnwrapsE
  have heq := eql_other hne ha hb
  go_enter Ybaf.func8, Ybaf.ntmps8
  go_wp2
  refine wp_loop_rounds 1 ?_
  rw [rounds_succ]
  go_wp2
  go_ret
  exact ⟨rfl, rfl⟩
end Go.Proofs.YbulkbsrsFmt
