/-
  (*frame).flagFields.
-/
import Derived.Test.YbulkbsrsFmtUv
import Derived.BigRegion
namespace Go.Proofs.YbulkbsrsFmt
open Go Go.RowKit

/-- The five flags, each with its field of the frame in block fb. -/
def flagsOf (fb : Nat) : Array Value := #[.int .u8 1, .pointer (some ⟨fb, 2, none⟩), .int .u8 2, .pointer (some ⟨fb, 4, none⟩), .int .u8 4, .pointer (some ⟨fb, 5, none⟩), .int .u8 8, .pointer (some ⟨fb, 6, none⟩), .int .u8 16, .pointer (some ⟨fb, 7, none⟩)]

set_option maxHeartbeats 2000000 in
set_option maxRecDepth 100000 in
theorem flagFields_any (w : World) (fb : Nat) :
    Calls Ybaf.prog 12 #[.pointer (some ⟨fb, 0, none⟩)] w fun e w' => e = .returned (.agg (flagsOf fb)) ∧ w.grownBy w' none := by
  go_enter Ybaf.func12, Ybaf.ntmps12
  go_wp2
  go_region
  go_wp2
  exact bodyPost_ret (v := .agg (flagsOf fb)) (by simp [results, Ybaf.results12, go_sem, flagsOf]) rfl ⟨rfl, grown_trans (grown_alloc w _ _) (grown_drewN _ 1 _)⟩
end Go.Proofs.YbulkbsrsFmt
