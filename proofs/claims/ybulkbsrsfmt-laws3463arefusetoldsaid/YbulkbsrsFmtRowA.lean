/-
  WHAT THE THREE CARDS SHARE: the closed facts, what 'laid' gives, the witness's world, how a slice that came in is handed to the walks. (After the guide's SentryProofs.lean and its shells.)
-/
import Derived.Test.YbulkbsrsFmtRows
import Derived.Test.YbulkbsrsFmtTie
import Derived.Test.YbulkbsrsFmtCards
import Derived.Test.YbulkbsrsFmtEnc
import Derived.ProofKit
import Derived.OpenShut
import Derived.ShutString
import Derived.ChangeOld
import Derived.Stop.JoinedAt
import Derived.Stop.Texts
import Derived.Stop.JoinedTold
import Derived.Stop.LaidErr
import Derived.Stop.LaidTwo
import Derived.SevenTiedAt
import Derived.LaidMore
import Derived.Deep.DeepWitnessRef
namespace Go.Proofs.YbulkbsrsFmt
open Go.ChangeShapes Go.WideShapes Go.ChangeAt Go.RowKit Go.Kit
open Go.Extern.Stop Go.Stop Go.Extern

theorem own : ownKnob Ybaf.prog.godebug = none := by kernel_rfl
theorem laidOut : laidOutB Ybaf.pinned.checked.prog = true := by kernel_rfl
theorem laidOut' : laidOutB Ybaf.prog = true := by kernel_rfl
theorem stops : Ybaf.pinned.checked.prog.stops = ["fmt.errorf"] := by kernel_rfl
theorem stopKnobs : Ybaf.pinned.checked.prog.stopKnobs = [] := by kernel_rfl
theorem quiet (os : Os) : Stop.quiet Ybaf.pinned.checked.prog os := by
  intro k hk
  rw [stopKnobs] at hk
  cases hk
theorem gE : Ybaf.prog.globalNamed "io.EOF" = some 0 := by kernel_rfl
theorem gU : Ybaf.prog.globalNamed "io.ErrUnexpectedEOF" = some 1 := by kernel_rfl
theorem gS : Ybaf.prog.globalNamed "example.com/assent/assent.errStopped" = some 2 := by kernel_rfl
theorem gO : Ybaf.prog.globalNamed "encoding/binary.errOverflow" = some 3 := by kernel_rfl
theorem tE : (Ybaf.prog.globals[0]?).map (·.type) = some 35 := by kernel_rfl
theorem tU : (Ybaf.prog.globals[1]?).map (·.type) = some 35 := by kernel_rfl
theorem tS : (Ybaf.prog.globals[2]?).map (·.type) = some 35 := by kernel_rfl
theorem tO : (Ybaf.prog.globals[3]?).map (·.type) = some 35 := by kernel_rfl
theorem cells89 : Ybaf.prog.cellsOf 89 = 1 := by kernel_rfl
theorem cells9 : Ybaf.prog.cellsOf 9 = 1 := by kernel_rfl
theorem star : "*" ++ "errors.errorString" = "*errors.errorString" := by decide
theorem row87 (u : TypeId) (h : Ybaf.prog.typeName? 3 u = some "*errors.errorString") : u = 87 :=
  typeName_ptr_named (nm := "errors.errorString") (by rw [star]; kernel_rfl) (by kernel_rfl) (by decide) u (by rw [star]; exact h)

/-- The list that the three rows bear. -/
abbrev laid4 : List (String × DataW Unit) := [("io.EOF", Rows.laid_io_EOF), ("io.ErrUnexpectedEOF", Rows.laid_io_ErrUnexpectedEOF), ("encoding/binary.errOverflow", Rows.laid_encoding_binary_errOverflow), ("example.com/assent/assent.errStopped", Rows.laid_example_com_assent_assent_errStopped)]

/-- The door's own heap meets the condition. -/
theorem door_met (os : Os) (args : Array Value) : laidMetH Ybaf.prog laid4 ((World.doorLaid Ybaf.prog 85 os).forCall (fun _ _ => 0) ⟨#[], args, []⟩).memory :=
  laidMetH_of_parts3 (fuel := 8) (laidMet_of_run' 8 (by kernel_rfl) (by kernel_rfl)) (by kernel_rfl) (by kernel_rfl)

/-- WHAT 'laid' GIVES: the four variables' cells; the ends are two pointers; the rows that '==' asks for. -/
theorem laid_gives {W : World} (hL : laidMet Ybaf.prog laid4 W) : ∃ (aE aU aS aO : Addr) (cE cU cS : Array Value) (zE zU zS : TypeId), Gl W aE aU aS aO ∧ aE ≠ aU ∧
    W.heap[aE.block]? = some (.cells cE zE (0, 0)) ∧ W.heap[aU.block]? = some (.cells cU zU (0, 0)) ∧ W.heap[aS.block]? = some (.cells cS zS (0, 0)) ∧
    W.var? Ybaf.prog "example.com/assent/assent.errStopped" = some #[.iface 87 (.pointer (some aS))] := by
  obtain ⟨aE, aU, s0, s1, c0, c1, t0, t1, hv0, hv1, -, -, -, -, -, -, hne, hb0, hb1⟩ := laid_sentinels2 hL gE tE gU tU Ybaf.underlying35 row87 Ybaf.underlying87 Ybaf.underlying89 rfl rfl Ybaf.underlying9 cells89 cells9
  obtain ⟨aO, aS, s2, s3, c2, c3, t2, t3, hv2, hv3, -, -, -, -, -, -, -, hb2, hb3⟩ := laid_sentinels2 hL.tail.tail gO tO gS tS Ybaf.underlying35 row87 Ybaf.underlying87 Ybaf.underlying89 rfl rfl Ybaf.underlying9 cells89 cells9
  refine ⟨aE, aU, aS, aO, c0, c1, c3, t0, t1, t3, ⟨?_, ?_, ?_, ?_⟩, hne, hb0, hb1, hb3, hv3⟩
  · simpa using World.var?_cell gE hv0 0
  · simpa using World.var?_cell gU hv1 0
  · simpa using World.var?_cell gS hv3 0
  · simpa using World.var?_cell gO hv2 0

/-- A slice of integers that came in: nil; or a row of 'cap' cells, the numbers 'zs'. -/
def IsRow (k : IntKind) (w : World) (a : Option Addr) (len cap : Nat) (zs : List Int) : Prop :=
  (a = none ∧ len = 0 ∧ cap = 0 ∧ zs = []) ∨
  ∃ x, a = some x ∧ len ≤ cap ∧ cap ≤ maxLen ∧ zs.length = cap ∧ (∀ i, i < zs.length → w.cell? (x.add i) = some (.int k (zs.getD i 0))) ∧ ∀ n ∈ zs, (Lit.int k n).wf = true
theorem IsRow.came {k : IntKind} {w : World} {a : Option Addr} {len cap : Nat} {zs : List Int} (h : IsRow k w a len cap zs) : (zs.take len).length = len ∧ Came w k a (zs.take len) ∧ ∀ n ∈ zs.take len, (Lit.int k n).wf = true := by
  rcases h with ⟨rfl, rfl, rfl, rfl⟩ | ⟨x, rfl, hl, hm, hz, hcell, hwz⟩
  · exact ⟨rfl, Or.inl rfl, fun n hn => by simp at hn⟩
  · have hlen : (zs.take len).length = len := by rw [List.length_take]; omega
    refine ⟨hlen, ?_, fun n hn => hwz n (List.mem_of_mem_take hn)⟩
    by_cases h0 : len = 0
    · exact Or.inl (by rw [h0]; simp)
    · obtain ⟨b, off, spot⟩ := x
      have hc := hcell 0 (by omega)
      have hspot : spot = none := by simpa [Addr.add] using World.cell?_spot hc
      subst hspot
      refine Or.inr ⟨b, off, rfl, fun j hj => ?_⟩
      have hj' : j < zs.length := by omega
      have := hcell j hj'
      rw [List.getElem_take, show zs[j] = zs.getD j 0 by rw [List.getD_eq_getElem?_getD, List.getElem?_eq_getElem hj']; rfl]
      rw [add_plain] at this
      exact this

/-- Uint16s, as numbers. -/
theorem nats_of {zs : List Int} (h : ∀ n ∈ zs, (Lit.int .u16 n).wf = true) : ∃ ds : List Nat, zs = ds.map (fun y : Nat => (y : Int)) ∧ ∀ y ∈ ds, y < 65536 := by
  refine ⟨zs.map Int.toNat, ?_, ?_⟩
  · rw [List.map_map]
    have : ∀ n ∈ zs, ((fun y : Nat => (y : Int)) ∘ Int.toNat) n = n := fun n hn => by
      have := bounds_u16 (h n hn)
      simp
      omega
    exact (List.map_id' zs).symm.trans (List.map_congr_left fun n hn => (this n hn).symm)
  · intro y hy
    obtain ⟨n, hn, rfl⟩ := List.mem_map.1 hy
    have := bounds_u16 (h n hn)
    omega
end Go.Proofs.YbulkbsrsFmt
