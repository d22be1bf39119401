/-
  LawS3468ACut: atomic.Pointer's Swap, cut, AND THE WALK.
-/
import Derived.Test.YbulkbsukDoorLaw
import Derived.Lib.Builder
import Derived.LaidLaws
import Derived.Deep.QuietTactic
import Derived.BigQuiet
namespace Go.Proofs.YbulkbsukDoor
open Go Go.RowKit

set_option maxRecDepth 100000 in
theorem swap_any (sb o : Nat) (x : Option Addr) (w : World) (hc : w.cell? ⟨sb, o, none⟩ = some (.pointer x)) (hz : w.frozen? ⟨sb, o, none⟩ = false) (hh : Held (w.setCell ⟨sb, o, none⟩ (.pointer none)) x) :
    Calls Ybad.prog 17 #[.pointer (some ⟨sb, o, none⟩), .pointer none] w fun e w' => e = .returned (.pointer x) ∧ w' = w.setCell ⟨sb, o, none⟩ (.pointer none) := by
  have hl := call_swapPtr (P := Ybad.prog) (y := none) Ybad.func31 (by kernel_rfl) (by kernel_rfl) (by kernel_rfl) (by kernel_rfl) hc hz
  have hcv := hh.from
  have hcn := conv_nil_to Ybad.underlying23 w
  go_enter Ybad.func17, Ybad.ntmps17
  go_wp2
  go_ret
  exact ⟨rfl, rfl⟩

set_option maxRecDepth 100000 in
set_option maxHeartbeats 800000 in
theorem cut_any (sb : Nat) (h : Option Addr) (a : Addr) (w : World) (hne : ∀ hb, h = some ⟨hb, 0, none⟩ → hb ≠ sb) (hh : Held w h)
    (c13 : w.cell? ⟨sb, 13, none⟩ = some .nilIface) (z : ∀ k, w.frozen? ⟨sb, k, none⟩ = false) (c12 : w.cell? ⟨sb, 12, none⟩ = some (.pointer h)) :
    Calls Ybad.prog 8 #[.pointer (some ⟨sb, 0, none⟩), .iface 111 (.pointer (some a))] w fun e w' => e = .returned (.pointer h) ∧ w' = (w.setCell ⟨sb, 13, none⟩ (.iface 111 (.pointer (some a)))).setCell ⟨sb, 12, none⟩ (.pointer none) := by
  have z13 := z 13
  have d12 : (w.setCell ⟨sb, 13, none⟩ (.iface 111 (.pointer (some a)))).cell? ⟨sb, 12, none⟩ = some (.pointer h) := (World.cell?_setCell_other _ _ _ _ (by intro q; cases q)).trans c12
  have y12 : (w.setCell ⟨sb, 13, none⟩ (.iface 111 (.pointer (some a)))).frozen? ⟨sb, 12, none⟩ = false := by simp [z]
  have H := swap_any sb 12 h _ d12 y12 ((hh.set hne).set hne)
  clear d12 y12
  go_enter Ybad.func8, Ybad.ntmps8
  go_wp2_with fail
  refine H.mono ?_
  rintro e w1 ⟨rfl, rfl⟩
  go_wp2_with fail
  go_ret
  exact ⟨rfl, rfl⟩

theorem neq_self23 (x : Option Addr) (w : World) : (Go.binOp .neq 23 (.pointer x) (.pointer x)).run Ybad.prog w = .ok (.bool false) w := by
  cases x with
  | none => exact run_neq_pointer_nil (P := Ybad.prog) w 23 none (by kernel_rfl)
  | some a => obtain ⟨i, hi⟩ := info67; exact Lib.run_neq_ptr_same (P := Ybad.prog) (w := w) a Ybad.underlying23 hi
theorem info87 : ∃ i, Ybad.prog.info? 87 = some i := by
  have h : (Ybad.prog.info? 87).isSome = true := by kernel_rfl
  exact Option.isSome_iff_exists.1 h
theorem neq_self24 (x : Option Addr) (w : World) : (Go.binOp .neq 24 (.pointer x) (.pointer x)).run Ybad.prog w = .ok (.bool false) w := by
  cases x with
  | none => exact run_neq_pointer_nil (P := Ybad.prog) w 24 none (by kernel_rfl)
  | some a => obtain ⟨i, hi⟩ := info87; exact Lib.run_neq_ptr_same (P := Ybad.prog) (w := w) a Ybad.underlying24 hi
theorem comp111 : (Ybad.prog.info? 111).map (·.comparable) = some true := by kernel_rfl
theorem size154 : (Ybad.prog.info? 154).map (·.size) = some 1 := by kernel_rfl
theorem neq_end (a : Addr) (w : World) : (Go.binOp .neq 43 (.iface 111 (.pointer (some a))) (.iface 111 (.pointer (some a)))).run Ybad.prog w = .ok (.bool false) w := by
  obtain ⟨i, hi, hcmp⟩ := Option.map_eq_some_iff.1 comp111
  obtain ⟨j, hj, _⟩ := Option.map_eq_some_iff.1 size154
  simp only [binOp]
  simp [Op.equal, Op.maxDepth, run_equalIn_iface_ptr_same w 9998 a Ybad.underlying43 Ybad.underlying111 hi hcmp hj]

set_option maxRecDepth 100000 in
set_option maxHeartbeats 1600000 in
theorem walk (a0 a1 : Bool) (a2 : ByteArray) (a : Addr) (w : World) (hE : w.cell? ⟨0, 0, none⟩ = some (.iface 111 (.pointer (some a)))) :
    Calls Ybad.prog 3 #[.bool a0, .bool a1, .string a2] w fun e w' => e = .returned (.bool true) ∧ Below w.heap.size w w' := by
  have n23 := neq_self23
  have n24 := neq_self24
  have n43 := neq_end a
  have h0s : 0 < w.heap.size := World.block_lt_of_cell? _ _ hE
  go_enter Ybad.func3, Ybad.ntmps3
  go_wp2_with fail
  refine (build_any a0 a1 a2 _ w).mono ?_
  rintro e W ⟨sb, h, g, rfl, hb⟩
  obtain ⟨n, hd, st⟩ := hb.st
  obtain ⟨c10, c12, c14⟩ := sc st
  have z10 := bz (k := 10) st
  have hlk := lock_any ⟨sb, 10, none⟩ W c10 z10
  obtain ⟨W1, HW1⟩ : ∃ W1, Hid (W1 = W.setCell ⟨sb, 10, none⟩ (.int .i32 1)) := ⟨_, rfl⟩
  rw [← HW1.out] at hlk
  have s1 := bs (k := 10) st (.int .i32 1)
  rw [← HW1.out] at s1
  have be1 : Below w.heap.size w W1 := by rw [HW1.out]; exact hb.be.setCell hb.lo _
  have hh1 : Held W1 h := by rw [HW1.out]; exact hb.hh.set hb.ne
  have e1 : W1.cell? ⟨0, 0, none⟩ = some (.iface 111 (.pointer (some a))) := by
    rw [be1.cell h0s]; exact hE
  have hct := cut_any sb h a W1 hb.ne hh1 (bc s1 (by show 13 < 22; decide)) (fun k => bz s1) (bc s1 (by show 12 < 22; decide))
  obtain ⟨W2, HW2⟩ : ∃ W2, Hid (W2 = (W1.setCell ⟨sb, 13, none⟩ (.iface 111 (.pointer (some a)))).setCell ⟨sb, 12, none⟩ (.pointer none)) := ⟨_, rfl⟩
  rw [← HW2.out] at hct
  have s2 := bs (k := 12) (bs (k := 13) s1 (.iface 111 (.pointer (some a)))) (.pointer none)
  rw [← HW2.out] at s2
  have be2 : Below w.heap.size w W2 := by rw [HW2.out]; exact (be1.setCell hb.lo _).setCell hb.lo _
  have hul := unlock_any ⟨sb, 10, none⟩ W2 (bc s2 (by show 10 < 22; decide)) (bz s2)
  obtain ⟨W3, HW3⟩ : ∃ W3, Hid (W3 = W2.setCell ⟨sb, 10, none⟩ (.int .i32 0)) := ⟨_, rfl⟩
  rw [← HW3.out] at hul
  have s3 := bs (k := 10) s2 (.int .i32 0)
  rw [← HW3.out] at s3
  have be3 : Below w.heap.size w W3 := by rw [HW3.out]; exact be2.setCell hb.lo _
  have e3 : W3.cell? ⟨0, 0, none⟩ = some (.iface 111 (.pointer (some a))) := by
    rw [be3.cell h0s]; exact hE
  have d10 : W3.cell? ⟨sb, 10, none⟩ = some (.int .i32 0) := bc s3 (by show 10 < 22; decide)
  have d12 : W3.cell? ⟨sb, 12, none⟩ = some (.pointer none) := bc s3 (by show 12 < 22; decide)
  have d13 : W3.cell? ⟨sb, 13, none⟩ = some (.iface 111 (.pointer (some a))) := bc s3 (by show 13 < 22; decide)
  have d14 : W3.cell? ⟨sb, 14, none⟩ = some (.pointer g) := bc s3 (by show 14 < 22; decide)
  have y10 : W3.frozen? ⟨sb, 10, none⟩ = false := bz s3
  have hid := idle_any sb none g W3 (fun _ q => by cases q) (Or.inl rfl) d10 y10 d12 d14
  rw [hb.g0] at hid
  have hld : ∀ k, Calls Ybad.prog 11 #[.pointer (some ⟨sb, 12, none⟩)] (W3.drewN k) fun e w' => e = .returned (.pointer none) ∧ w' = W3.drewN k := fun k => load_any sb 12 none (W3.drewN k) d12 (Or.inl rfl)
  have htl : ∀ k, Calls Ybad.prog 12 #[.pointer (some ⟨sb, 10, none⟩)] (W3.drewN k) fun e w' => e = .returned (.bool true) ∧ w' = (W3.drewN k).setCell ⟨sb, 10, none⟩ (.int .i32 1) := fun k => trylock_any ⟨sb, 10, none⟩ (W3.drewN k) d10 y10
  have hul2 : ∀ k, Calls Ybad.prog 9 #[.pointer (some ⟨sb, 10, none⟩)] ((W3.drewN k).setCell ⟨sb, 10, none⟩ (.int .i32 1)) fun e w' => e = .returned (.tuple #[]) ∧ w' = W3.drewN k := fun k => by
    have d : (W3.drewN k).cell? ⟨sb, 10, none⟩ = some (.int .i32 0) := d10
    have y : (W3.drewN k).frozen? ⟨sb, 10, none⟩ = false := y10
    have := unlock_any ⟨sb, 10, none⟩ _ (World.cell?_setCell_same _ _ (.int .i32 1) d) (by simp [y])
    rw [setCell_back d] at this
    exact this
  clear hb st s1 s2 s3 hh1 be1 be2 c10 c12 c14 z10 d10 d12 y10
  go_wp2_with fail
  refine hlk.mono ?_
  rintro e w1 ⟨rfl, rfl⟩
  go_wp2_with fail
  refine hct.mono ?_
  rintro e w1 ⟨rfl, rfl⟩
  go_wp2_with fail
  refine hul.mono ?_
  rintro e w1 ⟨rfl, rfl⟩
  cases a1
  all_goals
    go_wp2_with fail
    refine hid.mono ?_
    rintro e w1 ⟨rfl, rfl⟩
    go_wp2_with fail
    go_quiet (first | (go_at_call 11; refine Calls.quiet_of_same (hld _)))
    go_wp2_with fail
    refine (htl _).mono ?_
    rintro e w1 ⟨rfl, rfl⟩
    go_wp2_with fail
    refine (hul2 _).mono ?_
    rintro e w1 ⟨rfl, rfl⟩
    go_wp2_with fail
    go_ret
    exact ⟨rfl, be3.trans ⟨rfl, rfl, rfl, Nat.le_refl _, fun _ _ => rfl⟩⟩
end Go.Proofs.YbulkbsukDoor
