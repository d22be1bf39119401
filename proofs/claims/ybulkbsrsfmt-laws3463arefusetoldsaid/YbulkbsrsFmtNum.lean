/-
  readUint, ReadVarint, readInt, readCount OVER THE LAWS' READER.
-/
import Derived.Test.YbulkbsrsFmtUv
import Derived.Laws.DeepNot64
namespace Go.Proofs.YbulkbsrsFmt
open Go Go.RowKit

set_option maxHeartbeats 400000 in
set_option maxRecDepth 100000 in
theorem readUint_ok (w : World) (rb gb cap i x : Nat) (l rest : List UInt8) (h : Rd w rb gb cap l i) (hx : x < 9223372036854775808) (hl : l.drop i = Lib.uvarint x ++ rest) :
    Calls Ybaf.prog 11 #[rdr rb] w fun e w' => e = .returned (.tuple #[.int .i64 x, .nilIface]) ∧ w.grownBy w' (some rb) ∧ Rd w' rb gb cap l (i + (Lib.uvarint x).length) := by
  have hR := readUvarint_ok w rb gb cap i x l rest h (by omega) hl
  have hx1 : ¬ (9223372036854775807 : Int) < (x : Int) := by omega
  clear hl
  go_enter Ybaf.func11, Ybaf.ntmps11
  go_wp2_with (go_at_call 19; refine hR.mono ?_; rintro e w1 ⟨rfl, hg1, hrd1⟩)
  go_ret2
  exact ⟨rfl, hg1, hrd1⟩

set_option maxHeartbeats 400000 in
set_option maxRecDepth 100000 in
theorem readUint_eof (w : World) (rb gb cap i x : Nat) (l suf : List UInt8) (aE aU aS aO : Addr) (h : Rd w rb gb cap l i) (hgl : Gl w aE aU aS aO) (hrb : 4 ≤ rb) (hx : x < 18446744073709551616) (hl : l.drop i ++ suf = Lib.uvarint x) (hs : suf ≠ []) :
    Calls Ybaf.prog 11 #[rdr rb] w fun e w' => ∃ a : Addr, e = .returned (.tuple #[.int .i64 0, err a]) ∧ (a = aE ∨ a = aU) ∧ w.grownBy w' (some rb) ∧ Rd w' rb gb cap l l.length := by
  have hR := readUvarint_eof w rb gb cap i x l suf aE aU aS aO h hgl hrb hx hl hs
  clear hl hx
  go_enter Ybaf.func11, Ybaf.ntmps11
  go_wp2_with (go_at_call 19; refine hR.mono ?_; rintro e w1 ⟨y, a, rfl, hy, ha, hg1, hrd1⟩)
  go_ret2
  exact ⟨a, rfl, ha, hg1, hrd1⟩

set_option maxHeartbeats 400000 in
set_option maxRecDepth 100000 in
theorem readVarint_ok (w : World) (rb gb cap i : Nat) (v : Int) (l rest : List UInt8) (h : Rd w rb gb cap l i) (h0 : -9223372036854775808 ≤ v) (h1 : v ≤ 9223372036854775807) (hl : l.drop i = Lib.uvarint (Lib.zigzag v) ++ rest) :
    Calls Ybaf.prog 23 #[rdr rb] w fun e w' => e = .returned (.tuple #[.int .i64 v, .nilIface]) ∧ w.grownBy w' (some rb) ∧ Rd w' rb gb cap l (i + (Lib.uvarint (Lib.zigzag v)).length) := by
  have hR := readUvarint_ok w rb gb cap i (Lib.zigzag v) l rest h (zigzag_lt v h0 h1) hl
  have hu := zigzag_lt v h0 h1
  have HU : Hid (unzig (Lib.zigzag v) = v) := unzig_zigzag v
  clear hl
  generalize Lib.zigzag v = u at *
  have hu2 : u / 2 < 9223372036854775808 := by omega
  by_cases hp : u % 2 = 0
  · have ha : (bits .and .u64 (u : Int) 1 != 0) = false := by
      rw [and_one_u64 _ (by omega) (by omega)]; simp; omega
    have HV : Hid ((u : Int) / 2 = v) := by
      show _ = _
      rw [← HU.out]; unfold unzig; rw [if_pos hp]; omega
    go_enter Ybaf.func23, Ybaf.ntmps23
    go_wp2_with (go_at_call 19; refine hR.mono ?_; rintro e w1 ⟨rfl, hg1, hrd1⟩)
    go_ret2
    refine ⟨?_, hg1, hrd1⟩
    show Ending.returned (.tuple #[.int .i64 ((u : Int) / 2), .nilIface]) = _
    rw [HV.out]
  · have ha : (bits .and .u64 (u : Int) 1 != 0) = true := by
      rw [and_one_u64 _ (by omega) (by omega)]; simp; omega
    have HV : Hid (bits .xor .i64 (-1) ((u : Int) / 2) = v) := by
      show _ = _
      have e2 : (u : Int) / 2 = ((u / 2 : Nat) : Int) := by omega
      rw [e2, i64_not _ hu2, ← HU.out]; unfold unzig; rw [if_neg hp]
    go_enter Ybaf.func23, Ybaf.ntmps23
    go_wp2_with (go_at_call 19; refine hR.mono ?_; rintro e w1 ⟨rfl, hg1, hrd1⟩)
    go_ret2
    refine ⟨?_, hg1, hrd1⟩
    show Ending.returned (.tuple #[.int .i64 (bits .xor .i64 (-1) ((u : Int) / 2)), .nilIface]) = _
    rw [HV.out]


set_option maxHeartbeats 400000 in
set_option maxRecDepth 100000 in
theorem readVarint_eof (w : World) (rb gb cap i x : Nat) (l suf : List UInt8) (aE aU aS aO : Addr) (h : Rd w rb gb cap l i) (hgl : Gl w aE aU aS aO) (hrb : 4 ≤ rb) (hx : x < 18446744073709551616) (hl : l.drop i ++ suf = Lib.uvarint x) (hs : suf ≠ []) :
    Calls Ybaf.prog 23 #[rdr rb] w fun e w' => ∃ (z : Int) (a : Addr), e = .returned (.tuple #[.int .i64 z, err a]) ∧ (a = aE ∨ a = aU) ∧ w.grownBy w' (some rb) ∧ Rd w' rb gb cap l l.length := by
  have hR := readUvarint_eof w rb gb cap i x l suf aE aU aS aO h hgl hrb hx hl hs
  clear hl hx
  go_enter Ybaf.func23, Ybaf.ntmps23
  go_wp2_with (go_at_call 19; refine hR.mono ?_; rintro e w1 ⟨y, a, rfl, hy, ha, hg1, hrd1⟩)
  all_goals go_ret2
  all_goals exact ⟨_, a, rfl, ha, hg1, hrd1⟩

set_option maxHeartbeats 400000 in
set_option maxRecDepth 100000 in
theorem readInt_ok (w : World) (rb gb cap i : Nat) (v rd : Int) (l rest : List UInt8) (h : Rd w rb gb cap l i) (h0 : -9223372036854775808 ≤ v) (h1 : v ≤ 9223372036854775807) (hl : l.drop i = Lib.uvarint (Lib.zigzag v) ++ rest) :
    Calls Ybaf.prog 15 #[rdr rb, .int .i64 rd] w fun e w' => e = .returned (.tuple #[.int .i64 v, .nilIface]) ∧ w.grownBy w' (some rb) ∧ Rd w' rb gb cap l (i + (Lib.uvarint (Lib.zigzag v)).length) := by
  have hR := readVarint_ok w rb gb cap i v l rest h h0 h1 hl
  have h0' : ¬ v < -9223372036854775808 := by omega
  have h1' : ¬ (9223372036854775807 : Int) < v := by omega
  clear hl
  go_enter Ybaf.func15, Ybaf.ntmps15
  go_wp2_with (go_at_call 23; refine hR.mono ?_; rintro e w1 ⟨rfl, hg1, hrd1⟩)
  go_ret2
  exact ⟨rfl, hg1, hrd1⟩

set_option maxHeartbeats 400000 in
set_option maxRecDepth 100000 in
theorem readInt_eof (w : World) (rb gb cap i x : Nat) (rd : Int) (l suf : List UInt8) (aE aU aS aO : Addr) (h : Rd w rb gb cap l i) (hgl : Gl w aE aU aS aO) (hrb : 4 ≤ rb) (hx : x < 18446744073709551616) (hl : l.drop i ++ suf = Lib.uvarint x) (hs : suf ≠ []) :
    Calls Ybaf.prog 15 #[rdr rb, .int .i64 rd] w fun e w' => ∃ a : Addr, e = .returned (.tuple #[.int .i64 0, err a]) ∧ (a = aE ∨ a = aU) ∧ w.grownBy w' (some rb) ∧ Rd w' rb gb cap l l.length := by
  have hR := readVarint_eof w rb gb cap i x l suf aE aU aS aO h hgl hrb hx hl hs
  clear hl hx
  go_enter Ybaf.func15, Ybaf.ntmps15
  go_wp2_with (go_at_call 23; refine hR.mono ?_; rintro e w1 ⟨z, a, rfl, ha, hg1, hrd1⟩)
  go_ret2
  exact ⟨a, rfl, ha, hg1, hrd1⟩

set_option maxHeartbeats 400000 in
set_option maxRecDepth 100000 in
theorem readCount_ok (w : World) (rb gb cap i x : Nat) (rd : Int) (s : ByteArray) (l rest : List UInt8) (h : Rd w rb gb cap l i) (hx : x ≤ 65536) (hl : l.drop i = Lib.uvarint x ++ rest) :
    Calls Ybaf.prog 22 #[rdr rb, .int .i64 rd, .string s] w fun e w' => e = .returned (.tuple #[.int .i64 x, .nilIface]) ∧ w.grownBy w' (some rb) ∧ Rd w' rb gb cap l (i + (Lib.uvarint x).length) := by
  have hR := readUint_ok w rb gb cap i x l rest h (by omega) hl
  have hx1 : ¬ (65536 : Int) < (x : Int) := by omega
  clear hl
  go_enter Ybaf.func22, Ybaf.ntmps22
  go_wp2_with (go_at_call 11; refine hR.mono ?_; rintro e w1 ⟨rfl, hg1, hrd1⟩)
  go_ret2
  exact ⟨rfl, hg1, hrd1⟩

set_option maxHeartbeats 400000 in
set_option maxRecDepth 100000 in
theorem readCount_eof (w : World) (rb gb cap i x : Nat) (rd : Int) (s : ByteArray) (l suf : List UInt8) (aE aU aS aO : Addr) (h : Rd w rb gb cap l i) (hgl : Gl w aE aU aS aO) (hrb : 4 ≤ rb) (hx : x < 18446744073709551616) (hl : l.drop i ++ suf = Lib.uvarint x) (hs : suf ≠ []) :
    Calls Ybaf.prog 22 #[rdr rb, .int .i64 rd, .string s] w fun e w' => ∃ a : Addr, e = .returned (.tuple #[.int .i64 0, err a]) ∧ (a = aE ∨ a = aU) ∧ w.grownBy w' (some rb) ∧ Rd w' rb gb cap l l.length := by
  have hR := readUint_eof w rb gb cap i x l suf aE aU aS aO h hgl hrb hx hl hs
  clear hl hx
  go_enter Ybaf.func22, Ybaf.ntmps22
  go_wp2_with (go_at_call 11; refine hR.mono ?_; rintro e w1 ⟨a, rfl, ha, hg1, hrd1⟩)
  go_ret2
  exact ⟨a, rfl, ha, hg1, hrd1⟩
end Go.Proofs.YbulkbsrsFmt
