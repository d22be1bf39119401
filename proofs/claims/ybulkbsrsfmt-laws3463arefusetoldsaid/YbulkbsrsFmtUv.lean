/-
  encoding/binary.ReadUvarint OVER THE LAWS' READER: a whole varint is read; one that is cut short ends in io.EOF or io.ErrUnexpectedEOF.
-/
import Derived.Test.YbulkbsrsFmtRd
import Derived.Test.YbulkbsrsFmtPlain
import Derived.LaidEql
namespace Go.Proofs.YbulkbsrsFmt
open Go Go.RowKit

theorem mRB (a : Addr) (w : World) : (Go.method 227 29 (.pointer (some a)) "ReadByte").run Ybaf.prog w = .ok (39, .pointer (some a)) w := by kernel_rfl
/-- The reader as an io.ByteReader. -/
abbrev rdr (rb : Nat) : Value := .iface 29 (.pointer (some ⟨rb, 0, none⟩))
/-- An error of errors.New's make. -/
abbrev err (a : Addr) : Value := .iface 87 (.pointer (some a))

theorem isComp : (Ybaf.prog.info? 87).map (·.comparable) = some true := by kernel_rfl
theorem isSize : (Ybaf.prog.info? 89).map (·.size) = some 1 := by kernel_rfl
theorem eql_same (a : Addr) (w : World) : (Go.binOp .eql 35 (err a) (err a)).run Ybaf.prog w = .ok (.bool true) w := by
  obtain ⟨i, hi, hcmp⟩ := Option.map_eq_some_iff.1 isComp
  obtain ⟨j, hj, hjs⟩ := Option.map_eq_some_iff.1 isSize
  exact run_eql_iface_ptr_same (P := Ybaf.prog) w a Ybaf.underlying35 Ybaf.underlying87 hi hcmp hj

set_option maxHeartbeats 1000000 in
set_option maxRecDepth 100000 in
theorem readUvarint_ok (w : World) (rb gb cap i x : Nat) (l rest : List UInt8) (h : Rd w rb gb cap l i) (hx : x < 18446744073709551616) (hl : l.drop i = Lib.uvarint x ++ rest) :
    Calls Ybaf.prog 19 #[rdr rb] w fun e w' => e = .returned (.tuple #[.int .u64 x, .nilIface]) ∧ w.grownBy w' (some rb) ∧ Rd w' rb gb cap l (i + (Lib.uvarint x).length) := by
  have mm := mRB
  go_enter Ybaf.func19, Ybaf.ntmps19
  go_wp2
  go_loopw [4, 5, 6] (fun vx vs vi wr => ∃ k acc y : Nat, vi = .int .i64 k ∧ vs = .int .u64 ((7 * k : Nat) : Int) ∧ vx = .int .u64 acc ∧ k ≤ 9 ∧ acc < 2 ^ (7 * k) ∧ x = acc + y * 2 ^ (7 * k) ∧ l.drop (i + k) = Lib.uvarint y ++ rest ∧ (Lib.uvarint x).length = k + (Lib.uvarint y).length ∧ w.grownBy wr (some rb) ∧ Rd wr rb gb cap l (i + k))
    (fun _ _ vi _ => 10 - (intOf vi).toNat)
  case atStart => exact ⟨0, 0, x, rfl, rfl, rfl, by omega, by decide, by simp, by simpa using hl, by simp, grown_refl _ _, by simpa using h⟩
  case round =>
    obtain ⟨k, acc, y, rfl, rfl, rfl, hk, hacc, hxe, hdr, hlen, hgr, hrd⟩ := hrel
    have hi : i + k < l.length := by
      have h2 := congrArg List.length hdr
      have := Lib.uvarint_pos y
      simp at h2
      omega
    have hk10 : (k : Int) < 10 := by omega
    by_cases hy : y < 128
    · have hb := uv_last hdr hy hi
      have hl1 : (Lib.uvarint x).length = k + 1 := by rw [hlen, Lib.uvarint_small hy]; simp
      have HL : Hid ((Lib.uvarint x).length = k + 1) := hl1
      have hR := readByte_ok _ rb gb cap (i + k) l hrd hi
      rw [hb] at hR
      have hblt : (y : Int) < 128 := by omega
      clear hb hdr hlen hl hl1
      by_cases hk9 : k = 9
      · subst hk9
        have hy1 : ¬ 1 < (y : Int) := by
          have e9 : (2 : Nat) ^ (7 * 9) = 9223372036854775808 := by decide
          rw [e9] at hxe
          omega
        have HO : Hid (bits .or .u64 (acc : Int) ((y : Int) * 9223372036854775808) = (x : Int)) := by
          rw [hxe]; exact or_shift9 acc y hacc (by omega)
        clear hxe hacc
        go_wp2_with (go_at_call 39; refine hR.mono ?_; rintro e w1 ⟨rfl, hg1, hrd1⟩)
        go_ret2
        refine ⟨?_, grown_trans hgr hg1, by rw [HL.out]; exact hrd1⟩
        show Ending.returned (.tuple #[.int .u64 (bits .or .u64 (acc : Int) ((y : Int) * 9223372036854775808)), .nilIface]) = _
        rw [HO.out]
      · have hk9' : ¬ (k : Int) = 9 := by omega
        have hk9b : ((k : Int) == 9) = false := by simpa using hk9'
        have HO : Hid (bits .or .u64 (acc : Int) (IntKind.u64.wrap ((y : Int) * 2 ^ (7 * k))) = (x : Int)) := by
          show _ = _
          rw [hxe]; exact or_shift acc y k hacc (by omega)
        clear hxe hacc
        go_wp2_with (go_at_call 39; refine hR.mono ?_; rintro e w1 ⟨rfl, hg1, hrd1⟩)
        go_ret2
        refine ⟨?_, grown_trans hgr hg1, by rw [HL.out]; exact hrd1⟩
        show Ending.returned (.tuple #[.int .u64 (bits .or .u64 (acc : Int) (IntKind.u64.wrap ((y : Int) * 2 ^ (7 * k)))), .nilIface]) = _
        rw [HO.out]
    · obtain ⟨hb, hdr1⟩ := uv_more hdr (by omega) hi
      have hk9 := uv_k hxe hx (by omega) hk
      have hacc1 := uv_acc_lt (b := y % 128) hacc (by omega)
      have hxe1 := uv_acc hxe
      have hlen1 : (Lib.uvarint x).length = k + 1 + (Lib.uvarint (y / 128)).length := by rw [hlen, Lib.uvarint_big (by omega)]; simp; omega
      have hR := readByte_ok _ rb gb cap (i + k) l hrd hi
      have hO : bits .or .u64 (acc : Int) (IntKind.u64.wrap (IntKind.u64.wrap (bits .and .u8 ((l[i + k].toNat : Nat) : Int) 127) * 2 ^ (7 * k))) = ((acc + y % 128 * 2 ^ (7 * k) : Nat) : Int) := by
        have := or_shift_mask acc (l[i + k].toNat) k (by omega) hacc (by rw [hb, show (y % 128 + 128) % 128 = y % 128 by omega]; omega)
        rw [this, hb, show (y % 128 + 128) % 128 = y % 128 by omega]
      have hge : ¬ ((l[i + k].toNat : Nat) : Int) < 128 := by omega
      generalize l[i + k].toNat = b at *
      have HH : Hid (x = (acc + y % 128 * 2 ^ (7 * k)) + y / 128 * 2 ^ (7 * (k + 1)) ∧ acc + y % 128 * 2 ^ (7 * k) < 2 ^ (7 * (k + 1)) ∧ (Lib.uvarint x).length = k + 1 + (Lib.uvarint (y / 128)).length ∧ l.drop (i + k + 1) = Lib.uvarint (y / 128) ++ rest ∧ bits .or .u64 (acc : Int) (IntKind.u64.wrap (IntKind.u64.wrap (bits .and .u8 (b : Int) 127) * 2 ^ (7 * k))) = ((acc + y % 128 * 2 ^ (7 * k) : Nat) : Int)) := ⟨hxe1, hacc1, hlen1, hdr1, hO⟩
      clear hb hdr hlen hl hxe hxe1 hacc hacc1 hlen1 hdr1 hO
      go_wp2_with (go_at_call 39; refine hR.mono ?_; rintro e w1 ⟨rfl, hg1, hrd1⟩)
      obtain ⟨q1, q2, q3, q4, q5⟩ := HH.out
      refine ⟨⟨k + 1, acc + y % 128 * 2 ^ (7 * k), y / 128, by go_num, by go_num, by rw [q5], by omega, q2, q1, q4, q3, grown_trans hgr hg1, hrd1⟩, by simp [intOf]; omega⟩

set_option maxHeartbeats 1000000 in
set_option maxRecDepth 100000 in
theorem readUvarint_eof (w : World) (rb gb cap i x : Nat) (l suf : List UInt8) (aE aU aS aO : Addr) (h : Rd w rb gb cap l i) (hgl : Gl w aE aU aS aO) (hrb : 4 ≤ rb) (hx : x < 18446744073709551616) (hl : l.drop i ++ suf = Lib.uvarint x) (hs : suf ≠ []) :
    Calls Ybaf.prog 19 #[rdr rb] w fun e w' => ∃ (y : Nat) (a : Addr), e = .returned (.tuple #[.int .u64 y, err a]) ∧ y < 18446744073709551616 ∧ (a = aE ∨ a = aU) ∧ w.grownBy w' (some rb) ∧ Rd w' rb gb cap l l.length := by
  have mm := mRB
  have eq1 := eql_same
  go_enter Ybaf.func19, Ybaf.ntmps19
  go_wp2
  go_loopw [4, 5, 6] (fun vx vs vi wr => ∃ k acc y : Nat, vi = .int .i64 k ∧ vs = .int .u64 ((7 * k : Nat) : Int) ∧ vx = .int .u64 acc ∧ k ≤ 9 ∧ acc < 2 ^ (7 * k) ∧ x = acc + y * 2 ^ (7 * k) ∧ l.drop (i + k) ++ suf = Lib.uvarint y ∧ w.grownBy wr (some rb) ∧ Rd wr rb gb cap l (i + k))
    (fun _ _ vi _ => 10 - (intOf vi).toNat)
  case atStart => exact ⟨0, 0, x, rfl, rfl, rfl, by omega, by decide, by simp, by simpa using hl, grown_refl _ _, by simpa using h⟩
  case round =>
    obtain ⟨k, acc, y, rfl, rfl, rfl, hk, hacc, hxe, hdr, hgr, hrd⟩ := hrel
    have hgl1 := hgl.grown hgr hrb
    have hk10 : (k : Int) < 10 := by omega
    have hle := hrd.le
    by_cases hi : i + k < l.length
    · obtain ⟨hy, hb, hdr1⟩ := uv_cut hdr hs hi
      have hk9 := uv_k hxe hx (by omega) hk
      have hacc1 := uv_acc_lt (b := y % 128) hacc (by omega)
      have hxe1 := uv_acc hxe
      have hR := readByte_ok _ rb gb cap (i + k) l hrd hi
      have hO : bits .or .u64 (acc : Int) (IntKind.u64.wrap (IntKind.u64.wrap (bits .and .u8 ((l[i + k].toNat : Nat) : Int) 127) * 2 ^ (7 * k))) = ((acc + y % 128 * 2 ^ (7 * k) : Nat) : Int) := by
        have := or_shift_mask acc (l[i + k].toNat) k (by omega) hacc (by rw [hb, show (y % 128 + 128) % 128 = y % 128 by omega]; omega)
        rw [this, hb, show (y % 128 + 128) % 128 = y % 128 by omega]
      have hge : ¬ ((l[i + k].toNat : Nat) : Int) < 128 := by omega
      generalize l[i + k].toNat = b at *
      have HH : Hid (x = (acc + y % 128 * 2 ^ (7 * k)) + y / 128 * 2 ^ (7 * (k + 1)) ∧ acc + y % 128 * 2 ^ (7 * k) < 2 ^ (7 * (k + 1)) ∧ l.drop (i + k + 1) ++ suf = Lib.uvarint (y / 128) ∧ bits .or .u64 (acc : Int) (IntKind.u64.wrap (IntKind.u64.wrap (bits .and .u8 (b : Int) 127) * 2 ^ (7 * k))) = ((acc + y % 128 * 2 ^ (7 * k) : Nat) : Int)) := ⟨hxe1, hacc1, hdr1, hO⟩
      clear hb hdr hl hxe hxe1 hacc hacc1 hdr1 hO eq1 hgl1 hgl hy
      go_wp2_with (go_at_call 39; refine hR.mono ?_; rintro e w1 ⟨rfl, hg1, hrd1⟩)
      obtain ⟨q1, q2, q4, q5⟩ := HH.out
      refine ⟨⟨k + 1, acc + y % 128 * 2 ^ (7 * k), y / 128, by go_num, by go_num, by rw [q5], by omega, q2, q1, q4, grown_trans hgr hg1, hrd1⟩, by simp [intOf]; omega⟩
    · have hik : i + k = l.length := by omega
      rw [hik] at hrd
      have hR := readByte_eof _ rb gb cap l aE aU aS aO hrd hgl1
      have hal : acc < 18446744073709551616 := by omega
      clear hxe hacc hl hdr hik hle hx hi
      by_cases hk0 : (0 : Int) < (k : Int)
      · go_wp2_with (go_at_call 39; refine hR.mono ?_; rintro e w1 ⟨rfl, hg1, hrd1⟩; have g0 := (hgl1.grown hg1 hrb).g0; have g1 := (hgl1.grown hg1 hrb).g1)
        go_ret2
        exact ⟨acc, aU, rfl, hal, Or.inr rfl, grown_trans hgr hg1, hrd1⟩
      · obtain rfl : k = 0 := by omega
        go_wp2_with (go_at_call 39; refine hR.mono ?_; rintro e w1 ⟨rfl, hg1, hrd1⟩; have g0 := (hgl1.grown hg1 hrb).g0; have g1 := (hgl1.grown hg1 hrb).g1)
        go_ret2
        exact ⟨acc, aE, rfl, hal, Or.inl rfl, grown_trans hgr hg1, hrd1⟩
end Go.Proofs.YbulkbsrsFmt
