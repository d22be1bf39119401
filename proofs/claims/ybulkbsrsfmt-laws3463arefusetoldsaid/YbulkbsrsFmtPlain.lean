/-
  THE PLAIN LAWS OF THE VARINTS: no Go text in sight.
-/
import Derived.Lib.Varint
import Derived.Lib.VarintBits
namespace Go.Proofs.YbulkbsrsFmt
open Go

theorem pow7_succ (k : Nat) : (2 : Nat) ^ (7 * (k + 1)) = 128 * 2 ^ (7 * k) := by
  rw [Nat.mul_add, Nat.pow_add]
  omega

theorem pow7_63 {k : Nat} (h : k ≤ 9) : (2 : Nat) ^ (7 * k) ≤ 9223372036854775808 :=
  Nat.pow_le_pow_right (j := 63) (by decide) (by omega)

theorem or_shift (acc b k : Nat) (ha : acc < 2 ^ (7 * k)) (hb : acc + b * 2 ^ (7 * k) < 18446744073709551616) :
    bits .or .u64 (acc : Int) (IntKind.u64.wrap ((b : Int) * 2 ^ (7 * k))) = ((acc + b * 2 ^ (7 * k) : Nat) : Int) := by
  have e : ((b : Int) * 2 ^ (7 * k)) = ((b * 2 ^ (7 * k) : Nat) : Int) := by simp
  have ha' : ((acc : Int)) < 2 ^ (7 * k) := by
    have : ((acc : Int)) < ((2 ^ (7 * k) : Nat) : Int) := by omega
    simpa using this
  have hm : ((b * 2 ^ (7 * k) : Nat) : Int) % 2 ^ (7 * k) = 0 := by
    rw [Int.natCast_mul]
    simp
  rw [e, u64_wrap_id _ (by omega) (by omega)]
  rw [bits_join_low .u64 64 (by decide) wraps_u64 (7 * k) (acc : Int) _ (by omega) ha' (by omega) (by omega) hm (by omega)]
  omega

theorem or_shift9 (acc b : Nat) (ha : acc < 2 ^ (7 * 9)) (hb : acc + b * 2 ^ (7 * 9) < 18446744073709551616) :
    bits .or .u64 (acc : Int) ((b : Int) * 9223372036854775808) = ((acc + b * 2 ^ (7 * 9) : Nat) : Int) := by
  have h := or_shift acc b 9 ha hb
  have e9 : (2 : Nat) ^ (7 * 9) = 9223372036854775808 := by decide
  rw [e9] at hb
  rw [← h]
  have e10 : ((2 : Int) ^ (7 * 9)) = 9223372036854775808 := by decide
  rw [e10, u64_wrap_id _ (by omega) (by omega)]

theorem and127 (b : Nat) (h : b < 256) : bits .and .u8 (b : Int) 127 = ((b % 128 : Nat) : Int) := by
  rw [u8_and127 _ (by omega) (by omega)]
  omega

theorem or_shift_mask (acc b k : Nat) (hb8 : b < 256) (ha : acc < 2 ^ (7 * k)) (hb : acc + b % 128 * 2 ^ (7 * k) < 18446744073709551616) :
    bits .or .u64 (acc : Int) (IntKind.u64.wrap (IntKind.u64.wrap (bits .and .u8 (b : Int) 127) * 2 ^ (7 * k))) = ((acc + b % 128 * 2 ^ (7 * k) : Nat) : Int) := by
  rw [and127 b hb8, u64_wrap_id ((b % 128 : Nat) : Int) (by omega) (by omega)]
  exact or_shift acc (b % 128) k ha hb

theorem toU8 {n : Nat} (h : n < 256) : n.toUInt8.toNat = n := by
  simp
  omega

/-- What one byte of a varint says: the last one. -/
theorem uv_last {l rest : List UInt8} {p y : Nat} (h : l.drop p = Lib.uvarint y ++ rest) (hy : y < 128) (hp : p < l.length) : (l[p]).toNat = y := by
  rw [List.drop_eq_getElem_cons hp, Lib.uvarint_small hy] at h
  simp only [List.cons_append, List.cons.injEq] at h
  rw [h.1, toU8 (by omega)]
/-- .. and one that bears the bit 128. -/
theorem uv_more {l rest : List UInt8} {p y : Nat} (h : l.drop p = Lib.uvarint y ++ rest) (hy : 128 ≤ y) (hp : p < l.length) :
    (l[p]).toNat = y % 128 + 128 ∧ l.drop (p + 1) = Lib.uvarint (y / 128) ++ rest := by
  rw [List.drop_eq_getElem_cons hp, Lib.uvarint_big hy] at h
  simp only [List.cons_append, List.cons.injEq] at h
  exact ⟨by rw [h.1, toU8 (by omega)], h.2⟩
/-- A byte of a varint that is cut short bears the bit 128. -/
theorem uv_cut {l suf : List UInt8} {p y : Nat} (h : l.drop p ++ suf = Lib.uvarint y) (hs : suf ≠ []) (hp : p < l.length) :
    128 ≤ y ∧ (l[p]).toNat = y % 128 + 128 ∧ l.drop (p + 1) ++ suf = Lib.uvarint (y / 128) := by
  rw [List.drop_eq_getElem_cons hp] at h
  by_cases hy : y < 128
  · rw [Lib.uvarint_small hy] at h
    rw [List.cons_append] at h
    have h2 := (List.cons.inj h).2
    exact absurd (List.append_eq_nil_iff.1 h2).2 hs
  · rw [Lib.uvarint_big (by omega)] at h
    simp only [List.cons_append, List.cons.injEq] at h
    exact ⟨by omega, by rw [h.1, toU8 (by omega)], h.2⟩

/-- The number so far: one byte more. -/
theorem uv_acc {x acc y k : Nat} (h : x = acc + y * 2 ^ (7 * k)) : x = (acc + y % 128 * 2 ^ (7 * k)) + y / 128 * 2 ^ (7 * (k + 1)) := by
  rw [pow7_succ, h]
  have e : y = 128 * (y / 128) + y % 128 := by omega
  have e2 : y * 2 ^ (7 * k) = (y / 128) * (128 * 2 ^ (7 * k)) + y % 128 * 2 ^ (7 * k) := by
    rw [← Nat.mul_assoc, Nat.mul_comm (y / 128) 128, ← Nat.add_mul, ← e]
  omega
theorem uv_acc_lt {acc b k : Nat} (h : acc < 2 ^ (7 * k)) (hb : b < 128) : acc + b * 2 ^ (7 * k) < 2 ^ (7 * (k + 1)) := by
  rw [pow7_succ]
  have : b * 2 ^ (7 * k) ≤ 127 * 2 ^ (7 * k) := Nat.mul_le_mul_right _ (by omega)
  omega
theorem uv_k {x acc y k : Nat} (h : x = acc + y * 2 ^ (7 * k)) (hx : x < 18446744073709551616) (hy : 128 ≤ y) (hk : k ≤ 9) : k < 9 := by
  rcases Nat.lt_or_ge k 9 with h9 | h9
  · exact h9
  · obtain rfl : k = 9 := by omega
    have e9 : (2 : Nat) ^ (7 * 9) = 9223372036854775808 := by decide
    rw [e9] at h
    omega

/-- ZIG-ZAG, back. -/
def unzig (u : Nat) : Int := if u % 2 = 0 then (u / 2 : Nat) else -1 - ((u / 2 : Nat) : Int)
theorem unzig_zigzag (x : Int) : unzig (Lib.zigzag x) = x := by
  unfold unzig Lib.zigzag
  split <;> split <;> omega
theorem zigzag_lt (x : Int) (h0 : -9223372036854775808 ≤ x) (h1 : x ≤ 9223372036854775807) : Lib.zigzag x < 18446744073709551616 := by
  unfold Lib.zigzag
  split <;> omega
end Go.Proofs.YbulkbsrsFmt
