/- Bits of numbers as arithmetic: or of a multiple and what is below, and-not of a mask, a mask. Conditions: the ranges that each names. -/
import Derived.Laws.BitsAllLaws
import Derived.Laws.BitsLemmas
import Derived.IntWalk
namespace Go.Proofs.YtdjdcpcomhjnjaaDoor
open Go

theorem or_u64 (j : Nat) (a y : Int) (h0 : 0 ≤ a) (hy0 : 0 ≤ y) (hy : y < 2 ^ j) (hm : a % 2 ^ j = 0) (h1 : a < 18446744073709551616) (h2 : y < 18446744073709551616) : bits .or .u64 a y = a + y := by
  obtain ⟨A, rfl⟩ := Int.eq_ofNat_of_zero_le h0
  obtain ⟨Y, rfl⟩ := Int.eq_ofNat_of_zero_le hy0
  rw [u64_or_nat A Y (by omega) (by omega), nat_join j A Y (by exact_mod_cast hm) (by exact_mod_cast hy)]
  simp
theorem or_u32 (j : Nat) (a y : Int) (h0 : 0 ≤ a) (hy0 : 0 ≤ y) (hy : y < 2 ^ j) (hm : a % 2 ^ j = 0) (h1 : a < 4294967296) (h2 : y < 4294967296) : bits .or .u32 a y = a + y := by
  obtain ⟨A, rfl⟩ := Int.eq_ofNat_of_zero_le h0
  obtain ⟨Y, rfl⟩ := Int.eq_ofNat_of_zero_le hy0
  rw [u32_or_nat A Y (by omega) (by omega), nat_join j A Y (by exact_mod_cast hm) (by exact_mod_cast hy)]
  simp
theorem or_u8 (j : Nat) (a y : Int) (h0 : 0 ≤ a) (hy0 : 0 ≤ y) (hy : y < 2 ^ j) (hm : a % 2 ^ j = 0) (h1 : a < 256) (h2 : y < 256) : bits .or .u8 a y = a + y := by
  obtain ⟨A, rfl⟩ := Int.eq_ofNat_of_zero_le h0
  obtain ⟨Y, rfl⟩ := Int.eq_ofNat_of_zero_le hy0
  rw [u8_or_nat A Y (by omega) (by omega), nat_join j A Y (by exact_mod_cast hm) (by exact_mod_cast hy)]
  simp
theorem or_u8_r (j : Nat) (a y : Int) (h0 : 0 ≤ a) (hy0 : 0 ≤ y) (hy : y < 2 ^ j) (hm : a % 2 ^ j = 0) (h1 : a < 256) (h2 : y < 256) : bits .or .u8 y a = a + y := by
  obtain ⟨A, rfl⟩ := Int.eq_ofNat_of_zero_le h0
  obtain ⟨Y, rfl⟩ := Int.eq_ofNat_of_zero_le hy0
  rw [u8_or_nat Y A (by omega) (by omega), Nat.or_comm, nat_join j A Y (by exact_mod_cast hm) (by exact_mod_cast hy)]
  simp
theorem ofInt_i64 (a : Nat) (ha : a < 9223372036854775808) : (BitVec.ofInt 64 (a : Int)).toNat = a := by
  rw [BitVec.ofInt_natCast, BitVec.toNat_ofNat]; exact Nat.mod_eq_of_lt (by omega)
theorem or_i64 (j : Nat) (a y : Int) (h0 : 0 ≤ a) (hy0 : 0 ≤ y) (hy : y < 2 ^ j) (hm : a % 2 ^ j = 0) (h1 : a + y < 9223372036854775808) : bits .or .i64 a y = a + y := by
  obtain ⟨A, rfl⟩ := Int.eq_ofNat_of_zero_le h0
  obtain ⟨Y, rfl⟩ := Int.eq_ofNat_of_zero_le hy0
  show IntKind.i64.wrap ((BitVec.ofInt 64 (A : Int) ||| BitVec.ofInt 64 (Y : Int)).toNat : Int) = _
  rw [BitVec.toNat_or, ofInt_i64 A (by omega), ofInt_i64 Y (by omega), nat_join j A Y (by exact_mod_cast hm) (by exact_mod_cast hy), IntKind.wrap_i64]
  omega
theorem nat_clear (j a : Nat) (ha : a < 2 ^ 64) (hj : j ≤ 64) : a &&& (2 ^ 64 - 2 ^ j) = a / 2 ^ j * 2 ^ j := by
  have e : 2 ^ 64 - 2 ^ j = 2 ^ j * (2 ^ (64 - j) - 1) := by
    rw [Nat.mul_sub, ← Nat.pow_add, Nat.mul_one, show j + (64 - j) = 64 by omega]
  rw [e, Nat.mul_comm (a / 2 ^ j)]
  apply Nat.eq_of_testBit_eq
  intro i
  rw [Nat.testBit_and, Nat.testBit_two_pow_mul, Nat.testBit_two_pow_mul, Nat.testBit_two_pow_sub_one, Nat.testBit_div_two_pow]
  by_cases h : j ≤ i
  · simp only [h, decide_true, Bool.true_and]
    rw [show i - j + j = i by omega]
    by_cases h2 : i - j < 64 - j
    · simp [h2]
    · have : a.testBit i = false := Nat.testBit_lt_two_pow (Nat.lt_of_lt_of_le ha (Nat.pow_le_pow_right (by decide) (by omega)))
      simp [this]
  · simp [h]
theorem andNot_i64 (j : Nat) (hj : j ≤ 62) (a m : Int) (h0 : 0 ≤ a) (h1 : a < 9223372036854775808) (hm : m = 2 ^ j - 1) : bits .andNot .i64 a m = a - a % 2 ^ j := by
  obtain ⟨A, rfl⟩ := Int.eq_ofNat_of_zero_le h0
  have hp : 0 < 2 ^ j := Nat.two_pow_pos j
  have hp2 : 2 ^ j ≤ 2 ^ 62 := Nat.pow_le_pow_right (by decide) hj
  have em : m = ((2 ^ j - 1 : Nat) : Int) := by rw [hm, Int.natCast_sub hp]; simp
  rw [em]
  show IntKind.i64.wrap ((BitVec.ofInt 64 (A : Int) &&& ~~~BitVec.ofInt 64 ((2 ^ j - 1 : Nat) : Int)).toNat : Int) = _
  rw [BitVec.toNat_and, BitVec.toNat_not, ofInt_i64 A (by omega), ofInt_i64 (2 ^ j - 1) (by omega), show 2 ^ 64 - 1 - (2 ^ j - 1) = 2 ^ 64 - 2 ^ j by omega, nat_clear j A (by omega) (by omega), IntKind.wrap_i64]
  have hd := Nat.div_add_mod A (2 ^ j)
  have hc : A / 2 ^ j * 2 ^ j = 2 ^ j * (A / 2 ^ j) := Nat.mul_comm _ _
  have e2 : (A : Int) % 2 ^ j = ((A % 2 ^ j : Nat) : Int) := by simp
  rw [e2]
  omega
theorem mask_u8 (j : Nat) (hj : j ≤ 8) (x : Int) (h0 : 0 ≤ x) (h1 : x ≤ 255) : bits .and .u8 x (2 ^ j - 1) = x % 2 ^ j := bits_mask .u8 8 (by decide) wraps_u8 j hj x h0 (by omega)

theorem or4 (x y z u : Int) (hy : 0 ≤ y ∧ y ≤ 255) (hz : 0 ≤ z ∧ z ≤ 255) (hu : 0 ≤ u ∧ u ≤ 255) :
    bits .or .u64 (bits .or .u64 (bits .or .u64 (x % 64 * 16777216) (y * 65536)) (z * 256)) u = ((x % 64 * 256 + y) * 256 + z) * 256 + u := by
  rw [or_u64 24 (x % 64 * 16777216) (y * 65536) (by omega) (by omega) (by omega) (by omega) (by omega) (by omega),
    or_u64 16 _ (z * 256) (by omega) (by omega) (by omega) (by omega) (by omega) (by omega),
    or_u64 8 _ u (by omega) (by omega) (by omega) (by omega) (by omega) (by omega)]
  omega
theorem or8 (x0 x1 x2 x3 x4 x5 x6 x7 : Int) (h1 : 0 ≤ x1 ∧ x1 ≤ 255) (h2 : 0 ≤ x2 ∧ x2 ≤ 255) (h3 : 0 ≤ x3 ∧ x3 ≤ 255) (h4 : 0 ≤ x4 ∧ x4 ≤ 255) (h5 : 0 ≤ x5 ∧ x5 ≤ 255) (h6 : 0 ≤ x6 ∧ x6 ≤ 255) (h7 : 0 ≤ x7 ∧ x7 ≤ 255) :
    bits .or .u64 (bits .or .u64 (bits .or .u64 (bits .or .u64 (bits .or .u64 (bits .or .u64 (bits .or .u64 (x0 % 64 * 72057594037927936) (x1 * 281474976710656)) (x2 * 1099511627776)) (x3 * 4294967296)) (x4 * 16777216)) (x5 * 65536)) (x6 * 256)) x7
      = ((((((x0 % 64 * 256 + x1) * 256 + x2) * 256 + x3) * 256 + x4) * 256 + x5) * 256 + x6) * 256 + x7 := by
  rw [or_u64 56 (x0 % 64 * 72057594037927936) (x1 * 281474976710656) (by omega) (by omega) (by omega) (by omega) (by omega) (by omega),
    or_u64 48 _ (x2 * 1099511627776) (by omega) (by omega) (by omega) (by omega) (by omega) (by omega),
    or_u64 40 _ (x3 * 4294967296) (by omega) (by omega) (by omega) (by omega) (by omega) (by omega),
    or_u64 32 _ (x4 * 16777216) (by omega) (by omega) (by omega) (by omega) (by omega) (by omega),
    or_u64 24 _ (x5 * 65536) (by omega) (by omega) (by omega) (by omega) (by omega) (by omega),
    or_u64 16 _ (x6 * 256) (by omega) (by omega) (by omega) (by omega) (by omega) (by omega),
    or_u64 8 _ x7 (by omega) (by omega) (by omega) (by omega) (by omega) (by omega)]
  omega

end Go.Proofs.YtdjdcpcomhjnjaaDoor
