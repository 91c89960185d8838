import Derived.WalkKit
namespace Go.Proofs.Qxb6606019a
open Go.RowKit

theorem bit_lo (n : Int) (h0 : 0 ≤ n) (h1 : n < 1000000000) : bits .and .u64 n 1073741823 = n := by
  rw [u64_and n 1073741823 h0 (by omega) (by omega) (by omega)]
  have : n.toNat &&& (1073741823 : Int).toNat = n.toNat % 2 ^ 30 := Nat.and_two_pow_sub_one_eq_mod n.toNat 30
  rw [this]
  omega
theorem bit_hi (n : Int) (h0 : 0 ≤ n) (h1 : n < 1000000000) : bits .and .u64 n 9223372036854775808 = 0 := by
  rw [u64_and n 9223372036854775808 h0 (by omega) (by omega) (by omega)]
  have : n.toNat &&& (9223372036854775808 : Int).toNat = n.toNat / 2 ^ 63 % 2 * 2 ^ 63 := nat_bit 63 n.toNat
  rw [this]
  have h : n.toNat / 2 ^ 63 = 0 := Nat.div_eq_of_lt (by omega)
  rw [h]; rfl
theorem bit_hi2 (n m : Int) (h0 : 0 ≤ n) (h1 : n < 1000000000) (m0 : 0 ≤ m) (m1 : m < 1000000000) : bits .and .u64 (bits .and .u64 n m) 9223372036854775808 = 0 := by
  rw [u64_and n m h0 (by omega) m0 (by omega)]
  have : n.toNat &&& m.toNat ≤ n.toNat := Nat.and_le_left
  exact bit_hi _ (by omega) (by omega)
theorem bit_not (n : Int) (h0 : 0 ≤ n) (h1 : n < 1000000000) : bits .andNot .u64 n 1073741823 = 0 := by
  rw [u64_andNot n 1073741823 h0 (by omega) (by omega) (by omega)]
  have e : (18446744073709551615 : Nat) - (1073741823 : Int).toNat = 18446744072635809792 := by decide
  rw [e]
  have h : n.toNat &&& 18446744072635809792 = 0 := by
    apply Nat.eq_of_testBit_eq
    intro i
    rw [Nat.testBit_and, Nat.zero_testBit]
    by_cases hi : i < 30
    · have : Nat.testBit 18446744072635809792 i = false := by
        have e2 : (18446744072635809792 : Nat) = 2 ^ 30 * 17179869183 := by decide
        rw [e2, Nat.testBit_two_pow_mul]
        simp; omega
      simp [this]
    · have : Nat.testBit n.toNat i = false := Nat.testBit_lt_two_pow (Nat.lt_of_lt_of_le (show n.toNat < 2 ^ 30 by omega) (Nat.pow_le_pow_right (by omega) (by omega)))
      simp [this]
  rw [h]; rfl
theorem bit_or (n : Int) (h0 : 0 ≤ n) (h1 : n < 1000000000) : bits .or .u64 0 n = n := by
  rw [u64_or 0 n (by omega) (by omega) h0 (by omega)]
  simp; omega
end Go.Proofs.Qxb6606019a
