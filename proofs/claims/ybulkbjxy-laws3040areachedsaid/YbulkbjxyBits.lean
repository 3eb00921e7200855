import Derived.Laws.BitsAllLaws
namespace Go.Proofs.Ybulkbjxy
open Go

theorem and_low (n : Int) (n0 : 0 ≤ n) (n1 : n ≤ 999999999) : bits .and .u64 n 1073741823 = n := by
  rw [u64_and n 1073741823 n0 (by omega) (by omega) (by omega)]
  have e : (1073741823 : Int).toNat = 2 ^ 30 - 1 := rfl
  rw [e, Nat.and_two_pow_sub_one_eq_mod, Nat.mod_eq_of_lt (by omega)]
  omega
theorem and_top (n : Int) (n0 : 0 ≤ n) (n1 : n ≤ 999999999) : bits .and .u64 n 9223372036854775808 = 0 := by
  rw [u64_and n 9223372036854775808 n0 (by omega) (by omega) (by omega)]
  have e : (9223372036854775808 : Int).toNat = 2 ^ 63 := rfl
  rw [e, nat_bit, Nat.div_eq_of_lt (by omega)]
  rfl
theorem top_ne (n : Int) (n0 : 0 ≤ n) (n1 : n ≤ 999999999) : (bits .and .u64 n 9223372036854775808 != 0) = false := by
  rw [and_top n n0 n1]; rfl
theorem and_le (n m : Int) (n0 : 0 ≤ n) (n1 : n ≤ 999999999) (m0 : 0 ≤ m) (m1 : m ≤ 999999999) : 0 ≤ bits .and .u64 n m ∧ bits .and .u64 n m ≤ 999999999 := by
  rw [u64_and n m n0 (by omega) m0 (by omega)]
  have := Nat.and_le_left (n := n.toNat) (m := m.toNat)
  omega
theorem top2_ne (n m : Int) (n0 : 0 ≤ n) (n1 : n ≤ 999999999) (m0 : 0 ≤ m) (m1 : m ≤ 999999999) : (bits .and .u64 (bits .and .u64 n m) 9223372036854775808 != 0) = false :=
  top_ne _ (and_le n m n0 n1 m0 m1).1 (and_le n m n0 n1 m0 m1).2
theorem andNot_low (n : Int) (n0 : 0 ≤ n) (n1 : n ≤ 999999999) : bits .andNot .u64 n 1073741823 = 0 := by
  rw [u64_andNot n 1073741823 n0 (by omega) (by omega) (by omega)]
  have e : (18446744073709551615 - (1073741823 : Int).toNat) = 2 ^ 30 * (2 ^ 34 - 1) := rfl
  rw [e]
  suffices h : n.toNat &&& 2 ^ 30 * (2 ^ 34 - 1) = 0 by rw [h]; rfl
  apply Nat.eq_of_testBit_eq
  intro j
  rw [Nat.testBit_and, Nat.testBit_two_pow_mul]
  by_cases h : 30 ≤ j
  · have : n.toNat.testBit j = false := Nat.testBit_lt_two_pow (Nat.lt_of_lt_of_le (show n.toNat < 2 ^ 30 by omega) (Nat.pow_le_pow_right (by omega) h))
    simp [this]
  · simp [h]
theorem or_zero (m : Int) (m0 : 0 ≤ m) (m1 : m ≤ 999999999) : bits .or .u64 0 m = m := by
  rw [u64_or 0 m (by omega) (by omega) m0 (by omega)]
  simp; omega
end Go.Proofs.Ybulkbjxy
