/-
  PLAIN LAWS of seat b6616614a: bits of a wall clock word below 2^30; seconds and nanoseconds; no Go in sight.
-/
import Derived.WalkKit
namespace Go.Proofs.Qxb6616614a
open Go.RowKit

theorem and_top (n : Int) (h0 : 0 ≤ n) (h1 : n < 1073741824) : bits .and .u64 n 9223372036854775808 = 0 := by
  rw [u64_and n _ h0 (by omega) (by omega) (by omega)]
  have h : n.toNat &&& (9223372036854775808 : Int).toNat = 0 := by
    show n.toNat &&& 2 ^ 63 = 0
    apply Nat.eq_of_testBit_eq
    intro i
    rw [Nat.testBit_and, Nat.testBit_two_pow, Nat.zero_testBit]
    by_cases hi : 63 = i
    · subst hi
      have : n.toNat.testBit 63 = false := Nat.testBit_lt_two_pow (by omega)
      simp [this]
    · simp [hi]
  rw [h]; rfl
theorem and_mask (n : Int) (h0 : 0 ≤ n) (h1 : n < 1073741824) : bits .and .u64 n 1073741823 = n := by
  rw [u64_and n _ h0 (by omega) (by omega) (by omega)]
  have h : n.toNat &&& (1073741823 : Int).toNat = n.toNat := by
    show n.toNat &&& (2 ^ 30 - 1) = n.toNat
    rw [Nat.and_two_pow_sub_one_eq_mod]
    exact Nat.mod_eq_of_lt (by omega)
  rw [h]; omega
theorem or_zero (n : Int) (h0 : 0 ≤ n) (h1 : n < 1073741824) : bits .or .u64 0 n = n := by
  rw [u64_or 0 n (by omega) (by omega) h0 (by omega)]
  simp; omega
theorem and_self (n : Int) (h0 : 0 ≤ n) (h1 : n < 1073741824) : bits .and .u64 n n = n := by
  rw [u64_and n _ h0 (by omega) h0 (by omega)]
  simp; omega
theorem andNot_zero : bits .andNot .u64 0 1073741823 = 0 := by
  rw [u64_andNot 0 _ (by omega) (by omega) (by omega) (by omega)]
  simp

end Go.Proofs.Qxb6616614a
