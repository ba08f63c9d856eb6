/-
  PLAIN FACTS on the bits of a uint64, and on nanoseconds.
-/
import Derived.WalkKit
import Derived.Laws.BitsAllLaws
namespace Go.Proofs.Qxb6615586a
open Go.RowKit

theorem and_low (x : Int) (h0 : 0 ≤ x) (h1 : x < 1000000000) : bits .and .u64 x 1073741823 = x := by
  rw [u64_and x 1073741823 h0 (by omega) (by decide) (by decide)]
  have e : (1073741823 : Int).toNat = 2 ^ 30 - 1 := by decide
  rw [e, Nat.and_two_pow_sub_one_eq_mod, Nat.mod_eq_of_lt (by have : (2 : Nat) ^ 30 = 1073741824 := by decide
                                                              omega)]
  omega
theorem and_high (x : Int) (h0 : 0 ≤ x) (h1 : x < 1000000000) : bits .and .u64 x 9223372036854775808 = 0 := by
  rw [u64_and x 9223372036854775808 h0 (by omega) (by decide) (by decide)]
  have e : (9223372036854775808 : Int).toNat = 2 ^ 63 := by decide
  have z : x.toNat &&& 2 ^ 63 = 0 := by
    apply Nat.eq_of_testBit_eq
    intro i
    rw [Nat.testBit_and, Nat.testBit_two_pow, Nat.zero_testBit]
    by_cases hi : 63 = i
    · subst hi
      rw [Nat.testBit_lt_two_pow (by have : (2 : Nat) ^ 63 = 9223372036854775808 := by decide
                                     omega)]
      rfl
    · simp [hi]
  rw [e, z]; rfl
theorem andNot_zero : bits .andNot .u64 0 1073741823 = 0 := by
  rw [u64_andNot 0 1073741823 (by decide) (by decide) (by decide) (by decide)]; decide
theorem or_zero (x : Int) (h0 : 0 ≤ x) (h1 : x < 1000000000) : bits .or .u64 0 x = x := by
  rw [u64_or 0 x (by decide) (by decide) h0 (by omega)]
  simp; omega
theorem and_both (x y : Int) (hx0 : 0 ≤ x) (hx1 : x < 1000000000) (hy0 : 0 ≤ y) (hy1 : y < 1000000000) : bits .and .u64 (bits .and .u64 x y) 9223372036854775808 = 0 := by
  have h := u64_and x y hx0 (by omega) hy0 (by omega)
  have hle : x.toNat &&& y.toNat ≤ x.toNat := Nat.and_le_left
  rw [h]
  exact and_high _ (by omega) (by omega)

end Go.Proofs.Qxb6615586a
