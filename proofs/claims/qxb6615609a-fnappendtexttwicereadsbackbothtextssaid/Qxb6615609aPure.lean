/-
  PLAIN FACTS: the unsigned LEB128 of a number of at most three bytes.
-/
import Derived.WalkKit
import Derived.Laws.BitsAllLaws
namespace Go.Proofs.Qxb6615609a
open Go.RowKit

/-- The LEB128 bytes of x, x below 2^21. -/
def uv (x : Nat) : List Int :=
  if x < 128 then [(x : Int)] else if x < 16384 then [(x % 128 + 128 : Nat), (x / 128 : Nat)] else [(x % 128 + 128 : Nat), (x / 128 % 128 + 128 : Nat), (x / 16384 : Nat)]

theorem uv1 {x : Nat} (h : x < 128) : uv x = [(x : Int)] := by unfold uv; rw [if_pos h]
theorem uv2 {x : Nat} (h : ¬ x < 128) (g : x < 16384) : uv x = [((x % 128 + 128 : Nat) : Int), ((x / 128 : Nat) : Int)] := by unfold uv; rw [if_neg h, if_pos g]
theorem uv3 {x : Nat} (h : ¬ x < 16384) : uv x = [((x % 128 + 128 : Nat) : Int), ((x / 128 % 128 + 128 : Nat) : Int), ((x / 16384 : Nat) : Int)] := by unfold uv; rw [if_neg (by omega), if_neg h]
theorem uv_len (x : Nat) : 1 ≤ (uv x).length ∧ (uv x).length ≤ 3 := by
  unfold uv; split
  · simp
  · split <;> simp

theorem or_sum (a b i : Nat) (h : a < 2 ^ i) (hs : 2 ^ i * b + a < 18446744073709551616) : bits .or .u64 (a : Int) ((2 ^ i * b : Nat) : Int) = ((2 ^ i * b + a : Nat) : Int) := by
  rw [u64_or (a : Int) ((2 ^ i * b : Nat) : Int) (by omega) (by omega) (by omega) (by omega), Int.toNat_natCast, Int.toNat_natCast, Nat.or_comm, Nat.two_pow_add_eq_or_of_lt h]
theorem or_zero (b : Int) (h0 : 0 ≤ b) (h : b < 18446744073709551616) : bits .or .u64 0 b = b := by
  obtain ⟨b, rfl⟩ := Int.eq_ofNat_of_zero_le h0
  have := or_sum 0 b 0 (by decide) (by simp; omega)
  simpa using this
theorem or_7 (a b : Int) (a0 : 0 ≤ a) (a1 : a < 128) (b0 : 0 ≤ b) (b1 : b < 16777216) : bits .or .u64 a (b * 128) = a + b * 128 := by
  obtain ⟨a, rfl⟩ := Int.eq_ofNat_of_zero_le a0
  obtain ⟨b, rfl⟩ := Int.eq_ofNat_of_zero_le b0
  have := or_sum a b 7 (by have : (2 : Nat) ^ 7 = 128 := by decide
                           omega) (by omega)
  rw [show ((b : Int) * 128) = ((2 ^ 7 * b : Nat) : Int) by omega, this]
  omega
theorem or_14 (a b : Int) (a0 : 0 ≤ a) (a1 : a < 16384) (b0 : 0 ≤ b) (b1 : b < 16777216) : bits .or .u64 a (b * 16384) = a + b * 16384 := by
  obtain ⟨a, rfl⟩ := Int.eq_ofNat_of_zero_le a0
  obtain ⟨b, rfl⟩ := Int.eq_ofNat_of_zero_le b0
  have := or_sum a b 14 (by have : (2 : Nat) ^ 14 = 16384 := by decide
                            omega) (by omega)
  rw [show ((b : Int) * 16384) = ((2 ^ 14 * b : Nat) : Int) by omega, this]
  omega
theorem and_127 (y : Int) (h0 : 0 ≤ y) (h1 : y < 128) : bits .and .u8 (y + 128) 127 = y := by
  rw [u8_and (y + 128) 127 (by omega) (by omega) (by decide) (by decide)]
  have e : (127 : Int).toNat = 2 ^ 7 - 1 := by decide
  rw [e, Nat.and_two_pow_sub_one_eq_mod]
  have : (2 : Nat) ^ 7 = 128 := by decide
  omega
theorem or_128 (y : Int) (h0 : 0 ≤ y) (h1 : y < 128) : bits .or .u8 y 128 = y + 128 := by
  rw [u8_or y 128 h0 (by omega) (by decide) (by decide)]
  have e : (128 : Int).toNat = 2 ^ 7 * 1 := by decide
  rw [e, Nat.or_comm, ← Nat.two_pow_add_eq_or_of_lt (by have : (2 : Nat) ^ 7 = 128 := by decide
                                                        omega)]
  omega
theorem or_128_high (y : Int) (h0 : 128 ≤ y) (h1 : y < 256) : bits .or .u8 y 128 = y := by
  rw [u8_or y 128 (by omega) (by omega) (by decide) (by decide)]
  have e : (128 : Int).toNat = 2 ^ 7 * 1 := by decide
  have p : (2 : Nat) ^ 7 = 128 := by decide
  have d : y.toNat = 2 ^ 7 * 1 + (y.toNat - 128) := by omega
  have l : y.toNat - 128 < 2 ^ 7 := by omega
  have k := Nat.two_pow_add_eq_or_of_lt l 1
  rw [e, d, k]
  rw [Nat.or_comm, ← Nat.or_assoc, Nat.or_self, ← k]
  omega
theorem or_low (x : Int) : bits .or .u8 (x % 256) 128 = x % 128 + 128 := by
  by_cases h : x % 256 < 128
  · rw [or_128 _ (by omega) h]; omega
  · rw [or_128_high _ (by omega) (by omega)]; omega

end Go.Proofs.Qxb6615609a
