/-
  Small laws on the bit operations by which package time reads the parts of a time: plain numbers, no program.
-/
import Derived.WalkKit
namespace Go.Proofs.Ytpaociigfbibbaa
open Go.RowKit

theorem ofInt_u64 (a : Nat) (ha : a < 18446744073709551616) : (BitVec.ofInt 64 (a : Int)).toNat = a := by
  rw [BitVec.ofInt_natCast, BitVec.toNat_ofNat]; exact Nat.mod_eq_of_lt (by omega)

theorem wrap_u64 (n : Int) : IntKind.u64.wrap n = n % 18446744073709551616 := by simp [IntKind.wrap, IntKind.bits, IntKind.signed]

theorem and_nat (a b : Nat) (ha : a < 18446744073709551616) (hb : b < 18446744073709551616) : bits .and .u64 (a : Int) (b : Int) = ((a &&& b : Nat) : Int) := by
  have hx : a &&& b < 2 ^ 64 := Nat.and_lt_two_pow _ (by omega)
  show IntKind.u64.wrap ((BitVec.ofInt 64 (a : Int) &&& BitVec.ofInt 64 (b : Int)).toNat : Int) = _
  rw [BitVec.toNat_and, ofInt_u64 a ha, ofInt_u64 b hb, wrap_u64]
  omega

theorem or_nat (a b : Nat) (ha : a < 18446744073709551616) (hb : b < 18446744073709551616) : bits .or .u64 (a : Int) (b : Int) = ((a ||| b : Nat) : Int) := by
  have hx : a ||| b < 2 ^ 64 := Nat.or_lt_two_pow (by omega) (by omega)
  show IntKind.u64.wrap ((BitVec.ofInt 64 (a : Int) ||| BitVec.ofInt 64 (b : Int)).toNat : Int) = _
  rw [BitVec.toNat_or, ofInt_u64 a ha, ofInt_u64 b hb, wrap_u64]
  omega

theorem andNot_nat (a b : Nat) (ha : a < 18446744073709551616) (hb : b < 18446744073709551616) : bits .andNot .u64 (a : Int) (b : Int) = ((a &&& (18446744073709551615 - b) : Nat) : Int) := by
  have hx : a &&& (18446744073709551615 - b) < 2 ^ 64 := Nat.and_lt_two_pow _ (by omega)
  show IntKind.u64.wrap ((BitVec.ofInt 64 (a : Int) &&& ~~~BitVec.ofInt 64 (b : Int)).toNat : Int) = _
  rw [BitVec.toNat_and, BitVec.toNat_not, ofInt_u64 a ha, ofInt_u64 b hb, wrap_u64]
  have e : 2 ^ 64 - 1 - b = 18446744073709551615 - b := by omega
  rw [e]
  omega

/-- The nanoseconds' mask leaves what is below a second. -/
theorem and_mask (n : Int) (h0 : 0 ≤ n) (h1 : n < 1000000000) : bits .and .u64 n 1073741823 = n := by
  obtain ⟨a, rfl⟩ := Int.eq_ofNat_of_zero_le h0
  have e := and_nat a 1073741823 (by omega) (by omega)
  have e2 : a &&& 1073741823 = a := by
    have := Nat.and_two_pow_sub_one_eq_mod a 30
    rw [show (2 : Nat) ^ 30 - 1 = 1073741823 from rfl] at this
    rw [this]; exact Nat.mod_eq_of_lt (by omega)
  rw [e2] at e
  exact e

theorem nat_top (a : Nat) (h : a < 9223372036854775808) : a &&& 9223372036854775808 = 0 := by
  have h2 : a < 2 ^ 63 := h
  apply Nat.eq_of_testBit_eq
  intro i
  rw [Nat.testBit_and, Nat.zero_testBit]
  by_cases hi : i = 63
  · subst hi; rw [Nat.testBit_lt_two_pow h2]; rfl
  · rw [show (9223372036854775808 : Nat) = 2 ^ 63 from rfl, Nat.testBit_two_pow]
    have : decide (63 = i) = false := by simp; omega
    rw [this, Bool.and_false]

/-- The mark of the monotonic clock is not set. -/
theorem and_top (n : Int) (h0 : 0 ≤ n) (h1 : n < 1000000000) : bits .and .u64 n 9223372036854775808 = 0 := by
  obtain ⟨a, rfl⟩ := Int.eq_ofNat_of_zero_le h0
  have e := and_nat a 9223372036854775808 (by omega) (by omega)
  rw [nat_top a (by omega)] at e
  exact e

theorem and_and_top (m n : Int) (h0 : 0 ≤ m) (h1 : m < 1000000000) (h2 : 0 ≤ n) (h3 : n < 1000000000) : bits .and .u64 (bits .and .u64 m n) 9223372036854775808 = 0 := by
  obtain ⟨a, rfl⟩ := Int.eq_ofNat_of_zero_le h0
  obtain ⟨b, rfl⟩ := Int.eq_ofNat_of_zero_le h2
  have hx : a &&& b < 2 ^ 30 := Nat.and_lt_two_pow _ (by omega)
  have e1 := and_nat a b (by omega) (by omega)
  have e := and_nat (a &&& b) 9223372036854775808 (by omega) (by omega)
  rw [nat_top (a &&& b) (by omega)] at e
  rw [show ((a : Nat) : Int) = (a : Int) from rfl] at e1
  show bits .and .u64 (bits .and .u64 (a : Int) (b : Int)) 9223372036854775808 = 0
  rw [e1]
  exact e

/-- Behind the mask nothing is left of the nanoseconds, so the new ones are just laid in. -/
theorem lay_nsec (n m : Int) (h0 : 0 ≤ n) (h1 : n < 1000000000) (h2 : 0 ≤ m) (h3 : m < 1000000000) : bits .or .u64 (bits .andNot .u64 n 1073741823) m = m := by
  obtain ⟨a, rfl⟩ := Int.eq_ofNat_of_zero_le h0
  obtain ⟨b, rfl⟩ := Int.eq_ofNat_of_zero_le h2
  have e1 := andNot_nat a 1073741823 (by omega) (by omega)
  have hz : a &&& (18446744073709551615 - 1073741823) = 0 := by
    have h2 : a < 2 ^ 30 := by omega
    apply Nat.eq_of_testBit_eq
    intro i
    rw [Nat.testBit_and, Nat.zero_testBit]
    by_cases hi : i < 30
    · have : (18446744073709551615 - 1073741823 : Nat) = 2 ^ 30 * 17179869183 := rfl
      rw [this, Nat.testBit_two_pow_mul]
      have : decide (i ≥ 30) = false := by simp; omega
      rw [this, Bool.false_and, Bool.and_false]
    · have h3 : a < 2 ^ i := Nat.lt_of_lt_of_le h2 (Nat.pow_le_pow_right (by omega) (by omega))
      rw [Nat.testBit_lt_two_pow h3, Bool.false_and]
  rw [hz] at e1
  have e2 := or_nat 0 b (by omega) (by omega)
  rw [Nat.zero_or] at e2
  show bits .or .u64 (bits .andNot .u64 (a : Int) 1073741823) (b : Int) = (b : Int)
  rw [show (1073741823 : Int) = ((1073741823 : Nat) : Int) from rfl, e1]
  exact e2

end Go.Proofs.Ytpaociigfbibbaa
