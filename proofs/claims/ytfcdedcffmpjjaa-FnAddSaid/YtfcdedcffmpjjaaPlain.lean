/-
  PLAIN LEMMAS: numbers, bits, lists. Nothing of the program is in sight.
-/
import Derived.Laws.Bits
import Derived.Laws.BitsAllLaws
import Derived.RowKit
namespace Go.Proofs.Ytfcdedcffmpjjaa.Plain

/-! ### Numbers rounded to multiples of four -/

theorem nat_andNot3 (a : Nat) (h : a < 2 ^ 64) : a &&& (2 ^ 64 - (3 + 1)) = a / 4 * 4 := by
  apply Nat.eq_of_testBit_eq
  intro i
  have e4 : a / 4 * 4 = a / 2 ^ 2 * 2 ^ 2 := by rw [show (2 : Nat) ^ 2 = 4 from rfl]
  rw [e4, Nat.testBit_and, Nat.testBit_two_pow_sub_succ (by decide), Nat.testBit_mul_two_pow, Nat.testBit_div_two_pow]
  have h3 : (3 : Nat).testBit i = decide (i < 2) := by
    have := Nat.testBit_two_pow_sub_one 2 i
    simpa using this
  rw [h3]
  by_cases hi : i < 2
  · simp [hi, Nat.not_le.2 hi]
  · have h2 : 2 ≤ i := by omega
    by_cases h64 : i < 64
    · simp [hi, h64, h2]
    · have : a.testBit i = false := Nat.testBit_lt_two_pow (Nat.lt_of_lt_of_le h (Nat.pow_le_pow_right (by decide) (by omega)))
      simp [this, h2]

theorem wrap_i64_small (n : Int) (h0 : 0 ≤ n) (h1 : n < 9223372036854775808) : IntKind.i64.wrap n = n := by
  simp [IntKind.wrap, IntKind.bits, IntKind.signed]
  omega

theorem i64_andNot3 (a : Int) (h0 : 0 ≤ a) (h1 : a < 4611686018427387904) : bits .andNot .i64 a 3 = a / 4 * 4 := by
  obtain ⟨n, rfl⟩ := Int.eq_ofNat_of_zero_le h0
  have hn : n < 4611686018427387904 := by omega
  have e0 : (BitVec.ofInt 64 (n : Int)).toNat = n := by
    simp
    omega
  show IntKind.i64.wrap ((BitVec.ofInt 64 (n : Int) &&& ~~~BitVec.ofInt 64 3).toNat : Int) = _
  have h3 : (BitVec.ofInt 64 3).toNat = 3 := by decide
  rw [BitVec.toNat_and, BitVec.toNat_not, e0, h3, show 2 ^ 64 - 1 - 3 = 2 ^ 64 - (3 + 1) by decide, nat_andNot3 n (by omega)]
  rw [wrap_i64_small _ (by omega) (by omega)]
  omega
end Go.Proofs.Ytfcdedcffmpjjaa.Plain
