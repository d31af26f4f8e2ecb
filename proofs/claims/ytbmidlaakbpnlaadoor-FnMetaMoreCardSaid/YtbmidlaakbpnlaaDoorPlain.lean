/-
  PLAIN LEMMAS: numbers, bits, lists. Nothing of the program is in sight.
-/
import Derived.Laws.Bits
import Derived.Laws.BitsAllLaws
import Derived.RowKit
namespace Go.Proofs.YtbmidlaakbpnlaaDoor.Plain

/-! ### Numbers rounded to multiples of four -/

theorem nat_andNot3 (a : Nat) (h : a < 2 ^ 64) : a &&& (2 ^ 64 - (3 + 1)) = a / 4 * 4 := by
  apply Nat.eq_of_testBit_eq
  intro i
  have e4 : a / 4 * 4 = a / 2 ^ 2 * 2 ^ 2 := by rw [show (2 : Nat) ^ 2 = 4 from rfl]
  rw [e4, Nat.testBit_and, Nat.testBit_two_pow_sub_succ (by decide), Nat.testBit_mul_two_pow, Nat.testBit_div_two_pow]
  have h3 : (3 : Nat).testBit i = decide (i < 2) := by
    have := Nat.testBit_two_pow_sub_one 2 i
    simpa using this
  rw [h3]
  by_cases hi : i < 2
  · simp [hi, Nat.not_le.2 hi]
  · have h2 : 2 ≤ i := by omega
    by_cases h64 : i < 64
    · simp [hi, h64, h2]
    · have : a.testBit i = false := Nat.testBit_lt_two_pow (Nat.lt_of_lt_of_le h (Nat.pow_le_pow_right (by decide) (by omega)))
      simp [this, h2]

theorem wrap_i64_small (n : Int) (h0 : 0 ≤ n) (h1 : n < 9223372036854775808) : IntKind.i64.wrap n = n := by
  simp [IntKind.wrap, IntKind.bits, IntKind.signed]
  omega

theorem i64_andNot3 (a : Int) (h0 : 0 ≤ a) (h1 : a < 4611686018427387904) : bits .andNot .i64 a 3 = a / 4 * 4 := by
  obtain ⟨n, rfl⟩ := Int.eq_ofNat_of_zero_le h0
  have hn : n < 4611686018427387904 := by omega
  have e0 : (BitVec.ofInt 64 (n : Int)).toNat = n := by
    simp
    omega
  show IntKind.i64.wrap ((BitVec.ofInt 64 (n : Int) &&& ~~~BitVec.ofInt 64 3).toNat : Int) = _
  have h3 : (BitVec.ofInt 64 3).toNat = 3 := by decide
  rw [BitVec.toNat_and, BitVec.toNat_not, e0, h3, show 2 ^ 64 - 1 - 3 = 2 ^ 64 - (3 + 1) by decide, nat_andNot3 n (by omega)]
  rw [wrap_i64_small _ (by omega) (by omega)]
  omega

/-! ### The bits of numbers by seven bits -/
/-- 2 to the 64, behind a name. -/
@[irreducible] def M64 : Nat := 18446744073709551616
theorem and127 (c : Nat) (h : c < M64) : bits .and .u64 (c : Int) 127 = ((c % 128 : Nat) : Int) := by
  have := u64_and_nat c 127 (by unfold M64 at h; omega) (by omega)
  rw [show (127 : Int) = ((127 : Nat) : Int) from rfl, this, show 127 = 2 ^ 7 - 1 from rfl, Nat.and_two_pow_sub_one_eq_mod]
theorem and127u8 (c : Nat) (h : c < 256) : bits .and .u8 (c : Int) 127 = ((c % 128 : Nat) : Int) := by
  have := u8_and_nat c 127 h (by omega)
  rw [show (127 : Int) = ((127 : Nat) : Int) from rfl, this, show 127 = 2 ^ 7 - 1 from rfl, Nat.and_two_pow_sub_one_eq_mod]
theorem nat_and128 : ∀ c, c < 256 → c &&& 128 = c / 128 * 128 := by decide +kernel
theorem nat_or128 : ∀ c, c < 128 → c ||| 128 = c + 128 := by decide +kernel
theorem and128 (c : Nat) (h : c < 256) : bits .and .u8 (c : Int) 128 = ((c / 128 * 128 : Nat) : Int) := by
  have := u8_and_nat c 128 h (by omega)
  rw [show (128 : Int) = ((128 : Nat) : Int) from rfl, this, nat_and128 c h]
theorem or128 (c : Nat) (h : c < 128) : bits .or .u8 (c : Int) 128 = ((c + 128 : Nat) : Int) := by
  have := u8_or_nat c 128 (by omega) (by omega)
  rw [show (128 : Int) = ((128 : Nat) : Int) from rfl, this, nat_or128 c h]
theorem wrap_u64 (n : Int) (h0 : 0 ≤ n) (h1 : n < (M64 : Int)) : IntKind.u64.wrap n = n := by
  unfold M64 at h1
  simp [IntKind.wrap, IntKind.bits, IntKind.signed]
  omega
theorem wrap_u64_div (c : Nat) (h : c < M64) : IntKind.u64.wrap ((c : Int) / 128) = (c : Int) / 128 :=
  wrap_u64 _ (by omega) (by omega)
end Go.Proofs.YtbmidlaakbpnlaaDoor.Plain
