/- Bits of doubles. -/
import Derived.Test.YtkfnllonahlfeaaRfD
import Derived.Laws.BitsAllLaws
namespace Go.Proofs.Ytkfnllonahlfeaa.Rf
open Ieee
set_option linter.unusedVariables false
set_option linter.unusedSimpArgs false

theorem and_high (a j : Nat) (ha : a < 18446744073709551616) (hj : j ≤ 64) : a &&& (18446744073709551615 - (2 ^ j - 1)) = a / 2 ^ j * 2 ^ j := by
  have hp := Nat.two_pow_pos j
  have e1 : 18446744073709551615 - (2 ^ j - 1) = (2 ^ (64 - j) - 1) <<< j := by
    rw [Nat.shiftLeft_eq, Nat.sub_mul, ← Nat.pow_add, Nat.sub_add_cancel hj, Nat.one_mul]
    have e64 : (2 : Nat) ^ 64 = 18446744073709551616 := by decide
    rw [e64]
    omega
  rw [e1, ← Nat.shiftLeft_eq]
  apply Nat.eq_of_testBit_eq
  intro i
  rw [Nat.testBit_and, Nat.testBit_shiftLeft, Nat.testBit_shiftLeft, Nat.testBit_two_pow_sub_one, Nat.testBit_div_two_pow]
  by_cases h : j ≤ i
  · rw [decide_eq_true (show i ≥ j from h), show i - j + j = i by omega]
    by_cases h2 : i < 64
    · rw [decide_eq_true (show i - j < 64 - j by omega)]; simp
    · have : a.testBit i = false := Nat.testBit_lt_two_pow (Nat.lt_of_lt_of_le ha (by have := Nat.pow_le_pow_right (show 0 < 2 by omega) (show 64 ≤ i by omega); have e64 : (2 : Nat) ^ 64 = 18446744073709551616 := by decide
                                                                                      omega))
      rw [this]; simp
  · rw [decide_eq_false (show ¬ i ≥ j by omega)]; simp
theorem abs_bits (x : Nat) (h : x < 2 * 9223372036854775808) : Go.bits .andNot .u64 (x : Int) 9223372036854775808 = ((x % 9223372036854775808 : Nat) : Int) := by
  have := u64_andNot_nat x 9223372036854775808 (by omega) (by omega)
  rw [show ((9223372036854775808 : Nat) : Int) = 9223372036854775808 from rfl] at this
  rw [this]
  congr 1
  exact Nat.and_two_pow_sub_one_eq_mod x 63
theorem sign_bits (x : Nat) (h : x < 2 * 9223372036854775808) : Go.bits .and .u64 (x : Int) 9223372036854775808 = (((if sg x then 9223372036854775808 else 0) : Nat) : Int) := by
  have := u64_and_nat x 9223372036854775808 (by omega) (by omega)
  rw [show ((9223372036854775808 : Nat) : Int) = 9223372036854775808 from rfl] at this
  rw [this]
  congr 1
  have e := and_high x 63 (by omega) (by omega)
  rw [show 18446744073709551615 - (2 ^ 63 - 1) = 9223372036854775808 by decide] at e
  rw [e]
  unfold sg
  by_cases hs : x / 9223372036854775808 % 2 = 1
  · simp [hs]; omega
  · simp [hs]; omega
theorem exp_bits (x : Nat) (h : x < 2 * 9223372036854775808) : Go.bits .and .u64 ((x : Int) / 4503599627370496) 2047 = ((ex x : Nat) : Int) := by
  have := u64_and_nat (x / 4503599627370496) 2047 (by omega) (by omega)
  rw [show ((2047 : Nat) : Int) = 2047 from rfl, Int.natCast_ediv, show ((4503599627370496 : Nat) : Int) = 4503599627370496 from rfl] at this
  rw [this]
  congr 1
  have e := Nat.and_two_pow_sub_one_eq_mod (x / 4503599627370496) 11
  rw [show (2 : Nat) ^ 11 - 1 = 2047 by decide, show (2 : Nat) ^ 11 = 2048 by decide] at e
  rw [e]
  unfold ex rg
  omega
theorem one_bits (s : Nat) (h : s = 0 ∨ s = 9223372036854775808) : Go.bits .or .u64 (s : Int) 4607182418800017408 = ((s + 1023 * 4503599627370496 : Nat) : Int) := by
  rcases h with rfl | rfl
  · decide +kernel
  · decide +kernel
theorem clear_bits (x j : Nat) (h : x < 18446744073709551616) (hj : j ≤ 64) : Go.bits .andNot .u64 (x : Int) ((2 ^ j - 1 : Nat) : Int) = ((x / 2 ^ j * 2 ^ j : Nat) : Int) := by
  have hp : 2 ^ j ≤ 2 ^ 64 := Nat.pow_le_pow_right (by omega) hj
  have e64 : (2 : Nat) ^ 64 = 18446744073709551616 := by decide
  have := u64_andNot_nat x (2 ^ j - 1) h (by omega)
  rw [this, and_high x j h hj]
theorem half_shr (e : Nat) (h : e ≤ 51) : (2251799813685248 : Nat) / 2 ^ e = 2 ^ (51 - e) := by
  have : (2251799813685248 : Nat) = 2 ^ 51 := by decide
  rw [this, Nat.pow_div h (by omega)]
theorem frac_shr (e : Nat) (h : e ≤ 52) : (4503599627370495 : Nat) / 2 ^ e = 2 ^ (52 - e) - 1 := by
  have h1 : (4503599627370495 : Nat) = 2 ^ 52 - 1 := by decide
  rw [h1]
  have hp := Nat.two_pow_pos e
  have e2 : (2 : Nat) ^ 52 = 2 ^ (52 - e) * 2 ^ e := by rw [← Nat.pow_add, Nat.sub_add_cancel h]
  rw [e2]
  have hq := Nat.two_pow_pos (52 - e)
  obtain ⟨a, ha⟩ : ∃ a, 2 ^ (52 - e) = a + 1 := ⟨2 ^ (52 - e) - 1, by omega⟩
  rw [ha, Nat.add_mul, Nat.one_mul, Nat.add_sub_cancel]
  refine (Nat.div_eq_iff hp).2 ⟨by omega, by omega⟩
theorem low_bits (x : Nat) (h : x < 9223372036854775808) : Go.bits .andNot .u64 (x : Int) 9218868437227405312 = ((x % 4503599627370496 : Nat) : Int) := by
  have := u64_andNot_nat x 9218868437227405312 (by omega) (by omega)
  rw [show ((9218868437227405312 : Nat) : Int) = 9218868437227405312 from rfl] at this
  rw [this]
  congr 1
  have e1 : (18446744073709551615 - 9218868437227405312 : Nat) = 2 ^ 63 * 1 ||| 4503599627370495 := by decide
  have e2 : x &&& (2 ^ 63 * 1) = 0 := by
    apply Nat.eq_of_testBit_eq
    intro i
    rw [Nat.testBit_and, Nat.mul_one, Nat.testBit_two_pow]
    by_cases hi : 63 = i
    · subst hi
      have : x.testBit 63 = false := Nat.testBit_lt_two_pow (by have e63 : (2 : Nat) ^ 63 = 9223372036854775808 := by decide
                                                                omega)
      rw [this]; simp
    · simp [hi]
  rw [e1, Nat.and_or_distrib_left, e2, Nat.zero_or]
  exact Nat.and_two_pow_sub_one_eq_mod x 52
theorem put_exp (f c : Nat) (hf : f < 4503599627370496) (hc : c < 2048) : Go.bits .or .u64 (f : Int) ((c * 4503599627370496 : Nat) : Int) = ((c * 4503599627370496 + f : Nat) : Int) := by
  have := u64_or_nat f (c * 4503599627370496) (by omega) (by omega)
  rw [this]
  congr 1
  have e := Nat.two_pow_add_eq_or_of_lt (i := 52) (b := f) (by rw [p52]; exact hf) c
  rw [p52, Nat.mul_comm] at e
  rw [e, Nat.or_comm]

end Go.Proofs.Ytkfnllonahlfeaa.Rf
