import Derived.Test.Qxb6612705aFl3
import Derived.Test.Qxb6612705aRoundWalk
namespace Go.Proofs.Qxb6612705a.Fl
open Ieee

/-- The whole number nearest to the value of p (a half goes up). -/
def roundI (p : Nat) : Nat := (2 * W p + U) / (2 * U)

theorem pow_pU (a b : Nat) (h : a + b = pU) : 2 ^ a * 2 ^ b = U := by rw [U_eq, ← Nat.pow_add, h]

theorem and_mask (a j : Nat) (ha : a < 2 ^ 64) : a &&& (2 ^ 64 - (2 ^ j - 1 + 1)) = a / 2 ^ j * 2 ^ j := by
  have hj : 2 ^ j - 1 + 1 = 2 ^ j := by have := Nat.two_pow_pos j; omega
  by_cases h64 : j ≤ 64
  · apply Nat.eq_of_testBit_eq
    intro i
    have hb : 2 ^ j - 1 < 2 ^ 64 := by have := Nat.two_pow_pos j; have := Nat.pow_le_pow_right (n := 2) (by omega) h64; omega
    rw [Nat.testBit_and, Nat.testBit_two_pow_sub_succ hb, Nat.testBit_two_pow_sub_one, Nat.testBit_mul_two_pow, Nat.testBit_div_two_pow]
    by_cases hij : j ≤ i
    · have e1 : i - j + j = i := by omega
      by_cases hi : i < 64
      · simp [hij, hi, Nat.not_lt.2 hij, e1]
      · have : a.testBit i = false := Nat.testBit_lt_two_pow (Nat.lt_of_lt_of_le ha (Nat.pow_le_pow_right (by omega) (by omega)))
        simp [hij, e1, this]
    · simp [hij, Nat.lt_of_not_le hij]
  · have h1 : 2 ^ 64 ≤ 2 ^ j := Nat.pow_le_pow_right (by omega) (by omega)
    rw [hj, Nat.sub_eq_zero_of_le h1, Nat.and_zero, Nat.div_eq_of_lt (by omega), Nat.zero_mul]

theorem exI_eq (p : Nat) (hp : p < 2 ^ 63) : exI p = ((p / 2 ^ 52 : Nat) : Int) := by
  unfold exI
  have h1 : p / 2 ^ 52 < 2048 := by omega
  have h2 : (p : Int) / 4503599627370496 = ((p / 2 ^ 52 : Nat) : Int) := by omega
  rw [h2]
  have := bits_and_u64_nat (p / 2 ^ 52) 2047 (by omega) (by omega)
  rw [show ((2047 : Int)) = ((2047 : Nat) : Int) from rfl, this]
  congr 1
  rw [show (2047 : Nat) = 2 ^ 11 - 1 from rfl, Nat.and_two_pow_sub_one_eq_mod]
  omega

theorem and_sign (p : Nat) (hp : p < 2 ^ 63) : (bits .and .u64 (p : Int) 9223372036854775808).toNat = 0 := by
  have := bits_and_u64_nat p 9223372036854775808 (by omega) (by omega)
  rw [show ((9223372036854775808 : Int)) = ((9223372036854775808 : Nat) : Int) from rfl, this, Int.toNat_natCast]
  apply Nat.eq_of_testBit_eq
  intro i
  rw [show (9223372036854775808 : Nat) = 2 ^ 63 from rfl, Nat.testBit_and, Nat.testBit_two_pow, Nat.zero_testBit]
  by_cases h : 63 = i
  · subst h
    simp [Nat.testBit_lt_two_pow hp]
  · simp [h]

theorem W_pow (k : Nat) : W ((1023 + k) * 2 ^ 52) = 2 ^ k * U := by
  obtain ⟨t, ht⟩ : ∃ t, t = 1022 := ⟨_, rfl⟩
  have := W_at (t + k) (2 ^ 52) (by omega) (.inr (Nat.le_refl _))
  rw [show (t + k) * 2 ^ 52 + 2 ^ 52 = (1023 + k) * 2 ^ 52 from by omega] at this
  rw [this, Nat.pow_add, ← Nat.mul_assoc, pow_pU 52 t (by rw [pU_eq]; omega), Nat.mul_comm]

theorem W_half : 2 * W (1022 * 2 ^ 52) = U := by
  obtain ⟨t, ht⟩ : ∃ t, t = 1021 := ⟨_, rfl⟩
  have := W_at t (2 ^ 52) (by omega) (.inr (Nat.le_refl _))
  rw [show t * 2 ^ 52 + 2 ^ 52 = 1022 * 2 ^ 52 from by omega] at this
  rw [this, ← Nat.mul_assoc, show 2 * 2 ^ 52 = 2 ^ 53 from rfl, pow_pU 53 t (by rw [pU_eq]; omega)]

theorem W_one : W (1023 * 2 ^ 52) = U := by have := W_pow 0; simpa using this

theorem div_unit {a b c : Nat} (hc : 0 < c) : a * c / (b * c) = a / b := Nat.mul_div_mul_right a b hc

set_option maxRecDepth 10000 in
/-- ROUND's LAW: below 2 to the 52 it makes the nearest whole number. -/
theorem roundBits_spec (p : Nat) (hp : p < 1075 * 2 ^ 52) : W (roundBits p) = roundI p * U := by
  have hex := exI_eq p (by omega)
  have hs := and_sign p (by omega)
  have pU0 := U_pos
  unfold roundBits roundI
  rw [hex]
  by_cases h1 : p / 2 ^ 52 < 1023
  · rw [if_pos (by omega)]
    by_cases h2 : p / 2 ^ 52 = 1022
    · rw [h2, if_pos (by decide)]
      have e0 : bits .and .u64 (p : Int) 9223372036854775808 = 0 := by
        have h3 := bits_and_u64_nat p 9223372036854775808 (by omega) (by omega)
        rw [show ((9223372036854775808 : Int)) = ((9223372036854775808 : Nat) : Int) from rfl, h3] at hs ⊢
        rw [Int.toNat_natCast] at hs
        rw [hs]; rfl
      rw [e0]
      have e1 : (bits .or .u64 0 4607182418800017408).toNat = 1023 * 2 ^ 52 := by
        have := bits_or_u64_nat 0 4607182418800017408 (by omega) (by omega)
        rw [show (0 : Int) = ((0 : Nat) : Int) from rfl, show ((4607182418800017408 : Int)) = ((4607182418800017408 : Nat) : Int) from rfl, this, Int.toNat_natCast, Nat.zero_or]
      rw [e1, W_one]
      have g1 : W (1022 * 2 ^ 52) ≤ W p := W_le (by omega)
      have g2 : W p < W (1023 * 2 ^ 52) := W_lt (by omega)
      rw [W_one] at g2
      have g3 := W_half
      generalize W (1022 * 2 ^ 52) = H at *
      have : (2 * W p + U) / (2 * U) = 1 := by
        rw [Nat.div_eq_iff (by omega)]; omega
      rw [this, Nat.one_mul]
    · rw [if_neg (by rw [beq_iff_eq]; omega), hs, W_zero]
      have g2 : W p < W (1022 * 2 ^ 52) := W_lt (by omega)
      have g3 := W_half
      generalize W (1022 * 2 ^ 52) = H at *
      rw [Nat.div_eq_of_lt (by omega), Nat.zero_mul]
  · rw [if_neg (by omega), if_pos (by omega)]
    generalize hE : p / 2 ^ 52 = E at *
    obtain ⟨j, hj⟩ : ∃ j, j + E = 1075 := ⟨1075 - E, by omega⟩
    obtain ⟨i, rfl⟩ : ∃ i, j = i + 1 := ⟨j - 1, by omega⟩
    have e1 : ((E : Int) - 1023).toNat = 51 - i := by omega
    have e2 : (2251799813685248 : Int) / 2 ^ (51 - i) = ((2 ^ i : Nat) : Int) := by
      have : (2251799813685248 : Nat) / 2 ^ (51 - i) = 2 ^ i := by
        rw [show (2251799813685248 : Nat) = 2 ^ 51 from rfl, Nat.pow_div (by omega) (by omega)]; congr 1; omega
      rw [← this]; simp
    have e3 : (4503599627370495 : Int) / 2 ^ (51 - i) = ((2 ^ (i + 1) - 1 : Nat) : Int) := by
      have : (4503599627370495 : Nat) / 2 ^ (51 - i) = 2 ^ (i + 1) - 1 := by
        have h5 : (4503599627370496 : Nat) = 2 ^ (51 - i) * 2 ^ (i + 1) := by rw [← Nat.pow_add, show 51 - i + (i + 1) = 52 from by omega]
        have h6 := Nat.two_pow_pos (51 - i)
        rw [Nat.div_eq_iff h6, Nat.sub_mul, Nat.mul_comm _ (2 ^ (51 - i)), ← h5]
        omega
      rw [← this]; simp
    rw [e1, e2, e3]
    have hi2 : 2 ^ i ≤ 2 ^ 51 := Nat.pow_le_pow_right (by omega) (by omega)
    have hi3 : 2 ^ (i + 1) ≤ 2 ^ 52 := Nat.pow_le_pow_right (by omega) (by omega)
    have e4 : IntKind.u64.wrap ((p : Int) + ((2 ^ i : Nat) : Int)) = ((p + 2 ^ i : Nat) : Int) := by
      rw [IntKind.wrap_u64]
      generalize 2 ^ i = Z at *
      omega
    rw [e4, u64_andNot_nat _ _ (by omega) (by omega), Int.toNat_natCast]
    have e5 : (18446744073709551615 : Nat) - (2 ^ (i + 1) - 1) = 2 ^ 64 - (2 ^ (i + 1) - 1 + 1) := by omega
    rw [e5, and_mask _ _ (by omega)]
    -- p's parts
    obtain ⟨q, hpq, hq1, hq2⟩ : ∃ q, p = (E - 1) * 2 ^ 52 + q ∧ 2 ^ 52 ≤ q ∧ q < 2 ^ 53 := ⟨2 ^ 52 + p % 2 ^ 52, by omega, by omega, by omega⟩
    have hWp : W p = q * 2 ^ (E - 1) := by rw [hpq]; exact W_at (E - 1) q (by omega) (.inr hq1)
    have hUU : U = 2 ^ (i + 1) * 2 ^ (E - 1) := by rw [pow_pU (i + 1) (E - 1) (by rw [pU_eq]; omega)]
    have pz : 0 < 2 ^ i := Nat.two_pow_pos i
    have p2 : 2 ^ (i + 1) = 2 * 2 ^ i := by rw [Nat.pow_succ]; omega
    have k1 : (2 * W p + U) / (2 * U) = (q + 2 ^ i) / 2 ^ (i + 1) := by
      rw [hWp, hUU, ← Nat.mul_assoc, ← Nat.mul_assoc, ← Nat.add_mul, div_unit (Nat.two_pow_pos _), p2, show 2 * q + 2 * 2 ^ i = (q + 2 ^ i) * 2 from by omega, show 2 * (2 * 2 ^ i) = 2 * 2 ^ i * 2 from by omega, div_unit (by omega)]
    rw [k1]
    have k2 : (E - 1) * 2 ^ 52 = (E - 1) * 2 ^ (51 - i) * 2 ^ (i + 1) := by rw [Nat.mul_assoc, ← Nat.pow_add, show 51 - i + (i + 1) = 52 from by omega]
    have k3 : (p + 2 ^ i) / 2 ^ (i + 1) * 2 ^ (i + 1) = (E - 1) * 2 ^ 52 + (q + 2 ^ i) / 2 ^ (i + 1) * 2 ^ (i + 1) := by
      rw [hpq, k2, show (E - 1) * 2 ^ (51 - i) * 2 ^ (i + 1) + q + 2 ^ i = q + 2 ^ i + (E - 1) * 2 ^ (51 - i) * 2 ^ (i + 1) from by omega, Nat.add_mul_div_right _ _ (Nat.two_pow_pos _), Nat.add_mul]
      omega
    rw [k3]
    have m1 : 2 ^ (51 - i) * 2 ^ (i + 1) = 2 ^ 52 := by rw [← Nat.pow_add, show 51 - i + (i + 1) = 52 from by omega]
    have hlo : 2 ^ (51 - i) ≤ (q + 2 ^ i) / 2 ^ (i + 1) := by
      rw [Nat.le_div_iff_mul_le (Nat.two_pow_pos _), m1]; omega
    have hhi : (q + 2 ^ i) / 2 ^ (i + 1) ≤ 2 * 2 ^ (51 - i) := by
      have : (q + 2 ^ i) / 2 ^ (i + 1) < 2 * 2 ^ (51 - i) + 1 := by
        rw [Nat.div_lt_iff_lt_mul (Nat.two_pow_pos _), Nat.add_mul, Nat.mul_assoc, m1, Nat.one_mul, p2]; omega
      omega
    generalize (q + 2 ^ i) / 2 ^ (i + 1) = L at *
    have b1 : L * 2 ^ (i + 1) ≤ 2 ^ 53 := by
      have := Nat.mul_le_mul_right (2 ^ (i + 1)) hhi
      rw [Nat.mul_assoc, m1] at this; omega
    have b2 : 2 ^ 52 ≤ L * 2 ^ (i + 1) := by
      have := Nat.mul_le_mul_right (2 ^ (i + 1)) hlo
      rw [m1] at this; exact this
    rw [W_at (E - 1) (L * 2 ^ (i + 1)) b1 (.inr b2), Nat.mul_assoc, hUU]

end Go.Proofs.Qxb6612705a.Fl
