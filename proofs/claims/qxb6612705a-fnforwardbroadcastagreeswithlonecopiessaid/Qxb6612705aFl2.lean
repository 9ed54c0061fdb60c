import Derived.Test.Qxb6612705aFl1
namespace Go.Proofs.Qxb6612705a.Fl
open Ieee

theorem log2_le {m : Nat} (h : 0 < m) : 2 ^ m.log2 ≤ m := Nat.log2_self_le (by omega)
theorem lt_log2 (m : Nat) : m < 2 ^ (m.log2 + 1) := Nat.lt_log2_self

/-- How 'cut' rounds to the nearest. -/
theorem cut_even (neg : Bool) (n drop : Nat) : ∃ inc, Toward.even.cut neg n drop = n / 2 ^ drop + inc ∧ inc ≤ 1 ∧
    (inc = 1 ↔ (2 ^ drop < 2 * (n % 2 ^ drop) ∨ (2 ^ drop = 2 * (n % 2 ^ drop) ∧ n / 2 ^ drop % 2 = 1))) := by
  unfold Toward.cut
  by_cases h : drop ≤ n.log2 + 2
  · rw [Nat.min_eq_left h, Nat.one_shiftLeft]
    dsimp only
    refine ⟨_, rfl, Bool.toNat_le _, ?_⟩
    rw [Bool.toNat_eq_one]
    simp
  · have h1 : n < 2 ^ (n.log2 + 1) := lt_log2 n
    have h2 : 2 ^ (n.log2 + 2) = 2 * 2 ^ (n.log2 + 1) := by rw [Nat.pow_succ 2 (n.log2 + 1)]; omega
    have h3 : 2 ^ (n.log2 + 2) ≤ 2 ^ drop := Nat.pow_le_pow_right (by omega) (by omega)
    rw [Nat.min_eq_right (by omega), Nat.one_shiftLeft]
    dsimp only
    have e1 : n / 2 ^ (n.log2 + 2) = 0 := Nat.div_eq_of_lt (by omega)
    have e2 : n % 2 ^ (n.log2 + 2) = n := Nat.mod_eq_of_lt (by omega)
    have e3 : n / 2 ^ drop = 0 := Nat.div_eq_of_lt (by omega)
    have e4 : n % 2 ^ drop = n := Nat.mod_eq_of_lt (by omega)
    rw [e1, e2, e3, e4]
    refine ⟨_, rfl, Bool.toNat_le _, ?_⟩
    rw [Bool.toNat_eq_one]
    simp
    omega

theorem pow_add' (a b : Nat) : 2 ^ (a + b) = 2 ^ a * 2 ^ b := Nat.pow_add ..

theorem nearest_parts (neg : Bool) (mag : Nat) (place : Int) (hm : 0 < mag) : ∃ e a d q rest inc : Nat,
    double.nearest neg mag place = double.word neg (min (e * 2 ^ 52 + (q + inc)) double.infRung) ∧
    place + 1074 = (e : Int) + a - d ∧ (a = 0 ∨ d = 0) ∧ mag.log2 ≤ 52 + d ∧
    mag * 2 ^ a = q * 2 ^ d + rest ∧ rest < 2 ^ d ∧ q < 2 ^ 53 ∧ (e = 0 ∨ 2 ^ 52 ≤ q) ∧ inc ≤ 1 ∧
    (inc = 1 ↔ (2 ^ d < 2 * rest ∨ (2 ^ d = 2 * rest ∧ q % 2 = 1))) := by
  have hl : double.leastPlace = -1074 := by decide
  have hf : double.fractionBits = 52 := rfl
  have hb : double.binade = 2 ^ 52 := rfl
  unfold Format.nearest
  rw [if_neg (by omega), hl, hf, hb]
  dsimp only
  generalize hlast : max (place + (mag.log2 : Int) - (52 : Nat)) (-1074) = last
  have hmax1 : place + (mag.log2 : Int) - 52 ≤ last := by rw [← hlast]; exact Int.le_max_left ..
  have hmax2 : (-1074 : Int) ≤ last := by rw [← hlast]; exact Int.le_max_right ..
  have hmax3 : last = place + (mag.log2 : Int) - 52 ∨ last = -1074 := by
    rcases Int.le_total (place + (mag.log2 : Int) - (52 : Nat)) (-1074) with h | h
    · rw [Int.max_eq_right h] at hlast; omega
    · rw [Int.max_eq_left h] at hlast; omega
  clear hlast
  rw [Nat.shiftLeft_eq]
  obtain ⟨inc, hc, hi, hinc⟩ := cut_even neg (mag * 2 ^ (place - last).toNat) (last - place).toNat
  rw [hc]
  refine ⟨(last - -1074).toNat, (place - last).toNat, (last - place).toNat, mag * 2 ^ (place - last).toNat / 2 ^ (last - place).toNat, mag * 2 ^ (place - last).toNat % 2 ^ (last - place).toNat, inc, rfl, by omega, by omega, by omega, ?_, ?_, ?_, ?_, hi, hinc⟩
  · rw [Nat.mul_comm _ (2 ^ (last - place).toNat)]; exact (Nat.div_add_mod ..).symm
  · exact Nat.mod_lt _ (Nat.two_pow_pos _)
  · rw [Nat.div_lt_iff_lt_mul (Nat.two_pow_pos _), ← Nat.pow_add]
    have h1 := lt_log2 mag
    have h2 : mag * 2 ^ (place - last).toNat < 2 ^ (mag.log2 + 1) * 2 ^ (place - last).toNat := Nat.mul_lt_mul_of_pos_right h1 (Nat.two_pow_pos _)
    rw [← Nat.pow_add] at h2
    refine Nat.lt_of_lt_of_le h2 (Nat.pow_le_pow_right (by omega) (by omega))
  · rcases hmax3 with h | h
    · right
      rw [Nat.le_div_iff_mul_le (Nat.two_pow_pos _), ← Nat.pow_add]
      have h1 := log2_le hm
      have h2 : 2 ^ mag.log2 * 2 ^ (place - last).toNat ≤ mag * 2 ^ (place - last).toNat := Nat.mul_le_mul_right _ h1
      rw [← Nat.pow_add] at h2
      refine Nat.le_trans (Nat.pow_le_pow_right (by omega) (by omega)) h2
    · left; omega

theorem rounds_zero (B : Nat) (hB : 0 < B) : Rounds 0 B 0 := by
  have := Rounds.exact 0 B hB
  rwa [W_zero, Nat.zero_mul] at this

/-- The word nearest to A/B units, where mag and place say just that. -/
theorem nearest_rounds (neg : Bool) (mag : Nat) (place : Int) (A B : Nat) (hB : 0 < B) (hv : ∀ x y : Nat, place + 1074 = (x : Int) - y → A * 2 ^ y = mag * 2 ^ x * B) :
    ∃ R, Rounds A B R ∧ double.nearest neg mag place = double.word neg (min R double.infRung) := by
  rcases Nat.eq_zero_or_pos mag with hm | hm
  · refine ⟨0, ?_, ?_⟩
    · have := hv (place + 1074).toNat (-(place + 1074)).toNat (by omega)
      rw [hm, Nat.zero_mul, Nat.zero_mul] at this
      have h0 : A = 0 := by
        rcases Nat.mul_eq_zero.1 this with h | h
        · exact h
        · have := Nat.two_pow_pos (-(place + 1074)).toNat; omega
      rw [h0]; exact rounds_zero B hB
    · unfold Format.nearest; rw [if_pos hm, Nat.zero_min]
  · obtain ⟨e, a, d, q, rest, inc, hn, hp, had, hlog, hmag, hr, hq, he, hi, hinc⟩ := nearest_parts neg mag place hm
    have hv' := hv (e + a) d (by omega)
    rw [Nat.pow_add, Nat.mul_comm (2 ^ e), ← Nat.mul_assoc, hmag] at hv'
    have pd : 0 < 2 ^ d := Nat.two_pow_pos d
    have pe : 0 < 2 ^ e * B := Nat.mul_pos (Nat.two_pow_pos e) hB
    have hAd : A * 2 ^ d = (q * 2 ^ d + rest) * (2 ^ e * B) := by rw [hv', Nat.mul_assoc]
    generalize hD : 2 ^ d = D at *
    generalize hE : 2 ^ e * B = E at *
    refine ⟨e * 2 ^ 52 + q + inc, sandwich hB e q inc hq he ?_ ?_ hi ?_, by rw [hn, Nat.add_assoc]⟩
    · rw [Nat.mul_assoc, hE]
      refine Nat.le_of_mul_le_mul_right (?_ : q * E * D ≤ A * D) pd
      rw [hAd, Nat.mul_right_comm q]
      exact Nat.mul_le_mul_right E (Nat.le_add_right _ _)
    · rw [Nat.mul_assoc, hE]
      refine Nat.lt_of_mul_lt_mul_right (a := D) ?_
      rw [hAd, Nat.mul_right_comm]
      refine Nat.mul_lt_mul_of_pos_right ?_ pe
      rw [Nat.add_mul]; omega
    · rw [hinc, Nat.mul_assoc, hE]
      have k1 : (2 * q + 1) * E * D = (2 * q * D + D) * E := by rw [Nat.mul_right_comm, Nat.add_mul (2 * q), Nat.one_mul]
      have k2 : 2 * A * D = (2 * q * D + 2 * rest) * E := by rw [Nat.mul_assoc, hAd, ← Nat.mul_assoc, Nat.mul_add, Nat.mul_assoc 2 q]
      have c1 : (2 * q + 1) * E < 2 * A ↔ D < 2 * rest := by
        rw [← Nat.mul_lt_mul_right pd, k1, k2, Nat.mul_lt_mul_right pe]; omega
      have c2 : (2 * q + 1) * E = 2 * A ↔ D = 2 * rest := by
        constructor
        · intro h
          have : (2 * q * D + D) * E = (2 * q * D + 2 * rest) * E := by rw [← k1, ← k2, h]
          have := Nat.eq_of_mul_eq_mul_right pe this
          omega
        · intro h
          refine Nat.eq_of_mul_eq_mul_right pd ?_
          rw [k1, k2, h]
      rw [c1, c2]

/-- The same of a quotient D/n with one digit more that tells whether anything is left over. -/
theorem nearest_sticky (neg : Bool) (D n : Nat) (hn0 : 0 < n) (place : Int) (hbig : 2 ^ 53 ≤ D / n) (A B : Nat) (hB : 0 < B)
    (hv : ∀ x y : Nat, place + 1074 = (x : Int) - y → A * 2 ^ y * n = 2 * D * 2 ^ x * B) :
    ∃ R, Rounds A B R ∧ double.nearest neg (2 * (D / n) + (D % n != 0).toNat) place = double.word neg (min R double.infRung) := by
  have hst1 : (D % n != 0).toNat ≤ 1 := Bool.toNat_le _
  have hst2 : (D % n != 0).toNat = 1 ↔ 0 < D % n := by rw [Bool.toNat_eq_one]; simp; omega
  generalize hst : (D % n != 0).toNat = st at *
  generalize hc : D / n = c at *
  have hDn : D = c * n + D % n := by rw [← hc, Nat.mul_comm]; exact (Nat.div_add_mod D n).symm
  have hrn : D % n < n := Nat.mod_lt _ hn0
  generalize hr' : D % n = r at *
  obtain ⟨e, a, d, q, rest, inc, hn, hp, had, hlog, hmag, hr, hq, he, hi, hinc⟩ := nearest_parts neg (2 * c + st) place (by omega)
  have hlg : 54 ≤ (2 * c + st).log2 := (Nat.le_log2 (by omega)).2 (by rw [show (54 : Nat) = 53 + 1 from rfl, Nat.pow_succ]; omega)
  obtain ⟨d2, rfl⟩ : ∃ d2, d = d2 + 2 := ⟨d - 2, by omega⟩
  have ha : a = 0 := by omega
  subst ha
  rw [Nat.pow_zero, Nat.mul_one] at hmag
  have hv' := hv e (d2 + 2) (by omega)
  have hpow : 2 ^ (d2 + 2) = 4 * 2 ^ d2 := by rw [Nat.pow_add]; omega
  have pt : 0 < 2 ^ d2 := Nat.two_pow_pos d2
  have pe : 0 < 2 ^ e * B := Nat.mul_pos (Nat.two_pow_pos e) hB
  rw [hpow] at hmag hr hinc hv'
  generalize hT : 2 ^ d2 = T at *
  have hAe : A * (4 * T) * n = 2 * D * (2 ^ e * B) := by rw [hv', Nat.mul_assoc]
  generalize hE : 2 ^ e * B = E at *
  have pTn : 0 < 4 * T * n := Nat.mul_pos (by omega) hn0
  have hAe' : A * (4 * T * n) = 2 * D * E := by rw [← hAe, Nat.mul_assoc, Nat.mul_assoc, Nat.mul_assoc]
  have hq4 : q * (4 * T) = 4 * (q * T) := by rw [Nat.mul_left_comm]
  rw [hq4] at hmag
  refine ⟨e * 2 ^ 52 + q + inc, sandwich hB e q inc hq he ?_ ?_ hi ?_, by rw [hn, Nat.add_assoc]⟩
  · rw [Nat.mul_assoc, hE]
    refine Nat.le_of_mul_le_mul_right (?_ : q * E * (4 * T * n) ≤ A * (4 * T * n)) pTn
    rw [hAe', Nat.mul_right_comm q]
    refine Nat.mul_le_mul_right E ?_
    have h1 : 4 * (q * T) ≤ 2 * c := by omega
    have h2 : q * (4 * T * n) = 4 * (q * T) * n := by rw [← Nat.mul_assoc, hq4]
    rw [h2]
    calc 4 * (q * T) * n ≤ 2 * c * n := Nat.mul_le_mul_right n h1
      _ ≤ 2 * D := by rw [hDn, Nat.mul_assoc]; omega
  · rw [Nat.mul_assoc, hE]
    refine Nat.lt_of_mul_lt_mul_right (a := 4 * T * n) ?_
    rw [hAe', Nat.mul_right_comm (q + 1)]
    refine Nat.mul_lt_mul_of_pos_right ?_ pe
    have h1 : 2 * c + 2 ≤ 4 * (q * T) + 4 * T := by omega
    have h2 : (q + 1) * (4 * T * n) = (4 * (q * T) + 4 * T) * n := by rw [Nat.add_mul, Nat.one_mul, ← Nat.mul_assoc, hq4, Nat.add_mul]
    rw [h2]
    calc 2 * D < (2 * c + 2) * n := by rw [hDn, Nat.add_mul, Nat.mul_assoc]; omega
      _ ≤ _ := Nat.mul_le_mul_right n h1
  · rw [hinc, Nat.mul_assoc, hE]
    have k1 : (2 * q + 1) * E * (4 * T * n) = 4 * ((2 * q + 1) * T * n) * E := by
      rw [Nat.mul_right_comm, ← Nat.mul_assoc (2 * q + 1), ← Nat.mul_assoc (2 * q + 1), Nat.mul_comm (2 * q + 1) 4, Nat.mul_assoc 4, Nat.mul_assoc 4]
    have k2 : 2 * A * (4 * T * n) = 4 * D * E := by rw [Nat.mul_assoc, hAe', ← Nat.mul_assoc, ← Nat.mul_assoc]
    have hM : (2 * q + 1) * T = 2 * (q * T) + T := by rw [Nat.add_mul, Nat.one_mul, Nat.mul_assoc]
    have p4 : 0 < 4 * T * n := pTn
    have c1 : (2 * q + 1) * E < 2 * A ↔ (2 * (q * T) + T) * n < D := by
      rw [← Nat.mul_lt_mul_right p4, k1, k2, Nat.mul_lt_mul_right pe, hM]; omega
    have c2 : (2 * q + 1) * E = 2 * A ↔ (2 * (q * T) + T) * n = D := by
      constructor
      · intro h
        have h1 : 4 * ((2 * q + 1) * T * n) * E = 4 * D * E := by rw [← k1, ← k2, h]
        have h2 := Nat.eq_of_mul_eq_mul_right pe h1
        rw [hM] at h2; omega
      · intro h
        refine Nat.eq_of_mul_eq_mul_right p4 ?_
        rw [k1, k2, hM, h]
    rw [c1, c2]
    generalize hMM : 2 * (q * T) + T = M at *
    have d1 : M * n < D ↔ (M < c ∨ (M = c ∧ 0 < r)) := by
      rw [hDn]
      constructor
      · intro h
        rcases Nat.lt_trichotomy M c with g | g | g
        · exact .inl g
        · subst g; exact .inr ⟨rfl, by omega⟩
        · exfalso
          have : (c + 1) * n ≤ M * n := Nat.mul_le_mul_right n g
          rw [Nat.add_mul] at this; omega
      · rintro (h | ⟨rfl, h⟩)
        · have : M * n < c * n := Nat.mul_lt_mul_of_pos_right h hn0
          omega
        · omega
    have d2' : M * n = D ↔ (M = c ∧ r = 0) := by
      rw [hDn]
      constructor
      · intro h
        rcases Nat.lt_trichotomy M c with g | g | g
        · exfalso
          have : M * n < c * n := Nat.mul_lt_mul_of_pos_right g hn0
          omega
        · subst g; exact ⟨rfl, by omega⟩
        · exfalso
          have : (c + 1) * n ≤ M * n := Nat.mul_le_mul_right n g
          rw [Nat.add_mul] at this; omega
      · rintro ⟨rfl, h⟩; omega
    rw [d1, d2']
    omega

end Go.Proofs.Qxb6612705a.Fl
