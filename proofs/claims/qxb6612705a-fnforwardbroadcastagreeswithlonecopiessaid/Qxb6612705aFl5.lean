import Derived.Test.Qxb6612705aFl4
namespace Go.Proofs.Qxb6612705a.Fl
open Ieee

/-! ### Small things -/
theorem min_inf {R c : Nat} (h : R ≤ c) (hc : c < double.infRung) : min R double.infRung = R := Nat.min_eq_left (by omega)

/-- A number's rounding, where it is no more than a constant below infinity. -/
theorem some_rounds {A B R c : Nat} {o : Option Nat} (hB : 0 < B) (hr : Rounds A B R) (ho : o = some (min R double.infRung)) (hA : A ≤ W c * B) (hc : c < double.infRung) : o = some R ∧ R ≤ c := by
  have := hr.le hB hA
  rw [min_inf this hc] at ho
  exact ⟨ho, this⟩

/-- Out of a constant's reckoning: what it rounds. -/
theorem rounds_of {A B R c : Nat} {o : Option Nat} (hr : Rounds A B R) (ho : o = some (min R double.infRung)) (hc : o = some c) (hlt : c < double.infRung) : Rounds A B c := by
  rw [hc] at ho
  have : c = min R double.infRung := Option.some.inj ho
  have : R = c := by
    rcases Nat.le_total R double.infRung with h | h
    · rw [Nat.min_eq_left h] at this; exact this.symm
    · rw [Nat.min_eq_right h] at this; omega
  rw [← this]; exact hr

theorem cut_zero_zero (neg : Bool) (d : Nat) : Toward.zero.cut neg 0 d = 0 := by
  simp [Toward.cut]

theorem cut_zero (neg : Bool) (L d : Nat) : Toward.zero.cut neg (L * 2 ^ d) d = L := by
  rcases Nat.eq_zero_or_pos L with h | h
  · subst h; rw [Nat.zero_mul]; exact cut_zero_zero neg d
  · unfold Toward.cut
    have hd : d ≤ (L * 2 ^ d).log2 + 2 := by
      have : d ≤ (L * 2 ^ d).log2 := (Nat.le_log2 (by have := Nat.two_pow_pos d; have := Nat.mul_pos h this; omega)).2 (by
        have := Nat.mul_le_mul_right (2 ^ d) h; omega)
      omega
    rw [Nat.min_eq_left hd, Nat.one_shiftLeft]
    dsimp only
    rw [Nat.mul_div_cancel _ (Nat.two_pow_pos d)]
    rfl

/-- A word whose value is whole, as an integer. -/
theorem toInt_pos {z L : Nat} (hz : z < double.infRung) (hW : W z = L * U) : (double.read z).toInt .zero = some (L : Int) := by
  obtain ⟨m, e, hr, hm⟩ := read_pos hz
  rw [hW] at hm
  rw [hr]
  unfold Datum.toInt Datum.integral
  have hpU := pU_eq
  rcases Nat.le_total pU e with h | h
  · obtain ⟨d, rfl⟩ : ∃ d, e = pU + d := ⟨e - pU, by omega⟩
    have e1 : (((pU + d : Nat) : Int) - 1074).toNat = d := by omega
    have e2 : (-(((pU + d : Nat) : Int) - 1074)).toNat = 0 := by omega
    simp only [e1, e2, Nat.shiftLeft_eq]
    have e3 : L = m * 2 ^ d := by
      refine Nat.eq_of_mul_eq_mul_right U_pos ?_
      rw [hm, U_eq, Nat.pow_add, Nat.mul_comm (2 ^ pU), Nat.mul_assoc]
    have e4 := cut_zero false (m * 2 ^ d) 0
    rw [Nat.pow_zero, Nat.mul_one] at e4
    rw [e4, signed_eq, ← e3]; simp
  · obtain ⟨d, hd⟩ : ∃ d, pU = e + d := ⟨pU - e, by omega⟩
    have e1 : ((e : Int) - 1074).toNat = 0 := by omega
    have e2 : (-((e : Int) - 1074)).toNat = d := by omega
    simp only [e1, e2, Nat.shiftLeft_eq, Nat.pow_zero, Nat.mul_one]
    have e3 : m = L * 2 ^ d := by
      refine Nat.eq_of_mul_eq_mul_right (Nat.two_pow_pos e) ?_
      rw [← hm, U_eq, hd, Nat.pow_add, Nat.mul_comm (2 ^ e), Nat.mul_assoc]
    rw [e3, cut_zero, signed_eq]; simp

theorem toIntVal_pos {z L : Nat} (hz : z < double.infRung) (hW : W z = L * U) (hL : L < 2 ^ 63) : floatToIntVal .f64 z .i64 = some (L : Int) := by
  unfold floatToIntVal
  have : (FloatKind.f64.decode z).toInt .zero = some (L : Int) := toInt_pos hz hW
  rw [this]
  simp only
  have h1 : IntKind.i64.min = -9223372036854775808 := by decide
  have h2 : IntKind.i64.max = 9223372036854775807 := by decide
  rw [if_pos (by rw [h1, h2]; omega)]

/-! ### float64(n) -/
def fI (n : Nat) : Nat := double.nearest false n 0

theorem fI_rounds {n : Nat} (h : n ≤ 2 ^ 63) : Rounds (n * U) 1 (fI n) ∧ fI n ≤ 1086 * 2 ^ 52 := by
  obtain ⟨R, hr, ho⟩ := ofNat_pos n
  have hW : W (1086 * 2 ^ 52) = 2 ^ 63 * U := W_pow 63
  have hle : R ≤ 1086 * 2 ^ 52 := hr.le (by omega) (by rw [hW, Nat.mul_one]; exact Nat.mul_le_mul_right U h)
  have : fI n = R := by unfold fI; rw [ho]; exact min_inf hle (by rw [inf_eq]; omega)
  rw [this]; exact ⟨hr, hle⟩

theorem fI_mono {a b : Nat} (ha : a ≤ 2 ^ 63) (hb : b ≤ 2 ^ 63) (h : a ≤ b) : fI a ≤ fI b :=
  (fI_rounds ha).1.mono (fI_rounds hb).1 (by omega) (by omega) (by rw [Nat.mul_one, Nat.mul_one]; exact Nat.mul_le_mul_right U h)

theorem floatOfInt_nat (n : Nat) : floatOfInt .f64 (n : Int) = fI n := by
  unfold floatOfInt FloatKind.nearest FloatKind.encode fI
  have : decide ((n : Int) < 0) = false := decide_eq_false (by omega)
  rw [this]; rfl

/-! ### utilisation -/
theorem W_c40 : W 4787326403894837248 = 2 ^ 40 * U := W_pow 40

def utilB (l : Nat) : Nat := (double.div (fI l) 4787326403894837248).getD 0

theorem util_facts {l : Nat} (h : l < 2 ^ 63) : double.div (fI l) 4787326403894837248 = some (utilB l) ∧ Rounds (W (fI l)) (2 ^ 40) (utilB l) ∧ utilB l < double.infRung := by
  obtain ⟨h1, h2⟩ := fI_rounds (Nat.le_of_lt h)
  have hi := inf_eq
  obtain ⟨R, hr, ho⟩ := div_pos (x := fI l) (y := 4787326403894837248) (by omega) (by omega) (by omega)
  have hU := U_pos
  rw [W_c40] at hr
  have hr' : Rounds (W (fI l)) (2 ^ 40) R := by
    intro k
    rw [hr k]
    have e1 : (W k + W (k + 1)) * (2 ^ 40 * U) = (W k + W (k + 1)) * 2 ^ 40 * U := by rw [Nat.mul_assoc]
    have e2 : 2 * (W (fI l) * U) = 2 * W (fI l) * U := by rw [Nat.mul_assoc]
    rw [e1, e2, Nat.mul_lt_mul_right hU]
    constructor
    · rintro (g | ⟨g, o⟩)
      · exact .inl g
      · exact .inr ⟨Nat.eq_of_mul_eq_mul_right hU g, o⟩
    · rintro (g | ⟨g, o⟩)
      · exact .inl g
      · exact .inr ⟨by rw [g], o⟩
  have hA : W (fI l) ≤ W (1086 * 2 ^ 52) * 2 ^ 40 := by
    have := W_le h2
    exact Nat.le_trans this (Nat.le_mul_of_pos_right _ (by omega))
  obtain ⟨g1, g2⟩ := some_rounds (by omega) hr' ho hA (by omega)
  have : utilB l = R := by unfold utilB; rw [g1]; rfl
  rw [this]
  exact ⟨g1, hr', by omega⟩

/-! ### the delay -/
theorem W_c1 : W 4607182418800017408 = U := W_one

def delS (u : Nat) : Nat := (double.sub 4607182418800017408 u).getD 0
def delV (u : Nat) : Nat := (double.div 4607182418800017408 (delS u)).getD 0
def delT (u : Nat) : Nat := (double.sub (delV u) 4607002274814922588).getD 0
def delD (u : Nat) : Nat := if u < 4607182418800017408 then min (delT u) 4613937818241073152 else 4613937818241073152
def delP (u : Nat) : Nat := (double.mul (delD u) 4741671816366391296).getD 0
def delI (u : Nat) : Nat := roundI (delP u)

theorem W_below_one : W (1023 * 2 ^ 52 - 1) + W (970 * 2 ^ 52) = U := by
  obtain ⟨t, ht⟩ : ∃ t, t = 1021 := ⟨_, rfl⟩
  obtain ⟨s, hs⟩ : ∃ s, s = 969 := ⟨_, rfl⟩
  have h1 := W_at t (2 ^ 53 - 1) (by omega) (.inr (by omega))
  have h2 := W_at s (2 ^ 52) (by omega) (.inr (Nat.le_refl _))
  rw [show t * 2 ^ 52 + (2 ^ 53 - 1) = 1023 * 2 ^ 52 - 1 from by omega] at h1
  rw [show s * 2 ^ 52 + 2 ^ 52 = 970 * 2 ^ 52 from by omega] at h2
  have h3 : 2 ^ 52 * 2 ^ s = 2 ^ t := by rw [← Nat.pow_add, show 52 + s = t from by omega]
  have h4 := pow_pU 53 t (by rw [pU_eq]; omega)
  rw [h1, h2, h3, ← h4, Nat.sub_mul, Nat.one_mul]
  have := Nat.le_mul_of_pos_left (2 ^ t) (Nat.two_pow_pos 53)
  omega

theorem delay_parts {u : Nat} (hu : u < 4607182418800017408) : double.sub 4607182418800017408 u = some (delS u) ∧ double.div 4607182418800017408 (delS u) = some (delV u) ∧ double.sub (delV u) 4607002274814922588 = some (delT u) ∧
    4581421828931458176 ≤ delT u ∧ delT u < double.infRung ∧ 4607182418800017408 ≤ delV u ∧ delV u < double.infRung ∧ delS u < double.infRung := by
  have hi := inf_eq
  have hU := U_pos
  -- 1 - u
  obtain ⟨R, hr, ho⟩ := sub_pos (x := 4607182418800017408) (y := u) (by omega) (by omega) (by omega)
  obtain ⟨s1, s2⟩ := some_rounds (c := 4607182418800017408) (by omega) hr ho (by rw [Nat.mul_one]; omega) (by omega)
  have eS : delS u = R := by unfold delS; rw [s1]; rfl
  have s3 : 970 * 2 ^ 52 ≤ R := by
    refine hr.ge (by omega) ?_
    have h1 : W u ≤ W (1023 * 2 ^ 52 - 1) := W_le (by omega)
    have h2 := W_below_one
    rw [W_c1, Nat.mul_one]
    omega
  rw [eS]
  -- 1 / (1 - u)
  obtain ⟨V, vr, vo⟩ := div_pos (x := 4607182418800017408) (y := R) (by omega) (by omega) (by omega)
  have hWR := W_pos (r := R) (by omega)
  rw [W_c1] at vr
  have hlow : 2 ^ 53 * W (970 * 2 ^ 52) = U := by
    obtain ⟨s, hs⟩ : ∃ s, s = 969 := ⟨_, rfl⟩
    have h2 := W_at s (2 ^ 52) (by omega) (.inr (Nat.le_refl _))
    rw [show s * 2 ^ 52 + 2 ^ 52 = 970 * 2 ^ 52 from by omega] at h2
    rw [h2, ← Nat.mul_assoc, ← Nat.pow_add, pow_pU (53 + 52) s (by rw [pU_eq]; omega)]
  obtain ⟨v1, v2⟩ := some_rounds (c := 1076 * 2 ^ 52) hWR vr vo (by
    have h1 : W (1076 * 2 ^ 52) = 2 ^ 53 * U := W_pow 53
    have h2 : W (970 * 2 ^ 52) ≤ W R := W_le s3
    rw [h1, Nat.mul_right_comm]
    refine Nat.mul_le_mul_right U ?_
    have := Nat.mul_le_mul_left (2 ^ 53) h2
    omega) (by omega)
  have eV : delV u = V := by unfold delV; rw [eS, v1]; rfl
  have v3 : 4607182418800017408 ≤ V := by
    refine vr.ge hWR ?_
    rw [W_c1]
    refine Nat.mul_le_mul_left U ?_
    have := W_le s2
    rw [W_c1] at this; exact this
  rw [eV]
  -- .. - 0.98
  obtain ⟨T, tr, to⟩ := sub_pos (x := V) (y := 4607002274814922588) (by omega) (by omega) (by omega)
  obtain ⟨t1, t2⟩ := some_rounds (c := V) (by omega) tr to (by rw [Nat.mul_one]; omega) (by omega)
  have eT : delT u = T := by unfold delT; rw [eV, t1]; rfl
  have t3 : 4581421828931458176 ≤ T := by
    obtain ⟨T0, tr0, to0⟩ := sub_pos (x := 4607182418800017408) (y := 4607002274814922588) (by omega) (by omega) (by omega)
    have k := rounds_of tr0 to0 (c := 4581421828931458176) (by decide +kernel) (by omega)
    refine k.mono tr (by omega) (by omega) ?_
    have := W_le v3
    rw [Nat.mul_one, Nat.mul_one]; omega
  rw [eT]
  exact ⟨s1, v1, t1, t3, by omega, v3, by omega, by omega⟩

theorem delD_bd (u : Nat) : 4581421828931458176 ≤ delD u ∧ delD u ≤ 4613937818241073152 := by
  unfold delD
  split
  · rename_i h
    obtain ⟨_, _, _, h4, _⟩ := delay_parts h
    omega
  · omega

theorem roundI_mono {p q : Nat} (h : p ≤ q) : roundI p ≤ roundI q := by
  unfold roundI
  have := W_le h
  exact Nat.div_le_div_right (by omega)

theorem delay_facts (u : Nat) : double.mul (delD u) 4741671816366391296 = some (delP u) ∧ floatToIntVal .f64 (roundBits (delP u)) .i64 = some (delI u : Int) ∧ 20000000 ≤ delI u ∧ delI u ≤ 3000000000 := by
  have hi := inf_eq
  have hU := U_pos
  obtain ⟨d1, d2⟩ := delD_bd u
  obtain ⟨R, hr, ho⟩ := mul_pos (x := delD u) (y := 4741671816366391296) (by omega) (by omega)
  obtain ⟨Ra, hra, hoa⟩ := mul_pos (x := 4581421828931458176) (y := 4741671816366391296) (by omega) (by omega)
  obtain ⟨Rb, hrb, hob⟩ := mul_pos (x := 4613937818241073152) (y := 4741671816366391296) (by omega) (by omega)
  have ka := rounds_of hra hoa (c := 4716133919349538821) (by decide +kernel) (by omega)
  have kb := rounds_of hrb hob (c := 4748581863621132288) (by decide +kernel) (by omega)
  have r1 : 4716133919349538821 ≤ R := ka.mono hr hU hU (Nat.mul_le_mul_right U (Nat.mul_le_mul_right _ (W_le d1)))
  have r2 : R ≤ 4748581863621132288 := hr.mono kb hU hU (Nat.mul_le_mul_right U (Nat.mul_le_mul_right _ (W_le d2)))
  rw [min_inf r2 (by omega)] at ho
  have eP : delP u = R := by unfold delP; rw [ho]; rfl
  have c1 : roundI 4716133919349538821 = 20000000 := by decide +kernel
  have c2 : roundI 4748581863621132288 = 3000000000 := by decide +kernel
  have i1 := roundI_mono r1
  have i2 := roundI_mono r2
  rw [c1] at i1
  rw [c2] at i2
  have hs := roundBits_spec R (by omega)
  have hz : roundBits R ≤ 1086 * 2 ^ 52 := by
    refine le_of_W ?_
    rw [hs, show W (1086 * 2 ^ 52) = 2 ^ 63 * U from W_pow 63]
    exact Nat.mul_le_mul_right U (by omega)
  unfold delI
  rw [eP]
  exact ⟨ho, toIntVal_pos (by omega) hs (by omega), i1, i2⟩

/-! ### the seconds, and the load -/
def secB (dt : Nat) : Nat := (double.div (fI dt) 4741671816366391296).getD 0

theorem sec_facts {dt : Nat} (h1 : 20000000 ≤ dt) (h2 : dt < 2 ^ 63) : double.div (fI dt) 4741671816366391296 = some (secB dt) ∧ 4581421828931458171 ≤ secB dt ∧ secB dt < double.infRung := by
  have hi := inf_eq
  have hU := U_pos
  obtain ⟨f1, f2⟩ := fI_rounds (Nat.le_of_lt h2)
  have f3 := fI_mono (a := 20000000) (b := dt) (by omega) (by omega) h1
  have f4 : fI 20000000 = 4716133919349538816 := by decide +kernel
  rw [f4] at f3
  have hW9 := W_pos (r := 4741671816366391296) (by omega)
  obtain ⟨R, hr, ho⟩ := div_pos (x := fI dt) (y := 4741671816366391296) (by omega) (by omega) (by omega)
  obtain ⟨g1, g2⟩ := some_rounds (c := 1086 * 2 ^ 52) hW9 hr ho (by
    have a1 := W_le f2
    have a2 : U ≤ W 4741671816366391296 := by rw [← W_c1]; exact W_le (by omega)
    exact Nat.mul_le_mul a1 a2) (by omega)
  have e : secB dt = R := by unfold secB; rw [g1]; rfl
  rw [e]
  refine ⟨g1, ?_, by omega⟩
  obtain ⟨R0, hr0, ho0⟩ := div_pos (x := 4716133919349538816) (y := 4741671816366391296) (by omega) (by omega) (by omega)
  have k := rounds_of hr0 ho0 (c := 4581421828931458171) (by decide +kernel) (by omega)
  exact k.mono hr hW9 hW9 (Nat.mul_le_mul_right _ (Nat.mul_le_mul_right U (W_le f3)))

theorem sec_idle : secB 20000000 = 4581421828931458171 := by decide +kernel

/-- What 'transmit' may be: between 0 and 1 (the negative zero among them). -/
def TrOk (tr : Nat) : Prop := tr = 9223372036854775808 ∨ tr ≤ 4607182418800017408

def ldQ (tr dt : Nat) : Nat := (double.div tr (secB dt)).getD 0
def ldY (tr dt : Nat) : Nat := (double.mul (ldQ tr dt) 4787326403894837248).getD 0
def ldI (tr dt : Nat) : Int := (floatToIntVal .f64 (roundBits (ldY tr dt)) .i64).getD 0

theorem read_negzero : double.read 9223372036854775808 = .number true 0 (-1074) := by decide +kernel

theorem div_negzero {y : Nat} (hy0 : 0 < y) (hy : y < double.infRung) : double.div 9223372036854775808 y = some 9223372036854775808 := by
  obtain ⟨n, f, hs, hV⟩ := read_pos hy
  have hWy := W_pos hy0
  have hn : 0 < n := by
    rcases Nat.eq_zero_or_pos n with h | h
    · rw [h, Nat.zero_mul] at hV; omega
    · exact h
  unfold Format.div
  rw [read_negzero, hs]
  simp only [Datum.quotient, Bool.xor_false]
  rw [if_neg (by omega)]
  simp [Format.write, Format.nearest]
  decide +kernel

/-- THE LOAD: it is reckoned without a NaN, lies between 0 and 50 units, and, where transmit is no negative zero, is the nearest whole number. -/
theorem load_facts {tr dt : Nat} (ht : TrOk tr) (h1 : 20000000 ≤ dt) (h2 : dt < 2 ^ 63) :
    double.div tr (secB dt) = some (ldQ tr dt) ∧ double.mul (ldQ tr dt) 4787326403894837248 = some (ldY tr dt) ∧ floatToIntVal .f64 (roundBits (ldY tr dt)) .i64 = some (ldI tr dt) ∧
    0 ≤ ldI tr dt ∧ ldI tr dt ≤ 54975581388800 ∧ ((tr = 9223372036854775808 ∧ ldY tr dt = 9223372036854775808 ∧ ldI tr dt = 0) ∨ (ldY tr dt ≤ 4812377676822085632 ∧ ldI tr dt = (roundI (ldY tr dt) : Int))) := by
  have hi := inf_eq
  have hU := U_pos
  obtain ⟨_, s2, s3⟩ := sec_facts h1 h2
  rcases ht with rfl | ht
  · have q := div_negzero (y := secB dt) (by omega) s3
    have eq : ldQ 9223372036854775808 dt = 9223372036854775808 := by unfold ldQ; rw [q]; rfl
    rw [eq]
    have y : double.mul 9223372036854775808 4787326403894837248 = some 9223372036854775808 := by decide +kernel
    have ey : ldY 9223372036854775808 dt = 9223372036854775808 := by unfold ldY; rw [eq, y]; rfl
    rw [ey]
    have z : floatToIntVal .f64 (roundBits 9223372036854775808) .i64 = some 0 := by decide +kernel
    have ez : ldI 9223372036854775808 dt = 0 := by unfold ldI; rw [ey, z]; rfl
    rw [ez]
    exact ⟨q, y, z, by omega, by omega, .inl ⟨rfl, rfl, rfl⟩⟩
  · have hWs := W_pos (r := secB dt) (by omega)
    obtain ⟨Q, qr, qo⟩ := div_pos (x := tr) (y := secB dt) (by omega) (by omega) s3
    obtain ⟨Q0, qr0, qo0⟩ := div_pos (x := 4607182418800017408) (y := 4581421828931458171) (by omega) (by omega) (by omega)
    have kq := rounds_of qr0 qo0 (c := 4632233691727265792) (by decide +kernel) (by omega)
    have q2 : Q ≤ 4632233691727265792 := qr.mono kq hWs (W_pos (by omega)) (Nat.mul_le_mul (Nat.mul_le_mul_right U (W_le ht)) (W_le s2))
    rw [min_inf q2 (by omega)] at qo
    have eQ : ldQ tr dt = Q := by unfold ldQ; rw [qo]; rfl
    rw [eQ]
    obtain ⟨Y, yr, yo⟩ := mul_pos (x := Q) (y := 4787326403894837248) (by omega) (by omega)
    obtain ⟨Y0, yr0, yo0⟩ := mul_pos (x := 4632233691727265792) (y := 4787326403894837248) (by omega) (by omega)
    have ky := rounds_of yr0 yo0 (c := 4812377676822085632) (by decide +kernel) (by omega)
    have y2 : Y ≤ 4812377676822085632 := yr.mono ky hU hU (Nat.mul_le_mul_right U (Nat.mul_le_mul_right _ (W_le q2)))
    rw [min_inf y2 (by omega)] at yo
    have eY : ldY tr dt = Y := by unfold ldY; rw [eQ, yo]; rfl
    rw [eY]
    have c2 : roundI 4812377676822085632 = 54975581388800 := by decide +kernel
    have i2 := roundI_mono y2
    rw [c2] at i2
    have hs := roundBits_spec Y (by omega)
    have hz : roundBits Y ≤ 1086 * 2 ^ 52 := by
      refine le_of_W ?_
      rw [hs, show W (1086 * 2 ^ 52) = 2 ^ 63 * U from W_pow 63]
      exact Nat.mul_le_mul_right U (by omega)
    have hv := toIntVal_pos (z := roundBits Y) (by omega) hs (by omega)
    have eI : ldI tr dt = (roundI Y : Int) := by unfold ldI; rw [eY, hv]; rfl
    rw [eI]
    exact ⟨qo, yo, hv, by omega, by omega, .inr ⟨y2, rfl⟩⟩

end Go.Proofs.Qxb6612705a.Fl
