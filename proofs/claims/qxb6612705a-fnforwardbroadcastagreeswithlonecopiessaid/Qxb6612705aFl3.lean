import Derived.Test.Qxb6612705aFl2
namespace Go.Proofs.Qxb6612705a.Fl
open Ieee

/-- The least place's exponent, and one in its units. (Kept behind names: no tactic shall lay the power open.) -/
def pU : Nat := 1074
theorem pU_eq : pU = 1074 := rfl
def U : Nat := 2 ^ pU
theorem U_eq : U = 2 ^ pU := rfl
theorem U_pos : 0 < U := Nat.two_pow_pos _

theorem inf_eq : double.infRung = 2047 * 2 ^ 52 := by decide
theorem sw_eq : double.signWeight = 2 ^ 63 := by decide
theorem lp_eq : double.leastPlace = -1074 := by decide
theorem bi_eq : double.binade = 2 ^ 52 := rfl

/-- What a sign and a finite rung stand for. -/
theorem read_word (neg : Bool) {r : Nat} (h : r < double.infRung) : ∃ m e : Nat, double.read (double.word neg r) = .number neg m ((e : Int) - 1074) ∧ W r = m * 2 ^ e := by
  rw [inf_eq] at h
  have hw1 : (double.word neg r / double.signWeight % 2 == 1) = neg := by
    rw [sw_eq]; unfold Format.word; rw [sw_eq]
    cases neg
    · rw [if_neg (by simp), Nat.div_eq_of_lt (by omega)]; rfl
    · rw [if_pos rfl, show (2 ^ 63 + r) / 2 ^ 63 = 1 from by omega]; rfl
  have hw2 : double.word neg r % double.signWeight = r := by
    rw [sw_eq]; unfold Format.word; rw [sw_eq]
    cases neg
    · rw [if_neg (by simp)]; omega
    · rw [if_pos rfl]; omega
  unfold Format.read
  rw [hw1, hw2, lp_eq, bi_eq, inf_eq]
  dsimp only
  by_cases h1 : r < 2 ^ 52
  · rw [if_pos h1]
    refine ⟨r, 0, by simp, ?_⟩
    unfold W; rw [if_pos h1]; simp
  · rw [if_neg h1, if_pos h]
    refine ⟨2 ^ 52 + r % 2 ^ 52, r / 2 ^ 52 - 1, ?_, ?_⟩
    · congr 1
    · unfold W; rw [if_neg h1]

theorem read_pos {r : Nat} (h : r < double.infRung) : ∃ m e : Nat, double.read r = .number false m ((e : Int) - 1074) ∧ W r = m * 2 ^ e := read_word false h

theorem word_false (r : Nat) : double.word false r = r := rfl

/-! ### The operations on numbers that are not negative -/
theorem mul_pos {x y : Nat} (hx : x < double.infRung) (hy : y < double.infRung) : ∃ R, Rounds (W x * W y) U R ∧ double.mul x y = some (min R double.infRung) := by
  obtain ⟨m, e, hr, hW⟩ := read_pos hx
  obtain ⟨n, f, hs, hV⟩ := read_pos hy
  unfold Format.mul
  rw [hr, hs]
  simp only [Datum.product, Option.map_some, Format.write, Bool.xor_false]
  obtain ⟨R, h1, h2⟩ := nearest_rounds false (m * n) ((e : Int) - 1074 + ((f : Int) - 1074)) (W x * W y) U U_pos (by
    intro a b hab
    have hpU := pU_eq
    rw [hW, hV, U_eq]
    have e1 : m * 2 ^ e * (n * 2 ^ f) * 2 ^ b = m * n * 2 ^ (e + f + b) := by
      rw [Nat.pow_add, Nat.pow_add]; simp only [Nat.mul_left_comm, Nat.mul_assoc]
    have e2 : m * n * 2 ^ a * 2 ^ pU = m * n * 2 ^ (a + pU) := by rw [Nat.pow_add, Nat.mul_assoc]
    rw [e1, e2, show e + f + b = a + pU from by omega])
  exact ⟨R, h1, congrArg some h2⟩

theorem quot_big {m n : Nat} (hm : 0 < m) (hn : 0 < n) : 2 ^ 53 ≤ m * 2 ^ (54 + n.log2 - m.log2) / n := by
  rw [Nat.le_div_iff_mul_le hn]
  have h1 := log2_le hm
  have h2 := lt_log2 n
  have h3 : 2 ^ m.log2 * 2 ^ (54 + n.log2 - m.log2) ≤ m * 2 ^ (54 + n.log2 - m.log2) := Nat.mul_le_mul_right _ h1
  rw [← Nat.pow_add] at h3
  have h4 : 2 ^ 53 * n ≤ 2 ^ 53 * 2 ^ (n.log2 + 1) := Nat.mul_le_mul_left _ (Nat.le_of_lt h2)
  rw [← Nat.pow_add] at h4
  exact Nat.le_trans h4 (Nat.le_trans (Nat.pow_le_pow_right (by omega) (by omega)) h3)

theorem div_pos {x y : Nat} (hx : x < double.infRung) (hy0 : 0 < y) (hy : y < double.infRung) : ∃ R, Rounds (W x * U) (W y) R ∧ double.div x y = some (min R double.infRung) := by
  obtain ⟨m, e, hr, hW⟩ := read_pos hx
  obtain ⟨n, f, hs, hV⟩ := read_pos hy
  have hWy := W_pos hy0
  have hn : 0 < n := by
    rcases Nat.eq_zero_or_pos n with h | h
    · rw [h, Nat.zero_mul] at hV; omega
    · exact h
  unfold Format.div
  rw [hr, hs]
  simp only [Datum.quotient, Bool.xor_false]
  rw [if_neg (by omega)]
  simp only [Option.map_some, Format.write, Nat.shiftLeft_eq]
  have hfb : double.fractionBits + 2 = 54 := rfl
  rw [hfb]
  rcases Nat.eq_zero_or_pos m with h | h
  · refine ⟨0, ?_, ?_⟩
    · rw [hW, h, Nat.zero_mul, Nat.zero_mul]; exact rounds_zero _ hWy
    · subst h
      simp [Format.nearest]
      rfl
  · obtain ⟨R, h1, h2⟩ := nearest_sticky false (m * 2 ^ (54 + n.log2 - m.log2)) n hn ((e : Int) - 1074 - ((f : Int) - 1074) - ((54 + n.log2 - m.log2 : Nat) : Int) - 1) (quot_big h hn) (W x * U) (W y) hWy (by
      intro a b hab
      have hpU := pU_eq
      generalize 54 + n.log2 - m.log2 = k at *
      rw [hW, hV, U_eq]
      have e1 : m * 2 ^ e * 2 ^ pU * 2 ^ b * n = m * n * 2 ^ (e + pU + b) := by
        rw [Nat.pow_add, Nat.pow_add]; simp only [Nat.mul_comm, Nat.mul_left_comm, Nat.mul_assoc]
      have e2 : 2 * (m * 2 ^ k) * 2 ^ a * (n * 2 ^ f) = m * n * 2 ^ (1 + k + a + f) := by
        rw [Nat.pow_add, Nat.pow_add, Nat.pow_add, Nat.pow_one]; simp only [Nat.mul_comm, Nat.mul_left_comm, Nat.mul_assoc]
      rw [e1, e2, show e + pU + b = 1 + k + a + f from by omega])
    exact ⟨R, h1, congrArg some h2⟩

/-- A whole number, as a double. -/
theorem ofNat_pos (n : Nat) : ∃ R, Rounds (n * U) 1 R ∧ double.nearest false n 0 = min R double.infRung :=
  nearest_rounds false n 0 (n * U) 1 (by omega) (by
    intro a b hab
    have hpU := pU_eq
    rw [U_eq, Nat.mul_one, Nat.mul_assoc, ← Nat.pow_add, show pU + b = a from by omega])

theorem signed_eq (neg : Bool) (m k : Nat) : signed neg m k = (if neg then -((m * 2 ^ k : Nat) : Int) else ((m * 2 ^ k : Nat) : Int)) := by
  unfold signed; simp only [Nat.shiftLeft_eq]

/-- Two numbers over their least place. -/
theorem common {m n e f : Nat} {b : Int} (hb : b = min ((e : Int) - 1074) ((f : Int) - 1074)) : ∃ g : Nat, b + 1074 = g ∧ m * 2 ^ (((e : Int) - 1074 - b).toNat) * 2 ^ g = m * 2 ^ e ∧ n * 2 ^ (((f : Int) - 1074 - b).toNat) * 2 ^ g = n * 2 ^ f := by
  have h1 : b ≤ (e : Int) - 1074 := by rw [hb]; exact Int.min_le_left ..
  have h2 : b ≤ (f : Int) - 1074 := by rw [hb]; exact Int.min_le_right ..
  have h3 : b = (e : Int) - 1074 ∨ b = (f : Int) - 1074 := by
    rcases Int.le_total ((e : Int) - 1074) ((f : Int) - 1074) with h | h
    · rw [Int.min_eq_left h] at hb; exact .inl hb
    · rw [Int.min_eq_right h] at hb; exact .inr hb
  refine ⟨(b + 1074).toNat, by omega, ?_, ?_⟩
  · rw [Nat.mul_assoc, ← Nat.pow_add]; congr 2; omega
  · rw [Nat.mul_assoc, ← Nat.pow_add]; congr 2; omega

theorem order_pos {x y : Nat} (hx : x < double.infRung) (hy : y < double.infRung) : double.order x y = some (compare x y) := by
  obtain ⟨m, e, hr, hW⟩ := read_pos hx
  obtain ⟨n, f, hs, hV⟩ := read_pos hy
  unfold Format.order
  rw [hr, hs]
  simp only [Datum.order, signed_eq]
  generalize hb : min ((e : Int) - 1074) ((f : Int) - 1074) = b
  obtain ⟨g, hg, h1, h2⟩ := common (m := m) (n := n) hb.symm
  generalize m * 2 ^ (((e : Int) - 1074 - b).toNat) = A at *
  generalize n * 2 ^ (((f : Int) - 1074 - b).toNat) = B at *
  rw [← h1] at hW
  rw [← h2] at hV
  have pg : 0 < 2 ^ g := Nat.two_pow_pos g
  congr 1
  simp only [Bool.false_eq_true, if_false]
  rcases Nat.lt_trichotomy x y with h | h | h
  · have hlt : A < B := by have := W_lt h; rw [hW, hV] at this; exact Nat.lt_of_mul_lt_mul_right this
    rw [Nat.compare_eq_lt.2 h]
    exact Int.compare_eq_lt.2 (by omega)
  · subst h
    have : A = B := Nat.eq_of_mul_eq_mul_right pg (by rw [← hW, ← hV])
    subst this
    rw [Nat.compare_eq_eq.2 rfl]
    exact Int.compare_eq_eq.2 rfl
  · have hlt : B < A := by have := W_lt h; rw [hW, hV] at this; exact Nat.lt_of_mul_lt_mul_right this
    rw [Nat.compare_eq_gt.2 h]
    exact Int.compare_eq_gt.2 (by omega)

/-- The difference of two numbers, the first not less. -/
theorem sub_pos {x y : Nat} (hx : x < double.infRung) (hy : y < double.infRung) (hxy : y ≤ x) : ∃ R, Rounds (W x - W y) 1 R ∧ double.sub x y = some (min R double.infRung) := by
  obtain ⟨m, e, hr, hW⟩ := read_pos hx
  obtain ⟨n, f, hs, hV⟩ := read_pos hy
  have hle := W_le hxy
  unfold Format.sub
  rw [hr, hs]
  simp only [Datum.opposite, Datum.sum, signed_eq, Bool.not_false, Bool.false_and, Option.map_some, Format.write]
  generalize hb : min ((e : Int) - 1074) ((f : Int) - 1074) = b
  obtain ⟨g, hg, h1, h2⟩ := common (m := m) (n := n) hb.symm
  generalize m * 2 ^ (((e : Int) - 1074 - b).toNat) = A at *
  generalize n * 2 ^ (((f : Int) - 1074 - b).toNat) = B at *
  rw [← h1] at hW
  rw [← h2] at hV
  have pg : 0 < 2 ^ g := Nat.two_pow_pos g
  have hBA : B ≤ A := by rw [hW, hV] at hle; exact Nat.le_of_mul_le_mul_right hle pg
  simp only [Bool.false_eq_true, if_false, if_true]
  have t1 : ((A : Int) + -(B : Int)).natAbs = A - B := by omega
  have t2 : (if (A : Int) + -(B : Int) = 0 then false else decide ((A : Int) + -(B : Int) < 0)) = false := by
    split
    · rfl
    · exact decide_eq_false (by omega)
  rw [t1, t2]
  obtain ⟨R, k1, k2⟩ := nearest_rounds false (A - B) b (W x - W y) 1 (by omega) (by
    intro p q hpq
    rw [hW, hV, ← Nat.sub_mul, Nat.mul_one, Nat.mul_assoc, ← Nat.pow_add, show g + q = p from by omega])
  exact ⟨R, k1, congrArg some k2⟩

/-- The difference of two numbers, the first less. -/
theorem sub_neg {x y : Nat} (hx : x < double.infRung) (hy : y < double.infRung) (hxy : x < y) : ∃ R, Rounds (W y - W x) 1 R ∧ double.sub x y = some (double.word true (min R double.infRung)) := by
  obtain ⟨m, e, hr, hW⟩ := read_pos hx
  obtain ⟨n, f, hs, hV⟩ := read_pos hy
  have hle := W_lt hxy
  unfold Format.sub
  rw [hr, hs]
  simp only [Datum.opposite, Datum.sum, signed_eq, Bool.not_false, Bool.false_and, Option.map_some, Format.write]
  generalize hb : min ((e : Int) - 1074) ((f : Int) - 1074) = b
  obtain ⟨g, hg, h1, h2⟩ := common (m := m) (n := n) hb.symm
  generalize m * 2 ^ (((e : Int) - 1074 - b).toNat) = A at *
  generalize n * 2 ^ (((f : Int) - 1074 - b).toNat) = B at *
  rw [← h1] at hW
  rw [← h2] at hV
  have pg : 0 < 2 ^ g := Nat.two_pow_pos g
  have hBA : A < B := by rw [hW, hV] at hle; exact Nat.lt_of_mul_lt_mul_right hle
  simp only [Bool.false_eq_true, if_false, if_true]
  have t1 : ((A : Int) + -(B : Int)).natAbs = B - A := by omega
  have t2 : (if (A : Int) + -(B : Int) = 0 then false else decide ((A : Int) + -(B : Int) < 0)) = true := by
    rw [if_neg (by omega)]
    exact decide_eq_true (by omega)
  rw [t1, t2]
  obtain ⟨R, k1, k2⟩ := nearest_rounds true (B - A) b (W y - W x) 1 (by omega) (by
    intro p q hpq
    rw [hW, hV, ← Nat.sub_mul, Nat.mul_one, Nat.mul_assoc, ← Nat.pow_add, show g + q = p from by omega])
  exact ⟨R, k1, congrArg some k2⟩

end Go.Proofs.Qxb6612705a.Fl
