import Derived.Test.Qxb6612705aFl6
namespace Go.Proofs.Qxb6612705a.Fl
open Ieee

theorem order_zero_neg {r : Nat} (hr : r < double.infRung) (h : (double.order (double.word true r) 0 == some .gt || double.order (double.word true r) 0 == some .eq) = true) : r = 0 := by
  obtain ⟨m, e, hr', hW⟩ := read_word true hr
  have h0 : double.read 0 = .number false 0 (-1074) := by decide +kernel
  unfold Format.order at h
  rw [hr', h0] at h
  simp only [Datum.order, signed_eq] at h
  generalize min ((e : Int) - 1074) (-1074) = b at h
  rcases Nat.eq_zero_or_pos m with hm | hm
  · rw [hm, Nat.zero_mul] at hW
    rcases Nat.eq_zero_or_pos r with g | g
    · exact g
    · have := W_pos g; omega
  · exfalso
    have hp : 0 < m * 2 ^ (((e : Int) - 1074 - b).toNat) := Nat.mul_pos hm (Nat.two_pow_pos _)
    generalize m * 2 ^ (((e : Int) - 1074 - b).toNat) = A at *
    simp only [if_true, Bool.false_eq_true, if_false, Nat.zero_mul] at h
    have : compare (-(A : Int)) ((0 : Nat) : Int) = .lt := Int.compare_eq_lt.2 (by omega)
    rw [this] at h
    exact absurd h (by decide)

theorem word_of {x : Nat} (hx : x < 2 ^ 64) : ∃ (neg : Bool) (r : Nat), x = double.word neg r ∧ r < 2 ^ 63 := by
  by_cases h : x < 2 ^ 63
  · exact ⟨false, x, rfl, h⟩
  · refine ⟨true, x - 2 ^ 63, ?_, by omega⟩
    unfold Format.word
    rw [if_pos rfl, sw_eq]; omega

/-- 'transmit >= 0 && transmit <= 1'. -/
theorem trOk_of {x : Nat} (hx : x < 2 ^ 64) (h1 : (double.order x 0 == some .gt || double.order x 0 == some .eq) = true) (h2 : (double.order x 4607182418800017408 == some .lt || double.order x 4607182418800017408 == some .eq) = true) : TrOk x := by
  have hi := inf_eq
  obtain ⟨neg, r, rfl, hr⟩ := word_of hx
  rcases Nat.lt_or_ge r double.infRung with hlt | hge
  · cases neg
    · right
      have e : double.word false r = r := rfl
      rw [e] at h2 ⊢
      rw [order_pos hlt (by omega)] at h2
      rcases Nat.lt_or_ge 4607182418800017408 r with g | g
      · rw [Nat.compare_eq_gt.2 g] at h2; exact absurd h2 (by decide)
      · exact g
    · left
      have := order_zero_neg hlt h1
      rw [this]; decide +kernel
  · exfalso
    have hw1 : (double.word neg r / double.signWeight % 2 == 1) = neg := by
      rw [sw_eq]; unfold Format.word; rw [sw_eq]
      cases neg
      · rw [if_neg (by simp), Nat.div_eq_of_lt (by omega)]; rfl
      · rw [if_pos rfl, show (2 ^ 63 + r) / 2 ^ 63 = 1 from by omega]; rfl
    have hw2 : double.word neg r % double.signWeight = r := by
      rw [sw_eq]; unfold Format.word; rw [sw_eq]
      cases neg
      · rw [if_neg (by simp)]; omega
      · rw [if_pos rfl]; omega
    have hrd : double.read (double.word neg r) = if r = double.infRung then .infinity neg else .nan neg (r - double.infRung) := by
      unfold Format.read
      rw [hw1, hw2]
      dsimp only
      rw [if_neg (by rw [bi_eq]; omega), if_neg (by omega)]
    unfold Format.order at h1 h2
    rw [hrd] at h1 h2
    have r0 : double.read 0 = .number false 0 (-1074) := by decide +kernel
    have r1 : double.read 4607182418800017408 = .number false 4503599627370496 (-52) := by decide +kernel
    rw [r0] at h1
    rw [r1] at h2
    by_cases hE : r = double.infRung
    · rw [if_pos hE] at h1 h2
      cases neg
      · exact absurd h2 (by decide)
      · exact absurd h1 (by decide)
    · rw [if_neg hE] at h1
      exact absurd h1 (by simp [Datum.order])

theorem trOk_lt {tr : Nat} (h : TrOk tr) : tr < 2 ^ 64 := by rcases h with h | h <;> omega

/-! ### the two built-ins, on numbers that are not negative -/
theorem read_neg_false {r : Nat} (h : r < double.infRung) : (FloatKind.f64.decode r).neg = false := by
  obtain ⟨m, e, hr, _⟩ := read_pos h
  show (double.read r).neg = false
  rw [hr]; rfl

theorem run_max_pos {P : Program} (ts : Array TypeId) (t : TypeId) {x y : Nat} (hx : x < double.infRung) (hy : y < double.infRung) (w : World) :
    (Builtin.max_ ts t #[.float .f64 x, .float .f64 y]).run P w = .ok (.float .f64 (max x y)) w := by
  have ho : FloatKind.f64.format.order x y = some (compare x y) := order_pos hx hy
  rcases Nat.lt_trichotomy x y with h | h | h
  · rw [Nat.compare_eq_lt.2 h] at ho
    simp [Builtin.max_, Builtin.max2, ho, Nat.max_eq_right (Nat.le_of_lt h)]
  · subst h
    rw [Nat.compare_eq_eq.2 rfl] at ho
    simp [Builtin.max_, Builtin.max2, ho]
  · rw [Nat.compare_eq_gt.2 h] at ho
    simp [Builtin.max_, Builtin.max2, ho, Nat.max_eq_left (Nat.le_of_lt h)]

theorem run_min_pos {P : Program} (ts : Array TypeId) (t : TypeId) {x y : Nat} (hx : x < double.infRung) (hy : y < double.infRung) (w : World) :
    (Builtin.min_ ts t #[.float .f64 x, .float .f64 y]).run P w = .ok (.float .f64 (min x y)) w := by
  have ho : FloatKind.f64.format.order x y = some (compare x y) := order_pos hx hy
  rcases Nat.lt_trichotomy x y with h | h | h
  · rw [Nat.compare_eq_lt.2 h] at ho
    simp [Builtin.min_, Builtin.min2, ho, Nat.min_eq_left (Nat.le_of_lt h)]
  · subst h
    rw [Nat.compare_eq_eq.2 rfl] at ho
    simp [Builtin.min_, Builtin.min2, ho]
  · rw [Nat.compare_eq_gt.2 h] at ho
    simp [Builtin.min_, Builtin.min2, ho, Nat.min_eq_right (Nat.le_of_lt h)]

end Go.Proofs.Qxb6612705a.Fl
