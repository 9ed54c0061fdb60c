import Derived.Test.Qxb6612705aFl5
namespace Go.Proofs.Qxb6612705a.Fl
open Ieee

theorem exact_rung (L j : Nat) (hL : L < 2 ^ 53) (hj : 52 ≤ j) : ∃ r, W r = L * 2 ^ j := by
  rcases Nat.eq_zero_or_pos L with h | h
  · exact ⟨0, by rw [h, Nat.zero_mul, W_zero]⟩
  · have h1 := log2_le h
    have h2 := lt_log2 L
    have hk : L.log2 ≤ 52 := by
      rcases Nat.lt_or_ge L.log2 53 with g | g
      · omega
      · have := Nat.pow_le_pow_right (n := 2) (by omega) g; omega
    obtain ⟨k, hkk⟩ : ∃ k, L.log2 + k = 52 := ⟨52 - L.log2, by omega⟩
    obtain ⟨e, he⟩ : ∃ e, e + k = j := ⟨j - k, by omega⟩
    refine ⟨e * 2 ^ 52 + L * 2 ^ k, ?_⟩
    rw [W_at e (L * 2 ^ k) ?_ (.inr ?_), Nat.mul_assoc, ← Nat.pow_add, show k + e = j from by omega]
    · have := Nat.mul_le_mul_right (2 ^ k) (Nat.le_of_lt h2)
      rw [← Nat.pow_add, show L.log2 + 1 + k = 53 from by omega] at this; exact this
    · have := Nat.mul_le_mul_right (2 ^ k) h1
      rw [← Nat.pow_add, hkk] at this; exact this

theorem fI_exact {L : Nat} (hL : L < 2 ^ 53) : W (fI L) = L * U := by
  obtain ⟨r, hr⟩ := exact_rung L pU hL (by rw [pU_eq]; omega)
  rw [← U_eq] at hr
  have h1 := (fI_rounds (n := L) (by omega)).1
  have h2 := Rounds.exact r 1 (by omega)
  have : fI L = r := h1.unique h2 (by omega) (by omega) (by rw [Nat.mul_one, Nat.mul_one, Nat.mul_one, hr])
  rw [this, hr]

theorem utilB_exact {L : Nat} (hL : L < 2 ^ 53) : W (utilB L) * 2 ^ 40 = L * U := by
  obtain ⟨t, ht⟩ : ∃ t, t + 40 = pU := ⟨1034, by rw [pU_eq]⟩
  obtain ⟨r, hr⟩ := exact_rung L t hL (by have := pU_eq; omega)
  have hU : 2 ^ t * 2 ^ 40 = U := pow_pU t 40 ht
  obtain ⟨_, h1, _⟩ := util_facts (l := L) (by omega)
  have h2 := Rounds.exact r (2 ^ 40) (by omega)
  have e : W r * 2 ^ 40 = L * U := by rw [hr, Nat.mul_assoc, hU]
  have : utilB L = r := h1.unique h2 (by omega) (by omega) (by rw [fI_exact hL, e])
  rw [this, e]

theorem mul_back {L : Nat} (hL : L < 2 ^ 53) : double.mul (utilB L) 4787326403894837248 = some (fI L) := by
  have hi := inf_eq
  obtain ⟨_, _, h3⟩ := util_facts (l := L) (by omega)
  obtain ⟨f1, f2⟩ := fI_rounds (n := L) (by omega)
  obtain ⟨R, hr, ho⟩ := mul_pos (x := utilB L) (y := 4787326403894837248) h3 (by omega)
  rw [W_c40, ← Nat.mul_assoc, utilB_exact hL, ← fI_exact hL] at hr
  have : R = fI L := hr.unique (Rounds.exact (fI L) U U_pos) U_pos U_pos rfl
  rw [this, min_inf f2 (by omega)] at ho
  exact ho

/-! ### zzNear -/
/-- How a negative word stands to another, and to one that is not. -/
theorem order_negneg {r s : Nat} (hr : r < double.infRung) (hs : s < double.infRung) (h : r ≤ s) : (double.order (double.word true r) (double.word true s) == some .gt || double.order (double.word true r) (double.word true s) == some .eq) = true := by
  obtain ⟨m, e, hr', hW⟩ := read_word true hr
  obtain ⟨n, f, hs', hV⟩ := read_word true hs
  unfold Format.order
  rw [hr', hs']
  simp only [Datum.order, signed_eq]
  generalize hb : min ((e : Int) - 1074) ((f : Int) - 1074) = b
  obtain ⟨g, hg, h1, h2⟩ := common (m := m) (n := n) hb.symm
  generalize m * 2 ^ (((e : Int) - 1074 - b).toNat) = A at *
  generalize n * 2 ^ (((f : Int) - 1074 - b).toNat) = B at *
  rw [← h1] at hW
  rw [← h2] at hV
  have pg : 0 < 2 ^ g := Nat.two_pow_pos g
  have hle := W_le h
  rw [hW, hV] at hle
  have hAB : A ≤ B := Nat.le_of_mul_le_mul_right hle pg
  simp only [if_true]
  rcases Nat.lt_or_eq_of_le hAB with g | g
  · have : compare (-(A : Int)) (-(B : Int)) = .gt := Int.compare_eq_gt.2 (by omega)
    rw [this]; decide
  · have : compare (-(A : Int)) (-(B : Int)) = .eq := Int.compare_eq_eq.2 (by omega)
    rw [this]; decide

theorem order_posneg {r s : Nat} (hr : r < double.infRung) (hs : s < double.infRung) : (double.order r (double.word true s) == some .gt || double.order r (double.word true s) == some .eq) = true := by
  obtain ⟨m, e, hr', hW⟩ := read_pos hr
  obtain ⟨n, f, hs', hV⟩ := read_word true hs
  unfold Format.order
  rw [hr', hs']
  simp only [Datum.order, signed_eq]
  generalize min ((e : Int) - 1074) ((f : Int) - 1074) = b
  generalize m * 2 ^ (((e : Int) - 1074 - b).toNat) = A at *
  generalize n * 2 ^ (((f : Int) - 1074 - b).toNat) = B at *
  simp only [if_true, Bool.false_eq_true, if_false]
  rcases Int.lt_or_eq_of_le (show -(B : Int) ≤ (A : Int) by omega) with g | g
  · have : compare (A : Int) (-(B : Int)) = .gt := Int.compare_eq_gt.2 (by omega)
    rw [this]; decide
  · have : compare (A : Int) (-(B : Int)) = .eq := Int.compare_eq_eq.2 (by omega)
    rw [this]; decide

theorem order_negpos {r s : Nat} (hr : r < double.infRung) (hs : s < double.infRung) : (double.order (double.word true r) s == some .lt || double.order (double.word true r) s == some .eq) = true := by
  obtain ⟨m, e, hr', hW⟩ := read_word true hr
  obtain ⟨n, f, hs', hV⟩ := read_pos hs
  unfold Format.order
  rw [hr', hs']
  simp only [Datum.order, signed_eq]
  generalize min ((e : Int) - 1074) ((f : Int) - 1074) = b
  generalize m * 2 ^ (((e : Int) - 1074 - b).toNat) = A at *
  generalize n * 2 ^ (((f : Int) - 1074 - b).toNat) = B at *
  simp only [if_true, Bool.false_eq_true, if_false]
  rcases Int.lt_or_eq_of_le (show -(A : Int) ≤ (B : Int) by omega) with g | g
  · have : compare (-(A : Int)) (B : Int) = .lt := Int.compare_eq_lt.2 (by omega)
    rw [this]; decide
  · have : compare (-(A : Int)) (B : Int) = .eq := Int.compare_eq_eq.2 (by omega)
    rw [this]; decide

theorem order_le {r s : Nat} (hr : r < double.infRung) (hs : s < double.infRung) (h : r ≤ s) : (double.order r s == some .lt || double.order r s == some .eq) = true := by
  rw [order_pos hr hs]
  rcases Nat.lt_or_eq_of_le h with g | g
  · rw [Nat.compare_eq_lt.2 g]; decide
  · rw [Nat.compare_eq_eq.2 g]; decide

theorem order_self {r : Nat} (hr : r < double.infRung) : double.order r r = some .eq := by
  rw [order_pos hr hr, Nat.compare_eq_eq.2 rfl]

theorem neghalf_eq : double.word true 4602678819172646912 = 13826050856027422720 := by decide +kernel

/-- What zzNear asks of the difference d. -/
def NearOk (d : Nat) : Prop := (double.order d 13826050856027422720 == some .gt || double.order d 13826050856027422720 == some .eq) = true ∧ (double.order d 4602678819172646912 == some .lt || double.order d 4602678819172646912 == some .eq) = true

theorem near_round {Y : Nat} (hY : Y ≤ 4812377676822085632) : ∃ d, double.sub (fI (roundI Y)) Y = some d ∧ NearOk d := by
  have hi := inf_eq
  have hU := U_pos
  have c2 : roundI 4812377676822085632 = 54975581388800 := by decide +kernel
  have i2 := roundI_mono hY
  rw [c2] at i2
  have hf := fI_exact (L := roundI Y) (by omega)
  obtain ⟨_, f2⟩ := fI_rounds (n := roundI Y) (by omega)
  have hd1 : 2 * U * roundI Y ≤ 2 * W Y + U := Nat.mul_div_le (2 * W Y + U) (2 * U)
  have hd2 : 2 * W Y + U < 2 * U * (roundI Y + 1) := Nat.lt_mul_div_succ (2 * W Y + U) (by omega)
  generalize roundI Y = L at *
  have e1 : 2 * U * L = 2 * W (fI L) := by rw [hf, Nat.mul_assoc, Nat.mul_comm U]
  have e2 : 2 * U * (L + 1) = 2 * W (fI L) + 2 * U := by rw [Nat.mul_add, e1, Nat.mul_one]
  rw [e1] at hd1
  rw [e2] at hd2
  have hh : 2 * W 4602678819172646912 = U := by rw [show (4602678819172646912 : Nat) = 1022 * 2 ^ 52 from rfl]; exact W_half
  rcases Nat.lt_or_ge (fI L) Y with h | h
  · obtain ⟨R, hr, ho⟩ := sub_neg (x := fI L) (y := Y) (by omega) (by omega) h
    have r3 : R ≤ 4602678819172646912 := hr.le (by omega) (by rw [Nat.mul_one]; omega)
    rw [min_inf r3 (by omega)] at ho
    refine ⟨_, ho, ?_, ?_⟩
    · rw [← neghalf_eq]; exact order_negneg (by omega) (by omega) r3
    · exact order_negpos (by omega) (by omega)
  · obtain ⟨R, hr, ho⟩ := sub_pos (x := fI L) (y := Y) (by omega) (by omega) h
    have r3 : R ≤ 4602678819172646912 := hr.le (by omega) (by rw [Nat.mul_one]; omega)
    rw [min_inf r3 (by omega)] at ho
    refine ⟨_, ho, ?_, ?_⟩
    · rw [← neghalf_eq]; exact order_posneg (by omega) (by omega)
    · exact order_le (by omega) (by omega) r3

/-! ### the relay -/
theorem W_up {r : Nat} (h : 2 ^ 52 ≤ r) : W (r + 2 ^ 52) = 2 * W r := by
  obtain ⟨e, q, rfl, hq, he⟩ := rung_form r
  have hq' : 2 ^ 52 ≤ q := by omega
  rw [show e * 2 ^ 52 + q + 2 ^ 52 = (e + 1) * 2 ^ 52 + q from by omega, W_at (e + 1) q (by omega) (.inr hq'), W_at e q (by omega) he, Nat.pow_succ]
  rw [Nat.mul_comm (2 ^ e) 2, ← Nat.mul_assoc, Nat.mul_comm q 2, Nat.mul_assoc]

theorem W_small {k : Nat} (h : k ≤ 2 ^ 53) : W k = k := by
  have := W_at 0 k h (.inl rfl)
  simpa using this

theorem Rounds.up {A B R : Nat} (h : Rounds A B R) (hR : 2 ^ 52 + 1 ≤ R) (hB : 0 < B) : Rounds (A * 2) B (R + 2 ^ 52) := by
  intro k
  rcases Nat.lt_or_ge k (2 ^ 53) with hk | hk
  · constructor
    · intro _
      left
      have h1 := (h (2 ^ 52)).1 (by omega)
      rw [W_small (k := 2 ^ 52) (by omega), W_small (k := 2 ^ 52 + 1) (by omega)] at h1
      rw [W_small (k := k) (by omega), W_small (k := k + 1) (by omega)]
      have h2 : (2 ^ 52 + (2 ^ 52 + 1)) * B ≤ 2 * A := by
        rcases h1 with h1 | ⟨h1, _⟩
        · exact Nat.le_of_lt h1
        · exact Nat.le_of_eq h1
      have h3 : (k + (k + 1)) * B ≤ (2 * 2 ^ 53 - 1) * B := Nat.mul_le_mul_right B (by omega)
      have h4 : (2 * 2 ^ 53 - 1) * B < (2 * (2 ^ 52 + (2 ^ 52 + 1))) * B := Nat.mul_lt_mul_of_pos_right (by omega) hB
      rw [Nat.mul_assoc] at h4
      omega
    · intro _; omega
  · obtain ⟨i, rfl⟩ : ∃ i, k = i + 2 ^ 52 := ⟨k - 2 ^ 52, by omega⟩
    rw [show i + 2 ^ 52 + 1 = (i + 1) + 2 ^ 52 from by omega, W_up (by omega), W_up (by omega)]
    have e1 : (2 * W i + 2 * W (i + 1)) * B = 2 * ((W i + W (i + 1)) * B) := by rw [← Nat.mul_add, Nat.mul_assoc]
    have e2 : (i + 2 ^ 52) % 2 = i % 2 := by omega
    have e3 : i + 2 ^ 52 < R + 2 ^ 52 ↔ i < R := by omega
    rw [e1, e2, e3, h i]
    omega

theorem Rounds.ups {A B R : Nat} (h : Rounds A B R) (hR : 2 ^ 52 + 1 ≤ R) (hB : 0 < B) : ∀ j, Rounds (A * 2 ^ j) B (R + j * 2 ^ 52)
  | 0 => by simpa using h
  | j + 1 => by
    have := (Rounds.ups h hR hB j).up (by omega) hB
    rw [Nat.pow_succ, ← Nat.mul_assoc, show R + (j + 1) * 2 ^ 52 = R + j * 2 ^ 52 + 2 ^ 52 from by omega]
    exact this

theorem W_ups {r : Nat} (h : 2 ^ 52 ≤ r) : ∀ j, W (r + j * 2 ^ 52) = W r * 2 ^ j
  | 0 => by simp
  | j + 1 => by
    rw [show r + (j + 1) * 2 ^ 52 = r + j * 2 ^ 52 + 2 ^ 52 from by omega, W_up (by omega), W_ups h j, Nat.pow_succ, Nat.mul_comm 2, Nat.mul_assoc]

/-- THE RELAY: n equal loads together, over the unit, are n times one of them over the unit. -/
theorem relay_eq {n L : Nat} (hn : n ≤ 65536) (hL : L ≤ 54975581388800) : double.mul (fI n) (utilB L) = some (utilB (n * L)) := by
  have hi := inf_eq
  have hU := U_pos
  have hN : n * L ≤ 65536 * 54975581388800 := Nat.mul_le_mul hn hL
  obtain ⟨f1, f2⟩ := fI_rounds (n := n) (by omega)
  obtain ⟨_, _, u3⟩ := util_facts (l := L) (by omega)
  obtain ⟨a1, a2⟩ := fI_rounds (n := n * L) (by omega)
  obtain ⟨_, b2, b3⟩ := util_facts (l := n * L) (by omega)
  obtain ⟨c, cr, co⟩ := mul_pos (x := fI n) (y := utilB L) (by omega) u3
  rw [fI_exact (by omega)] at cr
  -- the product's value: (n * L) * U / 2^40
  have hLU := utilB_exact (L := L) (by omega)
  obtain ⟨t, ht⟩ : ∃ t, t + 40 = pU := ⟨1034, by rw [pU_eq]⟩
  have hUt : 2 ^ t * 2 ^ 40 = U := pow_pU t 40 ht
  have hWu : W (utilB L) = L * 2 ^ t := by
    refine Nat.eq_of_mul_eq_mul_right (show 0 < 2 ^ 40 by omega) ?_
    rw [hLU, Nat.mul_assoc, hUt]
  have cr' : Rounds (n * L * 2 ^ t) 1 c := by
    intro k
    rw [cr k, hWu]
    have e2 : 2 * (n * U * (L * 2 ^ t)) = 2 * (n * L * 2 ^ t) * U := by
      simp only [Nat.mul_assoc, Nat.mul_comm, Nat.mul_left_comm]
    rw [e2, Nat.mul_lt_mul_right hU, Nat.mul_one]
    constructor
    · rintro (g | ⟨g, o⟩)
      · exact .inl g
      · exact .inr ⟨Nat.eq_of_mul_eq_mul_right hU g, o⟩
    · rintro (g | ⟨g, o⟩)
      · exact .inl g
      · exact .inr ⟨by rw [g], o⟩
  have key : c = utilB (n * L) := by
    rcases Nat.eq_zero_or_pos (n * L) with h0 | h0
    · rw [h0, Nat.zero_mul] at cr'
      have hc : c = 0 := cr'.unique (rounds_zero 1 (by omega)) (by omega) (by omega) rfl
      rw [h0, hc]; decide +kernel
    · have hc : 2 ^ 52 + 1 ≤ c := by
        refine cr'.ge (by omega) ?_
        rw [Nat.mul_one, W_small (by omega)]
        have h1 : 2 ^ 53 ≤ 2 ^ t := Nat.pow_le_pow_right (by omega) (by have := pU_eq; omega)
        have h2 := Nat.le_mul_of_pos_left (2 ^ t) h0
        omega
      have up := cr'.ups hc (by omega) 40
      rw [Nat.mul_assoc, hUt] at up
      have ea : fI (n * L) = c + 40 * 2 ^ 52 := a1.unique up (by omega) (by omega) rfl
      rw [ea, W_ups (by omega)] at b2
      exact ((b2.unique (Rounds.exact c (2 ^ 40) (by omega)) (by omega) (by omega) rfl)).symm
  rw [key, min_inf (Nat.le_refl _) b3] at co
  exact co

end Go.Proofs.Qxb6612705a.Fl
