import Ieee.Arith
namespace Go.Proofs.Qxb6612705a.Fl
open Ieee

/-- The value of the rung r, in units of the least place (a double's 2 to the -1074). -/
def W (r : Nat) : Nat := if r < 2 ^ 52 then r else (2 ^ 52 + r % 2 ^ 52) * 2 ^ (r / 2 ^ 52 - 1)

/-- A rung as a binade's number e and a significand q: its value. -/
theorem W_at (e q : Nat) (hq : q ≤ 2 ^ 53) (he : e = 0 ∨ 2 ^ 52 ≤ q) : W (e * 2 ^ 52 + q) = q * 2 ^ e := by
  unfold W
  by_cases h1 : e * 2 ^ 52 + q < 2 ^ 52
  · have : e = 0 := by omega
    subst this
    rw [if_pos h1]; simp
  · rw [if_neg h1]
    by_cases h2 : q < 2 ^ 52
    · omega
    · by_cases h3 : q = 2 ^ 53
      · subst h3
        have e1 : (e * 2 ^ 52 + 2 ^ 53) % 2 ^ 52 = 0 := by omega
        have e2 : (e * 2 ^ 52 + 2 ^ 53) / 2 ^ 52 - 1 = e + 1 := by omega
        rw [e1, e2, Nat.pow_succ]; omega
      · have e1 : (e * 2 ^ 52 + q) % 2 ^ 52 = q - 2 ^ 52 := by omega
        have e2 : (e * 2 ^ 52 + q) / 2 ^ 52 - 1 = e := by omega
        have e3 : 2 ^ 52 + (q - 2 ^ 52) = q := by omega
        rw [e1, e2, e3]

/-- Every rung is such. -/
theorem rung_form (r : Nat) : ∃ e q, r = e * 2 ^ 52 + q ∧ q < 2 ^ 53 ∧ (e = 0 ∨ 2 ^ 52 ≤ q) := by
  by_cases h : r < 2 ^ 52
  · exact ⟨0, r, by omega, by omega, .inl rfl⟩
  · exact ⟨r / 2 ^ 52 - 1, 2 ^ 52 + r % 2 ^ 52, by omega, by omega, .inr (by omega)⟩

theorem W_succ_lt (r : Nat) : W r < W (r + 1) := by
  obtain ⟨e, q, rfl, hq, he⟩ := rung_form r
  rw [show e * 2 ^ 52 + q + 1 = e * 2 ^ 52 + (q + 1) from by omega, W_at e q (by omega) he, W_at e (q + 1) (by omega) (by omega)]
  have : 0 < 2 ^ e := Nat.two_pow_pos e
  rw [Nat.add_mul]; omega

theorem W_lt {r s : Nat} (h : r < s) : W r < W s := by
  induction s with
  | zero => omega
  | succ s ih =>
    by_cases e : r = s
    · subst e; exact W_succ_lt r
    · exact Nat.lt_trans (ih (by omega)) (W_succ_lt s)

theorem W_le {r s : Nat} (h : r ≤ s) : W r ≤ W s := by
  rcases Nat.lt_or_eq_of_le h with h | h
  · exact Nat.le_of_lt (W_lt h)
  · rw [h]; exact Nat.le_refl _

theorem le_of_W {r s : Nat} (h : W r ≤ W s) : r ≤ s := by
  rcases Nat.lt_or_ge s r with h' | h'
  · have := W_lt h'; omega
  · exact h'

theorem W_zero : W 0 = 0 := by simp [W]

theorem W_pos {r : Nat} (h : 0 < r) : 0 < W r := by have := W_lt h; rw [W_zero] at this; exact this

/-- R is the rung nearest to A/B, between two the even one. -/
def Rounds (A B R : Nat) : Prop := ∀ k, k < R ↔ ((W k + W (k + 1)) * B < 2 * A ∨ ((W k + W (k + 1)) * B = 2 * A ∧ k % 2 = 1))

theorem Rounds.mono {A B R A' B' R' : Nat} (h : Rounds A B R) (h' : Rounds A' B' R') (hB : 0 < B) (hB' : 0 < B') (hle : A * B' ≤ A' * B) : R ≤ R' := by
  rcases Nat.lt_or_ge R' R with hlt | hge
  · exfalso
    have h1 := (h R').1 hlt
    have h2 := mt (h' R').2 (Nat.lt_irrefl R')
    have key : (W R' + W (R' + 1)) * B < 2 * A ∨ ((W R' + W (R' + 1)) * B = 2 * A ∧ R' % 2 = 1) → ((W R' + W (R' + 1)) * B' < 2 * A' ∨ ((W R' + W (R' + 1)) * B' = 2 * A' ∧ R' % 2 = 1)) := by
      generalize W R' + W (R' + 1) = M
      intro hh
      rcases hh with hh | ⟨hh, ho⟩
      · left
        have e1 : M * B * B' < 2 * A * B' := Nat.mul_lt_mul_of_pos_right hh hB'
        have e2 : 2 * A * B' ≤ 2 * A' * B := by rw [Nat.mul_assoc, Nat.mul_assoc]; exact Nat.mul_le_mul_left 2 hle
        have e3 : M * B' * B < 2 * A' * B := by rw [Nat.mul_right_comm M B' B]; omega
        exact Nat.lt_of_mul_lt_mul_right e3
      · have e1 : M * B * B' = 2 * A * B' := by rw [hh]
        have e2 : 2 * A * B' ≤ 2 * A' * B := by rw [Nat.mul_assoc, Nat.mul_assoc]; exact Nat.mul_le_mul_left 2 hle
        have e3 : M * B' * B ≤ 2 * A' * B := by rw [Nat.mul_right_comm M B' B]; omega
        have e4 : M * B' ≤ 2 * A' := Nat.le_of_mul_le_mul_right e3 hB
        rcases Nat.lt_or_eq_of_le e4 with e5 | e5
        · exact .inl e5
        · exact .inr ⟨e5, ho⟩
    exact h2 (key h1)
  · exact hge

theorem Rounds.unique {A B R A' B' R' : Nat} (h : Rounds A B R) (h' : Rounds A' B' R') (hB : 0 < B) (hB' : 0 < B') (he : A * B' = A' * B) : R = R' :=
  Nat.le_antisymm (h.mono h' hB hB' (Nat.le_of_eq he)) (h'.mono h hB' hB (Nat.le_of_eq he.symm))

/-- What is a rung's own value rounds to it. -/
theorem Rounds.exact (r B : Nat) (hB : 0 < B) : Rounds (W r * B) B r := by
  intro k
  constructor
  · intro hk
    left
    have h1 := W_succ_lt k
    have h2 : W (k + 1) ≤ W r := W_le hk
    have h3 : W k + W (k + 1) < 2 * W r := by omega
    calc (W k + W (k + 1)) * B < 2 * W r * B := Nat.mul_lt_mul_of_pos_right h3 hB
      _ = 2 * (W r * B) := Nat.mul_assoc ..
  · intro h
    rcases Nat.lt_or_ge k r with hk | hk
    · exact hk
    · exfalso
      have h1 : W r ≤ W k := W_le hk
      have h2 := W_succ_lt k
      have h3 : 2 * W r < W k + W (k + 1) := by omega
      have h4 : 2 * W r * B < (W k + W (k + 1)) * B := Nat.mul_lt_mul_of_pos_right h3 hB
      rw [Nat.mul_assoc] at h4
      omega

theorem Rounds.scale {A B R : Nat} (h : Rounds A B R) (c : Nat) (hc : 0 < c) : Rounds (A * c) (B * c) R := by
  intro k
  rw [h k]
  have e1 : (W k + W (k + 1)) * (B * c) = (W k + W (k + 1)) * B * c := (Nat.mul_assoc ..).symm
  have e2 : 2 * (A * c) = 2 * A * c := (Nat.mul_assoc ..).symm
  rw [e1, e2, Nat.mul_lt_mul_right hc]
  constructor
  · rintro (h | ⟨h, o⟩)
    · exact .inl h
    · exact .inr ⟨by rw [h], o⟩
  · rintro (h | ⟨h, o⟩)
    · exact .inl h
    · exact .inr ⟨Nat.eq_of_mul_eq_mul_right hc h, o⟩

theorem Rounds.le {A B R r : Nat} (h : Rounds A B R) (hB : 0 < B) (hle : A ≤ W r * B) : R ≤ r := by
  have := h.mono (Rounds.exact r 1 (by omega)) hB (by omega) (by simpa using hle)
  exact this

theorem Rounds.ge {A B R r : Nat} (h : Rounds A B R) (hB : 0 < B) (hle : W r * B ≤ A) : r ≤ R :=
  (Rounds.exact r 1 (by omega)).mono h (by omega) hB (by simpa using hle)

/-- The sandwich: a value between two neighbours, and the choice between them. -/
theorem sandwich {A B : Nat} (hB : 0 < B) (e q inc : Nat) (hq : q < 2 ^ 53) (he : e = 0 ∨ 2 ^ 52 ≤ q) (h1 : q * 2 ^ e * B ≤ A) (h2 : A < (q + 1) * 2 ^ e * B)
    (hi : inc ≤ 1) (hinc : inc = 1 ↔ ((2 * q + 1) * 2 ^ e * B < 2 * A ∨ ((2 * q + 1) * 2 ^ e * B = 2 * A ∧ q % 2 = 1))) : Rounds A B (e * 2 ^ 52 + q + inc) := by
  have w0 : W (e * 2 ^ 52 + q) = q * 2 ^ e := W_at e q (by omega) he
  have w1 : W (e * 2 ^ 52 + q + 1) = (q + 1) * 2 ^ e := by
    rw [show e * 2 ^ 52 + q + 1 = e * 2 ^ 52 + (q + 1) from by omega]; exact W_at e (q + 1) (by omega) (by omega)
  intro k
  rcases Nat.lt_trichotomy k (e * 2 ^ 52 + q) with hk | hk | hk
  · constructor
    · intro _
      left
      have g1 := W_succ_lt k
      have g2 : W (k + 1) ≤ W (e * 2 ^ 52 + q) := W_le hk
      have g3 : W k + W (k + 1) < 2 * W (e * 2 ^ 52 + q) := by omega
      have g4 : (W k + W (k + 1)) * B < 2 * W (e * 2 ^ 52 + q) * B := Nat.mul_lt_mul_of_pos_right g3 hB
      rw [w0, Nat.mul_assoc] at g4
      omega
    · intro _; exact Nat.lt_of_lt_of_le hk (Nat.le_add_right _ _)
  · rw [hk, w0, w1]
    have hs : q * 2 ^ e + (q + 1) * 2 ^ e = (2 * q + 1) * 2 ^ e := by rw [← Nat.add_mul, show q + (q + 1) = 2 * q + 1 from by omega]
    have hp : (e * 2 ^ 52 + q) % 2 = q % 2 := by omega
    rw [hs, hp, ← hinc]
    omega
  · constructor
    · intro _; omega
    · intro h
      exfalso
      have g1 := W_succ_lt k
      have g2 : W (e * 2 ^ 52 + q + 1) ≤ W k := W_le hk
      have g3 : 2 * W (e * 2 ^ 52 + q + 1) < W k + W (k + 1) := by omega
      have g4 : 2 * W (e * 2 ^ 52 + q + 1) * B < (W k + W (k + 1)) * B := Nat.mul_lt_mul_of_pos_right g3 hB
      rw [w1, Nat.mul_assoc] at g4
      omega

end Go.Proofs.Qxb6612705a.Fl
