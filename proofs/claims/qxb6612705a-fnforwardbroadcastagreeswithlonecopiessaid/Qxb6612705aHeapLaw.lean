import Derived.Test.Qxb6612705aHeap
namespace Go.Proofs.Qxb6612705a
open Go.RowKit

/-! ### The heap's plain law -/
theorem beforeM_iff (a b : Msg) : beforeM a b = true ↔ a.tat < b.tat ∨ (a.tat = b.tat ∧ a.seq < b.seq) := by simp [beforeM, beforeB]
theorem beforeM_asymm {a b : Msg} (h : beforeM a b = true) : beforeM b a = false := by
  rw [beforeM_iff] at h
  rw [Bool.eq_false_iff]; intro h2; rw [beforeM_iff] at h2; omega
theorem beforeM_trans {a b c : Msg} (h : beforeM a b = true) (k : beforeM b c = true) : beforeM a c = true := by
  rw [beforeM_iff] at *; omega
theorem beforeM_neg {a b c : Msg} (h : beforeM a b = false) (k : beforeM b c = false) : beforeM a c = false := by
  rw [Bool.eq_false_iff] at *
  intro g
  rw [Ne, beforeM_iff] at h k
  rw [beforeM_iff] at g
  omega

/-- Every message but the first is not before its parent. -/
def HeapOk (h : List Msg) : Prop := ∀ j, 1 ≤ j → j < h.length → beforeM (h.getD j noMsg) (h.getD ((j - 1) / 2) noMsg) = false
/-- The same but at place k, whose children are not before k's parent. -/
def Almost (h : List Msg) (k : Nat) : Prop :=
  (∀ j, 1 ≤ j → j < h.length → j ≠ k → beforeM (h.getD j noMsg) (h.getD ((j - 1) / 2) noMsg) = false) ∧
  ∀ j, 1 ≤ j → j < h.length → (j - 1) / 2 = k → 1 ≤ k → beforeM (h.getD j noMsg) (h.getD ((k - 1) / 2) noMsg) = false

theorem swapAt_get (h : List Msg) (k p j : Nat) (hk : k < h.length) (hp : p < h.length) : (swapAt h k p).getD j noMsg = if j = p then h.getD k noMsg else if j = k then h.getD p noMsg else h.getD j noMsg := by
  unfold swapAt
  simp only [List.getD, List.getElem?_set, List.length_set]
  by_cases h1 : p = j
  · subst h1; simp [hp]
  · have h1' : ¬ j = p := fun e => h1 e.symm
    rw [if_neg h1, if_neg h1']
    by_cases h2 : k = j
    · subst h2; simp [hk]
    · have h2' : ¬ j = k := fun e => h2 e.symm
      rw [if_neg h2, if_neg h2']

theorem Almost.swap {h : List Msg} {k : Nat} (ha : Almost h k) (hk : 1 ≤ k) (hl : k < h.length) (hb : beforeM (h.getD k noMsg) (h.getD ((k - 1) / 2) noMsg) = true) : Almost (swapAt h k ((k - 1) / 2)) ((k - 1) / 2) := by
  obtain ⟨a1, a2⟩ := ha
  obtain ⟨p, hp⟩ : ∃ p, p = (k - 1) / 2 := ⟨_, rfl⟩
  rw [← hp] at hb ⊢
  have hpk : p < k := by omega
  have hpl : p < h.length := by omega
  refine ⟨fun j h1 h2 h3 => ?_, fun j h1 h2 h3 h4 => ?_⟩
  · rw [swapAt_length] at h2
    rw [swapAt_get h k p _ hl hpl, swapAt_get h k p _ hl hpl, if_neg h3]
    by_cases e : j = k
    · subst e
      rw [if_pos rfl, if_pos hp.symm]
      exact beforeM_asymm hb
    · rw [if_neg e]
      by_cases e1 : (j - 1) / 2 = p
      · rw [if_pos e1]
        have g := a1 j h1 h2 e
        rw [e1] at g
        rw [Bool.eq_false_iff]
        intro hh
        rw [beforeM_trans hh hb] at g
        cases g
      · rw [if_neg e1]
        by_cases e2 : (j - 1) / 2 = k
        · rw [if_pos e2]
          have g := a2 j h1 h2 e2 hk
          rw [← hp] at g
          exact g
        · rw [if_neg e2]
          exact a1 j h1 h2 e
  · rw [swapAt_length] at h2
    rw [swapAt_get h k p _ hl hpl, swapAt_get h k p _ hl hpl, if_neg (show ¬ j = p by omega), if_neg (show ¬ (p - 1) / 2 = p by omega), if_neg (show ¬ (p - 1) / 2 = k by omega)]
    have gp := a1 p h4 hpl (by omega)
    by_cases e : j = k
    · rw [if_pos e]; exact gp
    · rw [if_neg e]
      have g := a1 j h1 h2 e
      rw [h3] at g
      exact beforeM_neg g gp

theorem sift_heap : ∀ (f : Nat) (h : List Msg) (k : Nat), k ≤ f → k < h.length → Almost h k → HeapOk (siftF f h k)
  | 0, h, k, hf, _, ha => by
    obtain rfl : k = 0 := by omega
    rw [siftF]
    exact fun j h1 h2 => ha.1 j h1 h2 (by omega)
  | f + 1, h, k, hf, hl, ha => by
    rw [siftF]
    split
    · next e => exact fun j h1 h2 => ha.1 j h1 h2 (by omega)
    · next e =>
      split
      · next hb => exact sift_heap f _ _ (by omega) (by rw [swapAt_length]; omega) (ha.swap (by omega) hl hb)
      · next hb =>
        intro j h1 h2
        by_cases e2 : j = k
        · subst e2; simpa using hb
        · exact ha.1 j h1 h2 e2

theorem getD_append (h : List Msg) (m : Msg) (j : Nat) (hj : j < h.length) : (h ++ [m]).getD j noMsg = h.getD j noMsg := by
  simp only [List.getD]; rw [List.getElem?_append_left hj]

theorem push_heap (h : List Msg) (m : Msg) (hh : HeapOk h) : HeapOk (pushH h m) := by
  unfold pushH
  refine sift_heap _ _ _ (Nat.le_refl _) (by simp) ⟨fun j h1 h2 h3 => ?_, fun j h1 h2 h3 h4 => ?_⟩
  · simp at h2
    rw [getD_append _ _ _ (by omega), getD_append _ _ _ (by omega)]
    exact hh j h1 (by omega)
  · simp at h2
    omega

/-- A message is in the row. -/
def In (h : List Msg) (x : Msg) : Prop := ∃ j, j < h.length ∧ h.getD j noMsg = x

theorem swap_in (h : List Msg) (k p : Nat) (hk : k < h.length) (hp : p < h.length) (x : Msg) : In (swapAt h k p) x ↔ In h x := by
  constructor
  · rintro ⟨j, hj, he⟩
    rw [swapAt_length] at hj
    rw [swapAt_get h k p j hk hp] at he
    split at he
    · exact ⟨k, hk, he⟩
    · split at he
      · exact ⟨p, hp, he⟩
      · exact ⟨j, hj, he⟩
  · rintro ⟨j, hj, he⟩
    by_cases h1 : j = k
    · exact ⟨p, by rw [swapAt_length]; exact hp, by rw [swapAt_get h k p p hk hp, if_pos rfl, ← h1]; exact he⟩
    · by_cases h2 : j = p
      · refine ⟨k, by rw [swapAt_length]; exact hk, ?_⟩
        rw [swapAt_get h k p k hk hp]
        by_cases h3 : k = p
        · omega
        · rw [if_neg h3, if_pos rfl, ← h2]; exact he
      · exact ⟨j, by rw [swapAt_length]; exact hj, by rw [swapAt_get h k p j hk hp, if_neg h2, if_neg h1]; exact he⟩

theorem sift_in : ∀ (f : Nat) (h : List Msg) (k : Nat) (x : Msg), k < h.length → (In (siftF f h k) x ↔ In h x)
  | 0, h, k, x, _ => by rw [siftF]
  | f + 1, h, k, x, hl => by
    rw [siftF]
    split
    · exact Iff.rfl
    · split
      · rw [sift_in f _ _ x (by rw [swapAt_length]; omega), swap_in h k _ hl (by omega)]
      · exact Iff.rfl

theorem push_in (h : List Msg) (m x : Msg) : In (pushH h m) x ↔ In h x ∨ x = m := by
  unfold pushH
  rw [sift_in _ _ _ _ (by simp)]
  constructor
  · rintro ⟨j, hj, he⟩
    simp at hj
    by_cases e : j = h.length
    · right
      subst e
      simp [List.getD] at he
      exact he.symm
    · left
      rw [getD_append _ _ _ (by omega)] at he
      exact ⟨j, by omega, he⟩
  · rintro (⟨j, hj, he⟩ | rfl)
    · exact ⟨j, by simp; omega, by rw [getD_append _ _ _ hj]; exact he⟩
    · exact ⟨h.length, by simp, by simp [List.getD]⟩

end Go.Proofs.Qxb6612705a
