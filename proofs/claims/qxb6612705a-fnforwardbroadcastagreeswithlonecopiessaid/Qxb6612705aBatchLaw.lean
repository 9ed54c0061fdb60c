import Derived.Test.Qxb6612705aEnv2
import Derived.Test.Qxb6612705aHeapLaw
namespace Go.Proofs.Qxb6612705a
open Go.RowKit
open Fl

theorem u64_mod (x : Int) : IntKind.u64.wrap x = x % 18446744073709551616 := by
  rw [IntKind.wrap_u64]

theorem seqA_eq (s : Int) (h0 : 0 ≤ s) (h1 : s < 18446744073709551616) : ∀ k : Nat, seqA s k = (s + k) % 18446744073709551616
  | 0 => by simp only [seqA]; omega
  | k + 1 => by rw [seqA, seqA_eq s h0 h1 k, u64_mod]; omega

/-- The copy to the (d0+i)-th process, as it is queued. -/
def Cx.qm (c : Cx) (d0 : Nat) (s : Int) (i : Nat) : Msg := { c.msg (d0 + i) with seq := seqA s (i + 1) }

theorem heapA_ok (c : Cx) (d0 : Nat) (s : Int) : ∀ k, HeapOk (c.heapA d0 s k)
  | 0 => fun j _ h2 => by simp [Cx.heapA] at h2
  | k + 1 => by rw [Cx.heapA]; exact push_heap _ _ (heapA_ok c d0 s k)

theorem heapA_in (c : Cx) (d0 : Nat) (s : Int) (x : Msg) : ∀ k, In (c.heapA d0 s k) x ↔ ∃ i, i < k ∧ x = c.qm d0 s i
  | 0 => by
    constructor
    · rintro ⟨j, hj, _⟩; simp [Cx.heapA] at hj
    · rintro ⟨i, hi, _⟩; omega
  | k + 1 => by
    rw [Cx.heapA, push_in, heapA_in c d0 s x k]
    constructor
    · rintro (⟨i, hi, he⟩ | he)
      · exact ⟨i, by omega, he⟩
      · exact ⟨k, by omega, he⟩
    · rintro ⟨i, hi, he⟩
      by_cases h : i = k
      · right; rw [he, h]; rfl
      · exact .inl ⟨i, by omega, he⟩

/-- Each process has its copy in the queue. -/
theorem heapA_has (c : Cx) (d0 : Nat) (s : Int) (k i : Nat) (hi : i < k) : ∃ t, t < k ∧ (c.heapA d0 s k).getD t noMsg = c.qm d0 s i := by
  obtain ⟨t, ht, he⟩ := (heapA_in c d0 s (c.qm d0 s i) k).2 ⟨i, hi, rfl⟩
  rw [Cx.heapA_length] at ht
  exact ⟨t, ht, he⟩
/-- What is in the queue is some process's copy. -/
theorem heapA_all (c : Cx) (d0 : Nat) (s : Int) (k t : Nat) (ht : t < k) : ∃ i, i < k ∧ (c.heapA d0 s k).getD t noMsg = c.qm d0 s i :=
  (heapA_in c d0 s _ k).1 ⟨t, by rw [Cx.heapA_length]; exact ht, rfl⟩
/-- A copy is told by where it goes. -/
theorem heapA_dst (c : Cx) (d0 : Nat) (s : Int) (k t i : Nat) (ht : t < k) (hd : ((c.heapA d0 s k).getD t noMsg).dst = ((d0 + i : Nat) : Int)) : (c.heapA d0 s k).getD t noMsg = c.qm d0 s i := by
  obtain ⟨i', hi', he⟩ := heapA_all c d0 s k t ht
  rw [he] at hd ⊢
  have h2 : (((d0 + i' : Nat)) : Int) = ((d0 + i : Nat) : Int) := hd
  have : i' = i := by omega
  rw [this]

/-- The loads' sum. -/
def Cx.tot (c : Cx) : Nat → Int
  | 0 => 0
  | k + 1 => c.tot k + c.load k
theorem Cx.Ok.tot_bd {c : Cx} (h : c.Ok) : ∀ k : Nat, 0 ≤ c.tot k ∧ c.tot k ≤ (k : Int) * 54975581388800
  | 0 => by simp [Cx.tot]
  | k + 1 => by
    have h1 := h.tot_bd k
    have h2 := h.load_bd k
    rw [Cx.tot]; omega
theorem wrap64_add (a b : Int) : wrap64 (wrap64 a + b) = wrap64 (a + b) := by unfold wrap64; omega
theorem wrap64_id (x : Int) (h1 : -9223372036854775808 ≤ x) (h2 : x ≤ 9223372036854775807) : wrap64 x = x := IntWalk.wrap64_in x ⟨h1, h2⟩
theorem Cx.Ok.sum_eq {c : Cx} (h : c.Ok) : ∀ k : Nat, c.sumA 0 k = wrap64 (c.loads.getD c.n 0 + c.tot k)
  | 0 => by
    have := h.lpos c.n
    rw [Cx.sumA, Cx.tot, wrap64_id _ (by omega) (by omega)]; omega
  | k + 1 => by rw [Cx.sumA, h.sum_eq k, wrap64_add, Cx.tot, Nat.zero_add, Int.add_assoc]

/-- How far a copy's number is from the first. -/
theorem seq_back (s : Int) (i : Nat) (h0 : 0 ≤ s) (h1 : s < 18446744073709551616) (hi : i < 65536) : IntKind.u64.wrap (IntKind.u64.wrap (seqA s (i + 1) - s) - 1) = (i : Int) := by
  rw [seqA_eq s h0 h1, u64_mod, u64_mod]; omega

theorem Cx.Ok.arr_hi {c : Cx} (_h : c.Ok) (j : Nat) : c.arr j ≤ max (c.fr0 j) (c.now + 3000000000) := by
  have := Cx.Ok.del_bd c j
  unfold Cx.arr
  split <;> omega

end Go.Proofs.Qxb6612705a
