import Derived.Test.Qxb6612705aMem
import Derived.LoopTactic
namespace Go.Proofs.Qxb6612705a
open Go.RowKit

/-- The first k copied, the rest still nought. -/
def part (l : List Int) (n k : Nat) : List Int := l.take k ++ List.replicate (n - k) 0
theorem part_zero (l : List Int) (n : Nat) : part l n 0 = List.replicate n 0 := by simp [part]
theorem part_all (l : List Int) (n : Nat) (h : l.length = n) : part l n n = l := by simp [part, ← h]
theorem part_length (l : List Int) (n k : Nat) (h : l.length = n) (hk : k ≤ n) : (part l n k).length = n := by simp [part]; omega
theorem part_get (l : List Int) (n k i : Nat) (h : l.length = n) (hk : k ≤ n) : (part l n k)[i]? = if i < k then l[i]? else if i < n then some 0 else none := by
  have hl : (l.take k).length = k := by simp; omega
  unfold part
  by_cases h1 : i < k
  · rw [List.getElem?_append_left (by omega), List.getElem?_take, if_pos h1, if_pos h1]
  · rw [List.getElem?_append_right (by omega), hl, List.getElem?_replicate, if_neg h1]
    by_cases h2 : i < n
    · rw [if_pos h2, if_pos (by omega)]
    · rw [if_neg h2, if_neg (by omega)]
theorem part_set (l : List Int) (n k : Nat) (h : l.length = n) (hk : k < n) : (part l n k).set k (l.getD k 0) = part l n (k + 1) := by
  apply List.ext_getElem?
  intro i
  rw [List.getElem?_set, part_get l n k i h (by omega), part_get l n (k + 1) i h (by omega), part_length l n k h (by omega)]
  by_cases hi : k = i
  · subst hi
    rw [if_pos rfl, if_pos hk, if_pos (by omega), List.getD, List.getElem?_eq_getElem (by omega)]; rfl
  · rw [if_neg hi]
    by_cases h1 : i < k
    · rw [if_pos h1, if_pos (show i < k + 1 by omega)]
    · rw [if_neg h1, if_neg (show ¬ i < k + 1 by omega)]

theorem part_store (l : List Int) (n k : Nat) (h : l.length = n) (hk : k < n) : ((ints (part l n k)).set k (.int .i64 (l.getD k 0))).toArray = (ints (part l n (k + 1))).toArray := by
  rw [← part_set l n k h hk, ← ints_set]

theorem alloc_congr {w : World} {a b : Array Value} {t : TypeId} (h : a = b) : w.alloc (.cells a t) = w.alloc (.cells b t) := by rw [h]

set_option maxHeartbeats 400000 in
theorem clone_any (b off n cap : Nat) (l : List Int) (w : World) (hl : l.length = n) (h1 : 1 ≤ n) (hn : n ≤ 1048576) (hb : b < w.heap.size)
    (hc : ∀ i, i < n → w.cell? ⟨b, off + i, none⟩ = some (.int .i64 (l.getD i 0))) :
    Calls Try.prog 8 #[.slice (some ⟨b, off, none⟩) n cap] w fun e w' => e = .returned (.slice (some ⟨w.heap.size, 0, none⟩) n n) ∧ w' = w.alloc (.cells (ints l).toArray 2) := by
  have hmk := run_make24 n hn
  have hnil := fun w => Lib.run_eql_slice_nil (P := Try.prog) w 24 2 (some ⟨b, off, none⟩) n cap 0 0 Try.underlying24
  have HL : Hid (l.length = n) := hl
  have HC : Hid (∀ i, i < n → w.cell? ⟨b, off + i, none⟩ = some (.int .i64 (l.getD i 0))) := hc
  clear hl hc
  go_enter Try.func8, Try.ntmps8
  go_wp2
  rw [← part_zero l n]
  clear hmk hnil
  go_loopw [4] (fun i wr => ∃ k : Nat, k ≤ n ∧ i = .int .i64 k ∧ wr = w.alloc (.cells (ints (part l n k)).toArray 2)) (fun i _ => n - (intOf i).toNat)
  case atStart => exact ⟨0, Nat.zero_le _, rfl, rfl⟩
  case round =>
    obtain ⟨k, hk, rfl, rfl⟩ := hrel
    by_cases hlt : k < n
    · obtain ⟨x, hx⟩ : ∃ x, x = l.getD k 0 := ⟨_, rfl⟩
      have hck : w.cell? ⟨b, off + k, none⟩ = some (.int .i64 x) := by rw [hx]; exact HC.out k hlt
      obtain ⟨x0, hx0⟩ : ∃ x0, (ints (part l n k))[k]? = some (.int .i64 x0) := ⟨_, ints_get _ k (by rw [part_length l n k HL.out hk]; exact hlt)⟩
      have HS : Hid (((ints (part l n k)).set k (.int .i64 x)).toArray = (ints (part l n (k + 1))).toArray) := by rw [hx]; exact part_store l n k HL.out hlt
      clear HC hx
      go_wp2
      go_roundw
      case rel => exact ⟨k + 1, by omega, by go_num, alloc_congr HS.out⟩
      case measure => simp [intOf]; omega
    · have e : k = n := by omega
      subst e
      have HP : Hid (part l k k = l) := part_all l k HL.out
      clear HC
      go_wp2
      go_ret
      exact ⟨rfl, by rw [HP.out]⟩

set_option maxHeartbeats 400000 in
theorem times_any (b off n cap : Nat) (l : List Int) (w : World) (hl : l.length = n) (h1 : 1 ≤ n) (hn : n ≤ 1048576) (hb : b < w.heap.size)
    (hc : ∀ i, i < n → w.cell? ⟨b, off + i, none⟩ = some (.int .i64 (l.getD i 0))) :
    Calls Try.prog 27 #[.slice (some ⟨b, off, none⟩) n cap] w fun e w' => e = .returned (.slice (some ⟨w.heap.size, 0, none⟩) n n) ∧ w' = w.alloc (.cells (ints l).toArray 54) := by
  have hmk := run_make55 n hn
  have hnil := fun w => Lib.run_eql_slice_nil (P := Try.prog) w 24 2 (some ⟨b, off, none⟩) n cap 0 0 Try.underlying24
  have HL : Hid (l.length = n) := hl
  have HC : Hid (∀ i, i < n → w.cell? ⟨b, off + i, none⟩ = some (.int .i64 (l.getD i 0))) := hc
  clear hl hc
  go_enter Try.func27, Try.ntmps27
  go_wp2
  rw [← part_zero l n]
  clear hmk hnil
  go_loopw [12] (fun i wr => ∃ k : Nat, k ≤ n ∧ i = .int .i64 k ∧ wr = w.alloc (.cells (ints (part l n k)).toArray 54)) (fun i _ => n - (intOf i).toNat)
  case atStart => exact ⟨0, Nat.zero_le _, rfl, rfl⟩
  case round =>
    obtain ⟨k, hk, rfl, rfl⟩ := hrel
    by_cases hlt : k < n
    · obtain ⟨x, hx⟩ : ∃ x, x = l.getD k 0 := ⟨_, rfl⟩
      have hck : w.cell? ⟨b, off + k, none⟩ = some (.int .i64 x) := by rw [hx]; exact HC.out k hlt
      obtain ⟨x0, hx0⟩ : ∃ x0, (ints (part l n k))[k]? = some (.int .i64 x0) := ⟨_, ints_get _ k (by rw [part_length l n k HL.out hk]; exact hlt)⟩
      have HS : Hid (((ints (part l n k)).set k (.int .i64 x)).toArray = (ints (part l n (k + 1))).toArray) := by rw [hx]; exact part_store l n k HL.out hlt
      clear HC hx
      go_wp2
      go_roundw
      case rel => exact ⟨k + 1, by omega, by go_num, alloc_congr HS.out⟩
      case measure => simp [intOf]; omega
    · have e : k = n := by omega
      subst e
      have HP : Hid (part l k k = l) := part_all l k HL.out
      clear HC
      go_wp2
      go_ret
      exact ⟨rfl, by rw [HP.out]⟩

set_option maxHeartbeats 400000 in
theorem int64s_any (b off n cap : Nat) (l : List Int) (w : World) (hl : l.length = n) (h1 : 1 ≤ n) (hn : n ≤ 1048576) (hb : b < w.heap.size)
    (hc : ∀ i, i < n → w.cell? ⟨b, off + i, none⟩ = some (.int .i64 (l.getD i 0))) :
    Calls Try.prog 30 #[.slice (some ⟨b, off, none⟩) n cap] w fun e w' => e = .returned (.slice (some ⟨w.heap.size, 0, none⟩) n n) ∧ w' = w.alloc (.cells (ints l).toArray 2) := by
  have hmk := run_make24 n hn
  have hnil := fun w => Lib.run_eql_slice_nil (P := Try.prog) w 55 54 (some ⟨b, off, none⟩) n cap 0 0 Try.underlying55
  have HL : Hid (l.length = n) := hl
  have HC : Hid (∀ i, i < n → w.cell? ⟨b, off + i, none⟩ = some (.int .i64 (l.getD i 0))) := hc
  clear hl hc
  go_enter Try.func30, Try.ntmps30
  go_wp2
  rw [← part_zero l n]
  clear hmk hnil
  go_loopw [12] (fun i wr => ∃ k : Nat, k ≤ n ∧ i = .int .i64 k ∧ wr = w.alloc (.cells (ints (part l n k)).toArray 2)) (fun i _ => n - (intOf i).toNat)
  case atStart => exact ⟨0, Nat.zero_le _, rfl, rfl⟩
  case round =>
    obtain ⟨k, hk, rfl, rfl⟩ := hrel
    by_cases hlt : k < n
    · obtain ⟨x, hx⟩ : ∃ x, x = l.getD k 0 := ⟨_, rfl⟩
      have hck : w.cell? ⟨b, off + k, none⟩ = some (.int .i64 x) := by rw [hx]; exact HC.out k hlt
      obtain ⟨x0, hx0⟩ : ∃ x0, (ints (part l n k))[k]? = some (.int .i64 x0) := ⟨_, ints_get _ k (by rw [part_length l n k HL.out hk]; exact hlt)⟩
      have HS : Hid (((ints (part l n k)).set k (.int .i64 x)).toArray = (ints (part l n (k + 1))).toArray) := by rw [hx]; exact part_store l n k HL.out hlt
      clear HC hx
      go_wp2
      go_roundw
      case rel => exact ⟨k + 1, by omega, by go_num, alloc_congr HS.out⟩
      case measure => simp [intOf]; omega
    · have e : k = n := by omega
      subst e
      have HP : Hid (part l k k = l) := part_all l k HL.out
      clear HC
      go_wp2
      go_ret
      exact ⟨rfl, by rw [HP.out]⟩

end Go.Proofs.Qxb6612705a
