import Derived.Test.Qxb6612705aLawNet
namespace Go.Proofs.Qxb6612705a
open Go.RowKit
open Fl

theorem Kept.after {S : Nat → Prop} {w w4 w5 : World} (h : New w w4) (k : Kept S w4 w5) (hS : ∀ i, i < w.heap.size → ¬ S i) : New w w5 :=
  ⟨k.os.trans h.os, k.tape.trans h.tape, k.output.trans h.output, Nat.le_trans h.size k.size, fun i hi _ => (k.block i (Nat.lt_of_lt_of_le hi h.size) (hS i hi)).trans (h.block i hi (fun e => e))⟩

/-! ### Rows of bool -/
def bools (l : List Bool) : List Value := l.map Value.bool
theorem bools_get (l : List Bool) (i : Nat) (h : i < l.length) : (bools l)[i]? = some (.bool (l.getD i false)) := by
  unfold bools; rw [List.getElem?_map, List.getElem?_eq_getElem h]; simp [List.getD, List.getElem?_eq_getElem h]
theorem bools_set (l : List Bool) (i : Nat) (x : Bool) : (bools l).set i (.bool x) = bools (l.set i x) := by unfold bools; rw [List.map_set]

theorem made_bools (n : Nat) : madeCells (Value.bool false).cells (n * 1) = (bools (List.replicate n false)).toArray := by
  apply Array.ext
  · simp [madeCells, bools]
  · intro i h1 h2
    simp [madeCells, bools, Value.cells, Nat.mod_one]

theorem Try.info4b : (Try.prog.info? 4).map (fun i => (i.zero, i.size, i.bytes)) = some (some (.bool false), 1, 1) := by kernel_rfl
/-- 'make([]bool, n)'. -/
theorem run_make38 (n : Nat) (hn : n ≤ 1048576) (w : World) : (Instr.makeSlice 38 (.int .i64 (n : Int)) (.int .i64 (n : Int))).run Try.prog w = .ok (.slice (some ⟨w.heap.size, 0, none⟩) n n) (w.alloc (.cells (bools (List.replicate n false)).toArray 4)) := by
  obtain ⟨i, hi, hz0, hz1, hz2⟩ := info_parts Try.info4b
  have := run_make (P := Try.prog) w 38 4 i (.bool false) Try.underlying38 hi hz0 .i64 .i64 (n : Int) (n : Int) (by omega) (by omega) (by rw [hz2]; omega) (by omega)
  rw [hz1, Int.toNat_natCast, made_bools] at this
  exact this

/-- The seen ones behind k rounds. -/
def seenA (n k : Nat) : List Bool := (List.range n).map fun i => decide (i < k)
theorem seenA_length (n k : Nat) : (seenA n k).length = n := by simp [seenA]
theorem seenA_zero (n : Nat) : List.replicate n false = seenA n 0 := by
  simp [seenA, List.map_const']
theorem seenA_get (n k i : Nat) (hi : i < n) : (seenA n k).getD i false = decide (i < k) := by simp [seenA, List.getD, hi]
theorem seenA_set (n k : Nat) (hk : k < n) : (seenA n k).set k true = seenA n (k + 1) := by
  apply List.ext_getElem?
  intro i
  simp only [seenA, List.getElem?_set, List.getElem?_map, List.length_map, List.length_range]
  by_cases e : k = i
  · subst e
    rw [if_pos rfl, if_pos hk, List.getElem?_range hk, Option.map_some]; simp
  · rw [if_neg e]
    by_cases hi : i < n
    · simp only [List.getElem?_range hi, Option.map_some]
      congr 1
      by_cases h1 : i < k
      · simp [h1]; omega
      · simp [h1]; omega
    · rw [List.getElem?_eq_none (by simp; omega)]; rfl

end Go.Proofs.Qxb6612705a
