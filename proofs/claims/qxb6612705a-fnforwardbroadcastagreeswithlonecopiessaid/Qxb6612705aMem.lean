import Derived.Test.Qxb6612705aRows
import Derived.WalkKit
import Derived.WalkSpells
import Derived.WalkLawsBesides
import Derived.Deep.MidRow
import Derived.Deep.Draws
namespace Go.Proofs.Qxb6612705a
open Go.RowKit

theorem hide2 {p : Prop} (h : p) : Hid p := h

/-! ### What a call leaves as it was: all blocks but those of S, and what is new -/
structure Kept (S : Nat → Prop) (w w' : World) : Prop where
  os : w'.os = w.os
  tape : w'.tape = w.tape
  output : w'.output = w.output
  size : w.heap.size ≤ w'.heap.size
  block : ∀ k, k < w.heap.size → ¬ S k → w'.heap[k]? = w.heap[k]?

theorem Kept.refl (S : Nat → Prop) (w : World) : Kept S w w := ⟨rfl, rfl, rfl, Nat.le_refl _, fun _ _ _ => rfl⟩
theorem Kept.trans {S : Nat → Prop} {a b c : World} (h : Kept S a b) (k : Kept S b c) : Kept S a c :=
  ⟨k.os.trans h.os, k.tape.trans h.tape, k.output.trans h.output, Nat.le_trans h.size k.size, fun i hi hs => (k.block i (Nat.lt_of_lt_of_le hi h.size) hs).trans (h.block i hi hs)⟩
theorem Kept.mono {S T : Nat → Prop} {w w' : World} (h : Kept S w w') (hST : ∀ k, k < w.heap.size → S k → T k) : Kept T w w' :=
  ⟨h.os, h.tape, h.output, h.size, fun k hk hn => h.block k hk (fun hs => hn (hST k hk hs))⟩
theorem Kept.alloc {S : Nat → Prop} {a w : World} (h : Kept S a w) (o : Obj) : Kept S a (w.alloc o) :=
  h.trans ⟨rfl, rfl, rfl, by simp, fun k hk _ => heap_alloc_old w o hk⟩
theorem Kept.drewN {S : Nat → Prop} {a w : World} (h : Kept S a w) (n : Nat) : Kept S a (w.drewN n) := ⟨h.os, h.tape, h.output, h.size, h.block⟩
theorem Kept.drew {S : Nat → Prop} {a w : World} (h : Kept S a w) : Kept S a w.drew := ⟨h.os, h.tape, h.output, h.size, h.block⟩
/-- A store into a block of S, or into one that is new. -/
theorem Kept.setCell {S : Nat → Prop} {a w : World} (h : Kept S a w) {p : Addr} (hp : S p.block ∨ a.heap.size ≤ p.block) (v : Value) : Kept S a (w.setCell p v) :=
  ⟨h.os, h.tape, h.output, by simpa [World.setCell] using h.size, fun k hk hs => by
    rw [Below.heap_setCell _ _ _ _ (fun e => by subst e; rcases hp with hp | hp <;> first | exact hs hp | omega)]
    exact h.block k hk hs⟩
theorem Kept.setCells {S : Nat → Prop} {a : World} {g : Nat} (hp : S g ∨ a.heap.size ≤ g) : ∀ (vs : List Value) (o : Nat) (w : World), Kept S a w → Kept S a (w.setCells g o vs)
  | [], _, _, h => h
  | v :: r, o, w, h => by rw [World.setCells]; exact Kept.setCells hp r (o + 1) _ (h.setCell hp v)
theorem Kept.grown {S : Nat → Prop} {a w w' : World} {row : Option Nat} (h : Kept S a w) (hg : w.grownBy w' row) (hr : ∀ k, row = some k → S k ∨ a.heap.size ≤ k) : Kept S a w' :=
  ⟨hg.os.trans h.os, hg.tape.trans h.tape, hg.output.trans h.output, Nat.le_trans h.size hg.size, fun k hk hs => by
    rw [hg.block k (Nat.lt_of_lt_of_le hk h.size) (fun e => by rcases hr k e.symm with g | g <;> first | exact hs g | omega)]
    exact h.block k hk hs⟩
theorem Kept.below {S : Nat → Prop} {w w' : World} (h : Kept S w w') {B : Nat} (hB : B ≤ w.heap.size) (hS : ∀ k, k < B → ¬ S k) : Below B w w' :=
  ⟨h.os, h.tape, h.output, h.size, fun k hk => h.block k (Nat.lt_of_lt_of_le hk hB) (hS k hk)⟩
theorem Below.kept {B : Nat} {w w' : World} (h : Below B w w') : Kept (fun k => B ≤ k) w w' := ⟨h.os, h.tape, h.output, h.size, fun k _ hn => h.block k (by omega)⟩

/-! ### A block that is known whole -/
def Blk (w : World) (g : Nat) (cs : List Value) (t : TypeId) : Prop := w.heap[g]? = some (.cells cs.toArray t (0, 0))

section
variable {w : World} {g : Nat} {cs : List Value} {t : TypeId}
theorem Blk.lt (h : Blk w g cs t) : g < w.heap.size := (Array.getElem?_eq_some_iff.1 h).1
theorem Blk.cell (h : Blk w g cs t) (i : Nat) : w.cell? ⟨g, i, none⟩ = cs[i]? := by rw [cell_of_row w g i _ t _ h]; simp
theorem Blk.frozen (h : Blk w g cs t) (i : Nat) : w.frozen? ⟨g, i, none⟩ = false := frozen_of_row w g i _ t h
theorem Blk.new (w : World) (cs : List Value) (t : TypeId) : Blk (w.alloc (.cells cs.toArray t)) w.heap.size cs t := heap_alloc_new w _
theorem Blk.alloc (h : Blk w g cs t) (o : Obj) : Blk (w.alloc o) g cs t := by unfold Blk; rw [heap_alloc_old w o h.lt]; exact h
theorem Blk.drewN (h : Blk w g cs t) (n : Nat) : Blk (w.drewN n) g cs t := h
theorem Blk.drew (h : Blk w g cs t) : Blk w.drew g cs t := h
theorem Blk.set (h : Blk w g cs t) (i : Nat) (v : Value) : Blk (w.setCell ⟨g, i, none⟩ v) g (cs.set i v) t := by
  unfold Blk at *
  simp only [World.setCell, Array.getElem?_modify, if_true, h, Option.map_some]
  simp
theorem Blk.setOther (h : Blk w g cs t) {p : Addr} (hne : p.block ≠ g) (v : Value) : Blk (w.setCell p v) g cs t := by
  unfold Blk; rw [Below.heap_setCell _ _ _ _ (Ne.symm hne)]; exact h
theorem Blk.kept {S : Nat → Prop} {w' : World} (h : Blk w g cs t) (k : Kept S w w') (hs : ¬ S g) : Blk w' g cs t := by unfold Blk; rw [k.block g h.lt hs]; exact h
end

/-- A list with some of its members written anew, from o on. -/
def setFrom : List Value → Nat → List Value → List Value
  | cs, _, [] => cs
  | cs, o, v :: r => setFrom (cs.set o v) (o + 1) r

theorem Blk.setCells {g : Nat} {t : TypeId} : ∀ (vs : List Value) (o : Nat) (w : World) (cs : List Value), Blk w g cs t → Blk (w.setCells g o vs) g (setFrom cs o vs) t
  | [], _, _, _, h => h
  | v :: r, o, w, cs, h => by rw [World.setCells, setFrom]; exact Blk.setCells r (o + 1) _ _ (h.set o v)
theorem Blk.setCellsOther {g g' : Nat} {cs : List Value} {t : TypeId} (hne : g' ≠ g) : ∀ (vs : List Value) (o : Nat) (w : World), Blk w g cs t → Blk (w.setCells g' o vs) g cs t
  | [], _, _, h => h
  | v :: r, o, w, h => by rw [World.setCells]; exact Blk.setCellsOther hne r (o + 1) _ (h.setOther hne v)

theorem setFrom_length : ∀ (vs : List Value) (cs : List Value) (o : Nat), (setFrom cs o vs).length = cs.length
  | [], _, _ => rfl
  | v :: r, cs, o => by rw [setFrom, setFrom_length r]; simp

theorem setFrom_get : ∀ (vs : List Value) (cs : List Value) (o i : Nat), o + vs.length ≤ cs.length → (setFrom cs o vs)[i]? = if o ≤ i ∧ i < o + vs.length then vs[i - o]? else cs[i]?
  | [], cs, o, i, _ => by simp [setFrom]; intro h1 h2; omega
  | v :: r, cs, o, i, h => by
    simp only [List.length_cons] at h
    rw [setFrom, setFrom_get r _ _ _ (by simp; omega), List.getElem?_set]
    by_cases h1 : i = o
    · subst h1
      rw [if_neg (by omega), if_pos rfl, if_pos (by omega), if_pos (by simp)]
      simp
    · by_cases h2 : o + 1 ≤ i ∧ i < o + 1 + r.length
      · rw [if_pos h2, if_pos (by simp; omega)]
        obtain ⟨j, hj⟩ : ∃ j, i - o = j + 1 := ⟨i - o - 1, by omega⟩
        rw [hj, show i - (o + 1) = j from by omega, List.getElem?_cons_succ]
      · rw [if_neg h2, if_neg (by omega), if_neg (by simp; omega)]

/-! ### Rows of int64 -/
def ints (l : List Int) : List Value := l.map (Value.int .i64)
theorem ints_get (l : List Int) (i : Nat) (h : i < l.length) : (ints l)[i]? = some (.int .i64 (l.getD i 0)) := by
  unfold ints; rw [List.getElem?_map, List.getElem?_eq_getElem h]; simp [List.getD, List.getElem?_eq_getElem h]
theorem ints_set (l : List Int) (i : Nat) (x : Int) : (ints l).set i (.int .i64 x) = ints (l.set i x) := by unfold ints; rw [List.map_set]
theorem ints_length (l : List Int) : (ints l).length = l.length := by simp [ints]

theorem made_ints (n : Nat) : madeCells (Value.int .i64 0).cells (n * 1) = (ints (List.replicate n 0)).toArray := by
  apply Array.ext
  · simp [madeCells, ints]
  · intro i h1 h2
    simp [madeCells, ints, Value.cells, Nat.mod_one]

theorem Try.info2 : (Try.prog.info? 2).map (fun i => (i.zero, i.size, i.bytes)) = some (some (.int .i64 0), 1, 8) := by kernel_rfl
theorem Try.info54 : (Try.prog.info? 54).map (fun i => (i.zero, i.size, i.bytes)) = some (some (.int .i64 0), 1, 8) := by kernel_rfl

/-- 'make([]int64, n)'. -/
theorem run_make24 (n : Nat) (hn : n ≤ 1048576) (w : World) : (Instr.makeSlice 24 (.int .i64 (n : Int)) (.int .i64 (n : Int))).run Try.prog w = .ok (.slice (some ⟨w.heap.size, 0, none⟩) n n) (w.alloc (.cells (ints (List.replicate n 0)).toArray 2)) := by
  obtain ⟨i, hi, hz0, hz1, hz2⟩ := info_parts Try.info2
  have := run_make (P := Try.prog) w 24 2 i (.int .i64 0) Try.underlying24 hi hz0 .i64 .i64 (n : Int) (n : Int) (by omega) (by omega) (by rw [hz2]; omega) (by omega)
  rw [hz1, Int.toNat_natCast, made_ints] at this
  exact this
/-- 'make([]Time, n)'. -/
theorem run_make55 (n : Nat) (hn : n ≤ 1048576) (w : World) : (Instr.makeSlice 55 (.int .i64 (n : Int)) (.int .i64 (n : Int))).run Try.prog w = .ok (.slice (some ⟨w.heap.size, 0, none⟩) n n) (w.alloc (.cells (ints (List.replicate n 0)).toArray 54)) := by
  obtain ⟨i, hi, hz0, hz1, hz2⟩ := info_parts Try.info54
  have := run_make (P := Try.prog) w 55 54 i (.int .i64 0) Try.underlying55 hi hz0 .i64 .i64 (n : Int) (n : Int) (by omega) (by omega) (by rw [hz2]; omega) (by omega)
  rw [hz1, Int.toNat_natCast, made_ints] at this
  exact this

end Go.Proofs.Qxb6612705a
