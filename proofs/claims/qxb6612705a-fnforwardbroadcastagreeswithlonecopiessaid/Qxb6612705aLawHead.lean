import Derived.Test.Qxb6612705aLawNet
namespace Go.Proofs.Qxb6612705a
open Go.RowKit
open Fl

def fmCells (m : FM) : List Value := [.int .u8 m.prim, .int .u8 m.kind, .int .i64 m.origin, .int .i64 m.dest, .int .i64 m.value, .int .i64 m.writer, .int .i64 m.counter, .int .i64 m.oord]

set_option maxRecDepth 100000 in
set_option maxHeartbeats 1600000 in
theorem law_head (now seq rel : Int) (tr : Nat) (a0 a1 : Option Addr) (l0 c0 l1 c1 : Nat) (m : FM) (w : World)
    (hh : (513 : Int) < l0 ∨ (512 : Int) < l1 ∨ (l0 : Int) < 2 ∨ ¬ (l1 : Int) = l0 - 1 ∨ now < 0 ∨ 4611686018427387904 < now ∨ (FloatKind.f64.format.order tr 0 == some .gt || FloatKind.f64.format.order tr 0 == some .eq) = false ∨ (FloatKind.f64.format.order tr 4607182418800017408 == some .lt || FloatKind.f64.format.order tr 4607182418800017408 == some .eq) = false ∨ 1 < m.prim) :
    Calls Try.prog 3 #[.int .i64 now, .int .u64 seq, .int .i64 rel, .float .f64 tr, .slice a0 l0 c0, .slice a1 l1 c1, fmAgg m] w fun e w' => e = .returned (.bool true) ∧ Below w.heap.size w w' := by
  have HF : Hid (fmAgg m = .agg #[.int .u8 m.prim, .int .u8 m.kind, .int .i64 m.origin, .int .i64 m.dest, .int .i64 m.value, .int .i64 m.writer, .int .i64 m.counter, .int .i64 m.oord]) := rfl
  have hX := Blk.new w (fmCells m) 26
  have hK0 : New w (w.alloc (.cells (fmCells m).toArray 26)) := (Kept.refl _ w).alloc _
  unfold fmCells at hX hK0
  rw [HF.out]
  have HH := hide2 hh
  clear hh
  go_enter Try.func3, Try.ntmps3
  go_wp2_with fail
  generalize w.alloc _ = W at *
  refine (bytes_any now seq rel tr a0 a1 l0 c0 l1 c1 m _).mono ?_
  rintro e w1 ⟨he, hnew⟩
  have hX1 := hX.kept hnew (fun e => e)
  have HB : Hid (Below w.heap.size w w1) := (hK0.trans hnew).below (Nat.le_refl _) (fun _ _ e => e)
  clear hX hK0 hnew HF
  have hcX := hX1.cell
  have hXl := hX1.lt
  clear hX1
  rcases he with rfl | rfl
  · clear HH
    go_wp2_with fail
    go_ret
    exact ⟨rfl, HB.out⟩
  by_cases h1 : (513 : Int) < l0
  · clear HH
    go_wp2_with fail
    go_ret
    exact ⟨rfl, HB.out⟩
  by_cases h2 : (512 : Int) < l1
  · clear HH
    go_wp2_with fail
    go_ret
    exact ⟨rfl, HB.out⟩
  by_cases h3 : (l0 : Int) < 2
  · clear HH
    go_wp2_with fail
    go_ret
    exact ⟨rfl, HB.out⟩
  obtain ⟨n, rfl⟩ : ∃ n, l0 = n + 1 := ⟨l0 - 1, by omega⟩
  have ew : IntKind.i64.wrap (((n + 1 : Nat) : Int) - 1) = (n : Int) := by rw [IntKind.wrap_i64]; omega
  have ew2 : wrap64 (((n + 1 : Nat) : Int) - 1) = (n : Int) := by unfold wrap64; omega
  have ew3 : (((n + 1 : Nat) : Int) - 1) = (n : Int) := by omega
  by_cases h4 : ¬ (l1 : Int) = (n : Int)
  · clear HH
    have h4n : ¬ l1 = n := by omega
    have h4b : ((l1 : Int) != (n : Int)) = true := bne_iff_ne.2 h4
    go_wp2_with fail
    go_ret
    exact ⟨rfl, HB.out⟩
  have h4' : l1 = n := by omega
  clear h4
  subst h4'
  by_cases h5 : now < 0
  · clear HH
    go_wp2_with fail
    go_ret
    exact ⟨rfl, HB.out⟩
  by_cases h6 : 4611686018427387904 < now
  · clear HH
    go_wp2_with fail
    go_ret
    exact ⟨rfl, HB.out⟩
  by_cases h7 : (FloatKind.f64.format.order tr 0 == some .gt || FloatKind.f64.format.order tr 0 == some .eq) = false
  · clear HH
    go_wp2_with fail
    go_ret
    exact ⟨rfl, HB.out⟩
  have h7' : (FloatKind.f64.format.order tr 0 == some .gt || FloatKind.f64.format.order tr 0 == some .eq) = true := eq_true_of_ne_false h7
  by_cases h8 : (FloatKind.f64.format.order tr 4607182418800017408 == some .lt || FloatKind.f64.format.order tr 4607182418800017408 == some .eq) = false
  · clear HH
    go_wp2_with fail
    go_ret
    exact ⟨rfl, HB.out⟩
  have h8' : (FloatKind.f64.format.order tr 4607182418800017408 == some .lt || FloatKind.f64.format.order tr 4607182418800017408 == some .eq) = true := eq_true_of_ne_false h8
  have h9 : 1 < m.prim := by
    rcases HH.out with h | h | h | h | h | h | h | h | h
    · exact absurd h h1
    · exact absurd h h2
    · exact absurd h h3
    · exact absurd (by omega) h
    · exact absurd h h5
    · exact absurd h h6
    · exact absurd h h7
    · exact absurd h h8
    · exact h
  clear HH h7 h8
  go_wp2_with fail
  go_ret
  exact ⟨rfl, HB.out⟩

end Go.Proofs.Qxb6612705a
