import Derived.Test.Qxb6612705aProcAt
import Derived.LoopTactic
namespace Go.Proofs.Qxb6612705a
open Go.RowKit

theorem sdiv_bd (n : Int) (hn : 1 ≤ n) : 0 ≤ 9223372036854775807 / n ∧ 9223372036854775807 / n ≤ 9223372036854775807 :=
  ⟨Int.ediv_nonneg (by omega) (by omega), Int.ediv_le_self _ (by omega)⟩

theorem sbounds (n x : Int) (hn : 1 ≤ n) (h0 : 0 ≤ x) (h1 : x ≤ 9223372036854775807 / n - 1) : 0 ≤ x * n ∧ x * n + n ≤ 9223372036854775807 ∧ x < 9223372036854775807 := by
  have hq : 9223372036854775807 / n * n ≤ 9223372036854775807 := Int.ediv_mul_le _ (by omega)
  have hm : (x + 1) * n ≤ 9223372036854775807 / n * n := Int.mul_le_mul_of_nonneg_right (by omega) (by omega)
  have hd : 9223372036854775807 / n ≤ 9223372036854775807 := Int.ediv_le_self _ (by omega)
  have he : (x + 1) * n = x * n + n := by rw [Int.add_mul, Int.one_mul]
  refine ⟨Int.mul_nonneg h0 (by omega), by omega, by omega⟩

set_option maxHeartbeats 400000 in
theorem script_out (a0 a1 a2 a3 : Int) (w : World) (b0 : a0 ≤ 9223372036854775807) (hh : a0 < 1 ∨ a1 < 0 ∨ a0 ≤ a1 ∨ a3 < 0 ∨ 4096 < a3 ∨ a2 < 0 ∨ 9223372036854775807 / a0 - a3 - 1 < a2) :
    Calls Try.prog 6 #[.int .i64 a0, .int .i64 a1, .int .i64 a2, .int .i64 a3] w fun e w' => e = .returned (.bool true) ∧ Grown w w' := by
  by_cases h1 : a0 < 1
  · clear hh
    go_enter Try.func6, Try.ntmps6
    go_wp2
    go_ret
    exact ⟨rfl, Grown.refl _⟩
  have h1' : 1 ≤ a0 := by omega
  obtain ⟨d1, d2⟩ := sdiv_bd a0 h1'
  by_cases h2 : a1 < 0
  · clear hh
    go_enter Try.func6, Try.ntmps6
    go_wp2
    go_ret
    exact ⟨rfl, Grown.refl _⟩
  by_cases h3 : a0 ≤ a1
  · clear hh
    go_enter Try.func6, Try.ntmps6
    go_wp2
    go_ret
    exact ⟨rfl, Grown.refl _⟩
  by_cases h4 : a3 < 0
  · clear hh
    go_enter Try.func6, Try.ntmps6
    go_wp2
    go_ret
    exact ⟨rfl, Grown.refl _⟩
  by_cases h5 : 4096 < a3
  · clear hh
    go_enter Try.func6, Try.ntmps6
    go_wp2
    go_ret
    exact ⟨rfl, Grown.refl _⟩
  by_cases h6 : a2 < 0
  · clear hh
    go_enter Try.func6, Try.ntmps6
    go_wp2
    go_ret
    exact ⟨rfl, Grown.refl _⟩
  have h7 : 9223372036854775807 / a0 - a3 - 1 < a2 := by omega
  clear hh
  go_enter Try.func6, Try.ntmps6
  go_wp2
  go_ret
  exact ⟨rfl, Grown.refl _⟩

/-- The value before the j-th. -/
def prevOf (n id w : Int) : Nat → Int
  | 0 => 0
  | j + 1 => (w + j) * n + id + 1

set_option maxHeartbeats 1000000 in
theorem script_main (a0 a1 a2 a3 : Int) (w : World) (h1 : 1 ≤ a0) (b0 : a0 ≤ 9223372036854775807) (h2 : 0 ≤ a1) (h3 : a1 < a0) (h4 : 0 ≤ a3) (h5 : a3 ≤ 4096) (h6 : 0 ≤ a2) (h7 : a2 ≤ 9223372036854775807 / a0 - a3 - 1) :
    Calls Try.prog 6 #[.int .i64 a0, .int .i64 a1, .int .i64 a2, .int .i64 a3] w fun e w' => e = .returned (.bool true) ∧ Grown w w' := by
  obtain ⟨d1, d2⟩ := sdiv_bd a0 h1
  go_enter Try.func6, Try.ntmps6
  go_wp2_with fail
  refine (newProcess_any _ _ _).mono ?_
  rintro e w' ⟨rfl, rfl⟩
  go_wp2_with fail
  have A1 := ProcAt.new w a1 a2
  have G1 : Grown w (w.alloc (procObj a1 a2)) := (Grown.refl w).alloc _ _
  generalize hw1 : w.alloc (procObj a1 a2) = w1 at *
  clear hw1
  go_loopw [11, 12] (fun p i wr => ∃ j : Nat, (j : Int) ≤ a3 ∧ i = .int .i64 j ∧ p = .int .i64 (prevOf a0 a1 a2 j) ∧ ProcAt wr w.heap.size a1 (a2 + j) ∧ Grown w wr) (fun _ i _ => a3.toNat - (intOf i).toNat)
  case atStart => exact ⟨0, by omega, rfl, rfl, by simpa using A1, G1⟩
  case round =>
    obtain ⟨j, hj, rfl, rfl, hP, hG⟩ := hrel
    by_cases hlt : (j : Int) < a3
    · obtain ⟨p1, p2, p3⟩ := sbounds a0 (a2 + j) h1 (by omega) (by omega)
      go_wp2_with fail
      refine (ZZnextValue_any w.heap.size a1 (a2 + j) a0 wr hP.c3 hP.c0 hP.f3 (by omega) p3 p1 h2 (by omega)).mono ?_
      rintro e w' ⟨rfl, nq, rfl⟩
      have hP2 := hP.set (a2 + j + 1) nq
      have hG2 := grown_drewN (hG.setCell (a := ⟨w.heap.size, 3, none⟩) (Nat.le_refl _) (.int .i64 (a2 + j + 1))) nq
      generalize hw2 : (wr.setCell ⟨w.heap.size, 3, none⟩ (.int .i64 (a2 + j + 1))).drewN nq = w2 at *
      clear hw2
      have hP3 : ProcAt w2 w.heap.size a1 (a2 + (j + 1 : Nat)) := by
        rw [show a2 + ((j + 1 : Nat) : Int) = a2 + j + 1 from by omega]; exact hP2
      by_cases hz : j = 0
      · subst hz
        have hX : (a2 + (0 : Nat)) * a0 + a1 + 1 = a2 * a0 + a1 + 1 := by simp
        rw [hX]
        have p1' : 0 ≤ a2 * a0 := by simpa using p1
        have p2' : a2 * a0 + a0 ≤ 9223372036854775807 := by simpa using p2
        have hV : prevOf a0 a1 a2 (0 + 1) = a2 * a0 + a1 + 1 := by simp [prevOf]
        have HV := hide hV
        clear hX hV p1 p2
        generalize hXv : a2 * a0 + a1 + 1 = X at *
        have HX := hide hXv
        clear hXv
        go_wp2_with fail
        refine (inWindow_any X a1 a2 a0 _ (unhide HX).symm h1 h2 h3 h6 (by omega) p1' p2').mono ?_
        rintro e w' ⟨rfl, rfl⟩
        go_wp2_with fail
        go_roundw
        case rel => exact ⟨1, by omega, by go_num, by rw [show (1 : Nat) = 0 + 1 from rfl, unhide HV], hP3, hG2⟩
        case measure => simp [intOf]; omega
      · obtain ⟨i, rfl⟩ : ∃ i, j = i + 1 := ⟨j - 1, by omega⟩
        have hpv : prevOf a0 a1 a2 (i + 1) = (a2 + i) * a0 + a1 + 1 := rfl
        have hnx : (a2 + (i + 1 : Nat)) * a0 + a1 + 1 = (a2 + i) * a0 + a1 + 1 + a0 := by
          rw [show a2 + ((i + 1 : Nat) : Int) = (a2 + i) + 1 from by omega, Int.add_mul, Int.one_mul]; omega
        have hV : prevOf a0 a1 a2 (i + 1 + 1) = (a2 + (i + 1 : Nat)) * a0 + a1 + 1 := rfl
        have b1 : (a2 + (i + 1 : Nat)) * a0 + a1 + 1 ≤ 9223372036854775807 := by omega
        have b2 : 1 ≤ (a2 + (i + 1 : Nat)) * a0 + a1 + 1 := by omega
        have b3 : 0 ≤ (a2 + i) * a0 + a1 + 1 := by have := Int.mul_nonneg (show 0 ≤ a2 + i by omega) (show 0 ≤ a0 by omega); omega
        rw [hpv]
        generalize hXv : (a2 + (i + 1 : Nat)) * a0 + a1 + 1 = X at *
        generalize hYv : (a2 + i) * a0 + a1 + 1 = Y at *
        have hd : (X - Y != a0) = false := by rw [hnx]; simp; omega
        have b4 : Y ≤ X := by omega
        have hz' : ((i : Int) + 1 == 0) = false := beq_eq_false_iff_ne.2 (by omega)
        have HV := hide hV
        clear hpv hV hXv hYv hnx p1 p2
        go_wp2_with fail
        go_roundw
        case rel => exact ⟨i + 1 + 1, by omega, by go_num, by rw [unhide HV], hP3, hG2⟩
        case measure => simp [intOf]; omega
    · have e : (j : Int) = a3 := by omega
      have hc3 : wr.cell? ⟨w.heap.size, 3, none⟩ = some (.int .i64 (a2 + a3)) := by rw [← e]; exact hP.c3
      have hc0 := hP.c0
      clear e
      go_wp2_with fail
      refine (wrote_any w.heap.size (a2 + a3) _ hc3).mono ?_
      rintro e w9 ⟨rfl, rfl⟩
      go_wp2_with fail
      refine (procID_any w.heap.size a1 _ hc0).mono ?_
      rintro e w9 ⟨rfl, rfl⟩
      go_wp2_with fail
      go_ret
      exact ⟨rfl, hG⟩

theorem script_all (a0 a1 a2 a3 : Int) (b0 : a0 ≤ 9223372036854775807) (w : World) :
    Calls Try.prog 6 #[.int .i64 a0, .int .i64 a1, .int .i64 a2, .int .i64 a3] w fun e w' => e = .returned (.bool true) ∧ Grown w w' := by
  by_cases h : a0 < 1 ∨ a1 < 0 ∨ a0 ≤ a1 ∨ a3 < 0 ∨ 4096 < a3 ∨ a2 < 0 ∨ 9223372036854775807 / a0 - a3 - 1 < a2
  · exact script_out a0 a1 a2 a3 w b0 h
  · exact script_main a0 a1 a2 a3 w (by omega) b0 (by omega) (by omega) (by omega) (by omega) (by omega) (by omega)

end Go.Proofs.Qxb6612705a
