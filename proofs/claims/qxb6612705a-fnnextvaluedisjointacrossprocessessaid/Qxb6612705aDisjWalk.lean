import Derived.Test.Qxb6612705aProcAt
namespace Go.Proofs.Qxb6612705a
open Go.RowKit

theorem bounds2 (n w : Int) (hn : 1 ≤ n) (h0 : 0 ≤ w) (h1 : w ≤ 9223372036854775807 / n - 2) : 0 ≤ w * n ∧ w * n + n ≤ 9223372036854775807 ∧ w < 9223372036854775807 := by
  have hq : 9223372036854775807 / n * n ≤ 9223372036854775807 := Int.ediv_mul_le _ (by omega)
  have hm : (w + 1) * n ≤ 9223372036854775807 / n * n := Int.mul_le_mul_of_nonneg_right (by omega) (by omega)
  have hd : 9223372036854775807 / n ≤ 9223372036854775807 := Int.ediv_le_self _ (by omega)
  have he : (w + 1) * n = w * n + n := by rw [Int.add_mul, Int.one_mul]
  refine ⟨Int.mul_nonneg h0 (by omega), by omega, by omega⟩

theorem div_bd (n : Int) (hn : 1 ≤ n) : 0 ≤ 9223372036854775807 / n ∧ 9223372036854775807 / n ≤ 9223372036854775807 :=
  ⟨Int.ediv_nonneg (by omega) (by omega), Int.ediv_le_self _ (by omega)⟩

set_option maxHeartbeats 400000 in
theorem disj_out (a0 a1 a2 a3 a4 : Int) (w : World) (hn : 1 ≤ a0) (hh : a1 < 0 ∨ a0 ≤ a1 ∨ a2 < 0 ∨ a0 ≤ a2) :
    Calls Try.prog 5 #[.int .i64 a0, .int .i64 a1, .int .i64 a2, .int .i64 a3, .int .i64 a4] w fun e w' => e = .returned (.bool true) ∧ Grown w w' := by
  by_cases h1 : a1 < 0
  · go_enter Try.func5, Try.ntmps5
    go_wp2
    go_ret
    exact ⟨rfl, Grown.refl _⟩
  by_cases h2 : a0 ≤ a1
  · go_enter Try.func5, Try.ntmps5
    go_wp2
    go_ret
    exact ⟨rfl, Grown.refl _⟩
  by_cases h3 : a2 < 0
  · go_enter Try.func5, Try.ntmps5
    go_wp2
    go_ret
    exact ⟨rfl, Grown.refl _⟩
  have h4 : a0 ≤ a2 := by omega
  clear hh
  go_enter Try.func5, Try.ntmps5
  go_wp2
  go_ret
  exact ⟨rfl, Grown.refl _⟩

set_option maxHeartbeats 400000 in
theorem disj_lim (a0 a1 a2 a3 a4 : Int) (w : World) (hn : 1 ≤ a0) (hn' : a0 ≤ 9223372036854775807) (h1 : 0 ≤ a1) (h2 : a1 < a0) (h3 : 0 ≤ a2) (h4 : a2 < a0)
   (hh : a3 < 0 ∨ 9223372036854775807 / a0 - 2 < a3 ∨ a4 < 0 ∨ 9223372036854775807 / a0 - 2 < a4) :
    Calls Try.prog 5 #[.int .i64 a0, .int .i64 a1, .int .i64 a2, .int .i64 a3, .int .i64 a4] w fun e w' => e = .returned (.bool true) ∧ Grown w w' := by
  have hd := div_bd a0 hn
  obtain ⟨hd0, hd1⟩ := hd
  by_cases k1 : a3 < 0
  · clear hh
    go_enter Try.func5, Try.ntmps5
    go_wp2
    go_ret
    exact ⟨rfl, Grown.refl _⟩
  by_cases k2 : 9223372036854775807 / a0 - 2 < a3
  · clear hh
    go_enter Try.func5, Try.ntmps5
    go_wp2
    go_ret
    exact ⟨rfl, Grown.refl _⟩
  by_cases k3 : a4 < 0
  · clear hh
    go_enter Try.func5, Try.ntmps5
    go_wp2
    go_ret
    exact ⟨rfl, Grown.refl _⟩
  have k4 : 9223372036854775807 / a0 - 2 < a4 := by omega
  clear hh
  go_enter Try.func5, Try.ntmps5
  go_wp2
  go_ret
  exact ⟨rfl, Grown.refl _⟩

theorem same_iff (n a b x y : Int) (h1 : 0 ≤ a) (h2 : a < n) (h3 : 0 ≤ b) (h4 : b < n) : (x * n + a + 1 = y * n + b + 1) ↔ (a = b ∧ x = y) := by
  constructor
  · intro h
    have e : x * n + a = y * n + b := by omega
    have ea := emod_win x n a h1 h2
    have eb := emod_win y n b h3 h4
    have hab : a = b := by rw [← ea, e, eb]
    have hm : x * n = y * n := by omega
    exact ⟨hab, Int.eq_of_mul_eq_mul_right (by omega) hm⟩
  · rintro ⟨rfl, rfl⟩; rfl

set_option maxHeartbeats 400000 in
theorem disj_main (a0 a1 a2 a3 a4 : Int) (w : World) (hn : 1 ≤ a0) (hn' : a0 ≤ 9223372036854775807) (h1 : 0 ≤ a1) (h2 : a1 < a0) (h3 : 0 ≤ a2) (h4 : a2 < a0)
   (k1 : 0 ≤ a3) (k2 : a3 ≤ 9223372036854775807 / a0 - 2) (k3 : 0 ≤ a4) (k4 : a4 ≤ 9223372036854775807 / a0 - 2) :
    Calls Try.prog 5 #[.int .i64 a0, .int .i64 a1, .int .i64 a2, .int .i64 a3, .int .i64 a4] w fun e w' => e = .returned (.bool true) ∧ Grown w w' := by
  obtain ⟨hd0, hd1⟩ := div_bd a0 hn
  obtain ⟨p1, p2, p3⟩ := bounds2 a0 a3 hn k1 k2
  obtain ⟨q1, q2, q3⟩ := bounds2 a0 a4 hn k3 k4
  have HE : Hid ((a3 * a0 + a1 + 1 = a4 * a0 + a2 + 1) ↔ (a1 = a2 ∧ a3 = a4)) := same_iff a0 a1 a2 a3 a4 h1 h2 h3 h4
  go_enter Try.func5, Try.ntmps5
  go_wp2_with fail
  refine (newProcess_any _ _ _).mono ?_
  rintro e w' ⟨rfl, rfl⟩
  go_wp2_with fail
  refine (newProcess_any _ _ _).mono ?_
  rintro e w' ⟨rfl, rfl⟩
  go_wp2_with fail
  have A1 := (ProcAt.new w a1 a3).later (procObj a2 a4)
  have B1 := ProcAt.new (w.alloc (procObj a1 a3)) a2 a4
  have G1 : Grown w ((w.alloc (procObj a1 a3)).alloc (procObj a2 a4)) := ((Grown.refl w).alloc _ _).alloc _ _
  rw [World.size_alloc] at B1
  generalize hw1 : (w.alloc (procObj a1 a3)).alloc (procObj a2 a4) = w1 at *
  clear hw1
  refine (ZZnextValue_any w.heap.size a1 a3 a0 w1 A1.c3 A1.c0 A1.f3 k1 p3 p1 h1 (by omega)).mono ?_
  rintro e w' ⟨rfl, nq, rfl⟩
  have A2 := A1.set (a3 + 1) nq
  have B2 := B1.other (c := w.heap.size) (.int .i64 (a3 + 1)) nq (by omega)
  have G2 := grown_drewN (G1.setCell (a := ⟨w.heap.size, 3, none⟩) (Nat.le_refl _) (.int .i64 (a3 + 1))) nq
  generalize hw2 : (w1.setCell ⟨w.heap.size, 3, none⟩ (.int .i64 (a3 + 1))).drewN nq = w2 at *
  clear hw2
  go_wp2_with fail
  refine (ZZnextValue_any (w.heap.size + 1) a2 a4 a0 w2 B2.c3 B2.c0 B2.f3 k3 q3 q1 h3 (by omega)).mono ?_
  rintro e w' ⟨rfl, nr, rfl⟩
  have A3 := A2.other (c := w.heap.size + 1) (.int .i64 (a4 + 1)) nr (by omega)
  have B3 := B2.set (a4 + 1) nr
  have G3 := grown_drewN (G2.setCell (a := ⟨w.heap.size + 1, 3, none⟩) (Nat.le_succ _) (.int .i64 (a4 + 1))) nr
  generalize hw3 : (w2.setCell ⟨w.heap.size + 1, 3, none⟩ (.int .i64 (a4 + 1))).drewN nr = w3 at *
  clear hw3
  have hu : ((a3 * a0 + a1 + 1 == a4 * a0 + a2 + 1) == (a1 == a2 && a3 == a4)) = true := by
    have := HE.out
    rw [beq_iff_eq, Bool.eq_iff_iff]; simpa using this
  clear HE
  generalize hX : a3 * a0 + a1 + 1 = X at *
  have HX := hide hX
  clear hX
  generalize hY : a4 * a0 + a2 + 1 = Y at *
  have HY := hide hY
  clear hY
  go_wp2_with fail
  refine (inWindow_any X a1 a3 a0 w3 (unhide HX).symm hn h1 h2 k1 p3 p1 p2).mono ?_
  rintro e w' ⟨rfl, rfl⟩
  go_wp2_with fail
  refine (inWindow_any Y a2 a4 a0 _ (unhide HY).symm hn h3 h4 k3 q3 q1 q2).mono ?_
  rintro e w' ⟨rfl, rfl⟩
  obtain ⟨bx, hbx⟩ : ∃ b, (X == Y) = b := ⟨_, rfl⟩
  obtain ⟨b1, hb1⟩ : ∃ b, (a1 == a2) = b := ⟨_, rfl⟩
  obtain ⟨b2, hb2⟩ : ∃ b, (a3 == a4) = b := ⟨_, rfl⟩
  rw [hbx, hb1, hb2] at hu
  have hA3 := A3.c3
  have hA0 := A3.c0
  have hB3 := B3.c3
  have hB0 := B3.c0
  clear HX HY k2 k4 hd0 hd1 p1 p2 q1 q2 A1 A2 B1 B2 G1 G2
  cases b1 <;> cases b2 <;> cases bx <;> first | (exfalso; revert hu; decide) | skip
  all_goals
    clear hu
    go_wp2_with fail
    refine (wrote_any w.heap.size (a3 + 1) _ hA3).mono ?_
    rintro e w9 ⟨rfl, rfl⟩
    go_wp2_with fail
    refine (wrote_any (w.heap.size + 1) (a4 + 1) _ hB3).mono ?_
    rintro e w9 ⟨rfl, rfl⟩
    go_wp2_with fail
    refine (procID_any w.heap.size a1 _ hA0).mono ?_
    rintro e w9 ⟨rfl, rfl⟩
    go_wp2_with fail
    refine (procID_any (w.heap.size + 1) a2 _ hB0).mono ?_
    rintro e w9 ⟨rfl, rfl⟩
    go_wp2_with fail
    go_ret
    exact ⟨rfl, G3⟩

theorem disj_all (a0 a1 a2 a3 a4 : Int) (b0 : a0 ≤ 9223372036854775807) (w : World) :
    Calls Try.prog 5 #[.int .i64 a0, .int .i64 a1, .int .i64 a2, .int .i64 a3, .int .i64 a4] w fun e w' => e = .returned (.bool true) ∧ Grown w w' := by
  by_cases hn : a0 < 1
  · go_enter Try.func5, Try.ntmps5
    go_wp2
    go_ret
    exact ⟨rfl, Grown.refl _⟩
  by_cases h : a1 < 0 ∨ a0 ≤ a1 ∨ a2 < 0 ∨ a0 ≤ a2
  · exact disj_out a0 a1 a2 a3 a4 w (by omega) h
  by_cases h' : a3 < 0 ∨ 9223372036854775807 / a0 - 2 < a3 ∨ a4 < 0 ∨ 9223372036854775807 / a0 - 2 < a4
  · exact disj_lim a0 a1 a2 a3 a4 w (by omega) b0 (by omega) (by omega) (by omega) (by omega) h'
  · exact disj_main a0 a1 a2 a3 a4 w (by omega) b0 (by omega) (by omega) (by omega) (by omega) (by omega) (by omega) (by omega) (by omega)

end Go.Proofs.Qxb6612705a
