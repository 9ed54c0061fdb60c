import Derived.Test.Qxb6612705aFl7
import Derived.Deep.QuietTactic
import Derived.BigQuiet
namespace Go.Proofs.Qxb6612705a
open Go.RowKit
open Fl

theorem run_quo {x y r : Nat} (h : Ieee.double.div x y = some r) (t : TypeId) (w : World) : (binOp .quo t (.float .f64 x) (.float .f64 y)).run Try.prog w = .ok (.float .f64 r) w := run_float_arith w .quo t .f64 x y r h
theorem run_mul {x y r : Nat} (h : Ieee.double.mul x y = some r) (t : TypeId) (w : World) : (binOp .mul t (.float .f64 x) (.float .f64 y)).run Try.prog w = .ok (.float .f64 r) w := run_float_arith w .mul t .f64 x y r h
theorem run_sub {x y r : Nat} (h : Ieee.double.sub x y = some r) (t : TypeId) (w : World) : (binOp .sub t (.float .f64 x) (.float .f64 y)).run Try.prog w = .ok (.float .f64 r) w := run_float_arith w .sub t .f64 x y r h

theorem ret_f {a b : Nat} (h : a = b) : Ending.returned (.float .f64 a) = .returned (.float .f64 b) := by rw [h]

set_option maxHeartbeats 400000 in
theorem seconds_any (dt : Nat) (h1 : 20000000 ≤ dt) (h2 : dt < 2 ^ 63) (w : World) :
    Calls Try.prog 38 #[.int .i64 dt] w fun e w' => e = .returned (.float .f64 (secB dt)) ∧ w' = w := by
  obtain ⟨d1, _, _⟩ := sec_facts h1 h2
  have hq := run_quo d1
  rw [← floatOfInt_nat] at hq
  clear d1 h1 h2
  go_enter Try.func38, Try.ntmps38
  go_wp2
  go_ret
  exact ⟨rfl, rfl⟩

theorem lt_one {u : Nat} (hu : u < Ieee.double.infRung) (h : u < 4607182418800017408) : (FloatKind.f64.format.order u 4607182418800017408 == some .lt) = true := by
  have : FloatKind.f64.format.order u 4607182418800017408 = some (compare u 4607182418800017408) := order_pos hu (by rw [inf_eq]; omega)
  rw [this, Nat.compare_eq_lt.2 h]; rfl
theorem not_lt_one {u : Nat} (hu : u < Ieee.double.infRung) (h : ¬ u < 4607182418800017408) : (FloatKind.f64.format.order u 4607182418800017408 == some .lt) = false := by
  have : FloatKind.f64.format.order u 4607182418800017408 = some (compare u 4607182418800017408) := order_pos hu (by rw [inf_eq]; omega)
  rw [this]
  rcases Nat.lt_or_eq_of_le (Nat.le_of_not_lt h) with g | g
  · rw [Nat.compare_eq_gt.2 g]; rfl
  · rw [Nat.compare_eq_eq.2 g.symm]; rfl

set_option maxHeartbeats 400000 in
theorem delay_any (u : Nat) (hu : u < Ieee.double.infRung) (w : World) :
    Calls Try.prog 35 #[.float .f64 u] w fun e w' => e = .returned (.int .i64 (delI u)) ∧ w' = w := by
  obtain ⟨m1, m2, _, _⟩ := delay_facts u
  have hc := fun (w : World) => run_convert_float_int (P := Try.prog) w 23 54 .f64 .i64 (roundBits (delP u)) (delI u) (by rw [Try.underlying23]; rfl) Try.underlying54 m2
  by_cases h : u < 4607182418800017408
  · have ht := lt_one hu h
    obtain ⟨d1, d2, d3, _, d5, _, _, _⟩ := delay_parts h
    have hi : (4613937818241073152 : Nat) < Ieee.double.infRung := by rw [inf_eq]; omega
    have e : delD u = min (delT u) 4613937818241073152 := by unfold delD; rw [if_pos h]
    rw [e] at m1
    have hs := run_sub d1
    have hv := run_quo d2
    have ht' := run_sub d3
    have hm := fun ts t w => run_min_pos (P := Try.prog) ts t d5 hi w
    have hp := run_mul m1
    clear d1 d2 d3 d5 m1 m2 e h hu hi
    go_enter Try.func35, Try.ntmps35
    go_wp2_with fail
    refine (round_any _ _).mono ?_
    rintro e w' ⟨rfl, rfl⟩
    go_wp2_with fail
    go_ret
    exact ⟨rfl, rfl⟩
  · have ht := not_lt_one hu h
    have e : delD u = 4613937818241073152 := by unfold delD; rw [if_neg h]
    rw [e] at m1
    have hp := run_mul m1
    clear m1 m2 e h hu
    go_enter Try.func35, Try.ntmps35
    go_wp2_with fail
    refine (round_any _ _).mono ?_
    rintro e w' ⟨rfl, rfl⟩
    go_wp2_with fail
    go_ret
    exact ⟨rfl, rfl⟩

set_option maxHeartbeats 400000 in
theorem near_any (x y d : Nat) (hd : Ieee.double.sub x y = some d) (hn : NearOk d) (w : World) :
    Calls Try.prog 21 #[.float .f64 x, .float .f64 y] w fun e w' => e = .returned (.bool true) ∧ w' = w := by
  have hs := run_sub hd
  have h1 : (FloatKind.f64.format.order d 13826050856027422720 == some .gt || FloatKind.f64.format.order d 13826050856027422720 == some .eq) = true := hn.1
  have h2 : (FloatKind.f64.format.order d 4602678819172646912 == some .lt || FloatKind.f64.format.order d 4602678819172646912 == some .eq) = true := hn.2
  clear hn hd
  go_enter Try.func21, Try.ntmps21
  go_wp2
  go_ret
  exact ⟨rfl, rfl⟩

end Go.Proofs.Qxb6612705a
