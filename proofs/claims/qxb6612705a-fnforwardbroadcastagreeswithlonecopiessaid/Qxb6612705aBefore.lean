import Derived.Test.Qxb6612705aNetWalks
import Derived.Deep.QuietTactic
import Derived.BigQuiet
namespace Go.Proofs.Qxb6612705a
open Go.RowKit

/-- 'm.before(o)'. -/
def beforeB (a1 s1 a2 s2 : Int) : Bool := decide (a1 < a2) || (decide (a1 = a2) && decide (s1 < s2))

set_option maxHeartbeats 1000000 in
theorem before_any (g1 o1 g2 o2 : Nat) (a1 s1 a2 s2 : Int) (w : World)
    (c1 : w.cell? ⟨g1, o1, none⟩ = some (.int .i64 a1)) (d1 : w.cell? ⟨g1, o1 + 2, none⟩ = some (.int .u64 s1))
    (c2 : w.cell? ⟨g2, o2, none⟩ = some (.int .i64 a2)) (d2 : w.cell? ⟨g2, o2 + 2, none⟩ = some (.int .u64 s2)) :
    Calls Try.prog 42 #[.pointer (some ⟨g1, o1, none⟩), .pointer (some ⟨g2, o2, none⟩)] w fun e w' => e = .returned (.bool (beforeB a1 s1 a2 s2)) ∧ ∃ n, w' = w.drewN n := by
  by_cases h1 : a1 < a2
  · have hr : beforeB a1 s1 a2 s2 = true := by simp [beforeB, h1]
    rw [hr]
    go_enter Try.func42, Try.ntmps42
    go_wp2
    go_quiet (fail)
    go_wp2
    go_ret
    exact ⟨rfl, _, rfl⟩
  · have h1' : decide (a1 < a2) = false := by simpa using h1
    by_cases h2 : a1 = a2
    · subst h2
      have hr : beforeB a1 s1 a1 s2 = decide (s1 < s2) := by simp [beforeB]
      rw [hr]
      have h2' : (a1 == a1) = true := by simp
      go_enter Try.func42, Try.ntmps42
      go_wp2
      go_quiet (fail)
      go_wp2
      go_ret
      exact ⟨rfl, _, rfl⟩
    · have hr : beforeB a1 s1 a2 s2 = false := by simp [beforeB, h1, h2]
      rw [hr]
      have h2' : (a1 == a2) = false := by simpa using h2
      go_enter Try.func42, Try.ntmps42
      go_wp2
      go_quiet (fail)
      go_wp2
      go_ret
      exact ⟨rfl, _, rfl⟩

end Go.Proofs.Qxb6612705a
