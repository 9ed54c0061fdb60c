import Derived.Test.Qxb6612705aPush
namespace Go.Proofs.Qxb6612705a
open Go.RowKit

set_option maxHeartbeats 1000000 in
theorem lastOnLink_any (b gm om gf n t cf : Nat) (w : World) (ht : t < n) (_hn : n ≤ 1048576)
    (h0 : w.cell? ⟨b, 0, none⟩ = some (.int .i64 n)) (h6 : w.cell? ⟨b, 6, none⟩ = some (.slice (some ⟨gf, 0, none⟩) n cf))
    (h3 : w.cell? ⟨gm, om + 3, none⟩ = some (.int .i64 n)) (h4 : w.cell? ⟨gm, om + 4, none⟩ = some (.int .i64 t)) :
    Calls Try.prog 36 #[.pointer (some ⟨b, 0, none⟩), .pointer (some ⟨gm, om, none⟩)] w fun e w' => e = .returned (.pointer (some ⟨gf, t, none⟩)) ∧ ∃ q, w' = w.drewN q := by
  have e1 : ((t : Int) == (n : Int)) = false := beq_eq_false_iff_ne.2 (by omega)
  have e2 : ((n : Int) == (n : Int)) = true := by simp
  have p0 : (0 : Int) ≤ (t : Int) := by omega
  have p1 : (t : Int) < (n : Int) := by omega
  go_enter Try.func36, Try.ntmps36
  go_wp2
  go_quiet (fail)
  go_wp2
  go_quiet (fail)
  go_wp2
  go_quiet (fail)
  go_wp2
  go_ret
  exact ⟨rfl, _, by rw [World.drewN_drewN, World.drewN_drewN]⟩

end Go.Proofs.Qxb6612705a
