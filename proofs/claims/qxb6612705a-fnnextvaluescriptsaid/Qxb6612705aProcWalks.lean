import Derived.Test.Qxb6612705aRows
import Derived.WalkKit
import Derived.WalkSpells
import Derived.WalkLawsBesides
import Derived.Deep.QuietTactic
import Derived.BigQuiet
namespace Go.Proofs.Qxb6612705a
open Go.RowKit

/-- A process's block. -/
def procObj (a wr : Int) : Obj := .cells #[.int .i64 a, .pointer none, .int .i64 0, .int .i64 wr, .int .i64 0, .int .i64 0, .bool false, .bool false, .int .i64 0, .int .i64 0, .bool false, .slice none 0 0, .int .i64 0] 71

theorem ret_int {k : IntKind} {a b : Int} (h : a = b) : Ending.returned (.int k a) = .returned (.int k b) := by rw [h]
theorem ret_bool {a b : Bool} (h : a = b) : Ending.returned (.bool a) = .returned (.bool b) := by rw [h]

set_option maxHeartbeats 400000 in
theorem newProcess_any (a wr : Int) (w : World) :
    Calls Try.prog 22 #[.int .i64 a, .int .i64 wr] w fun e w' => e = .returned (.pointer (some ⟨w.heap.size, 0, none⟩)) ∧ w' = w.alloc (procObj a wr) := by
  go_enter Try.func22, Try.ntmps22
  go_wp2
  go_ret
  exact ⟨rfl, rfl⟩

set_option maxHeartbeats 400000 in
theorem nextValue_any (b : Nat) (a wr n : Int) (w : World)
   (h3 : w.cell? ⟨b, 3, none⟩ = some (.int .i64 wr)) (h0 : w.cell? ⟨b, 0, none⟩ = some (.int .i64 a))
   (hf : w.frozen? ⟨b, 3, none⟩ = false) (hw0 : 0 ≤ wr) (hw1 : wr < 9223372036854775807) (hp : 0 ≤ wr * n) (ha : 0 ≤ a) (hq : wr * n + a + 1 ≤ 9223372036854775807) :
    Calls Try.prog 32 #[.pointer (some ⟨b, 0, none⟩), .int .i64 n] w fun e w' => e = .returned (.int .i64 (wr * n + a + 1)) ∧ ∃ nq, w' = (w.setCell ⟨b, 3, none⟩ (.int .i64 (wr + 1))).drewN nq := by
  go_enter Try.func32, Try.ntmps32
  go_wp2
  go_quiet (fail)
  go_wp2
  go_ret
  exact ⟨rfl, _, rfl⟩

set_option maxHeartbeats 400000 in
theorem ZZnextValue_any (b : Nat) (a wr n : Int) (w : World)
   (h3 : w.cell? ⟨b, 3, none⟩ = some (.int .i64 wr)) (h0 : w.cell? ⟨b, 0, none⟩ = some (.int .i64 a))
   (hf : w.frozen? ⟨b, 3, none⟩ = false) (hw0 : 0 ≤ wr) (hw1 : wr < 9223372036854775807) (hp : 0 ≤ wr * n) (ha : 0 ≤ a) (hq : wr * n + a + 1 ≤ 9223372036854775807) :
    Calls Try.prog 23 #[.pointer (some ⟨b, 0, none⟩), .int .i64 n] w fun e w' => e = .returned (.int .i64 (wr * n + a + 1)) ∧ ∃ nq, w' = (w.setCell ⟨b, 3, none⟩ (.int .i64 (wr + 1))).drewN nq := by
  go_enter Try.func23, Try.ntmps23
  go_wp2_with fail
  refine (nextValue_any b a wr n _ h3 h0 hf hw0 hw1 hp ha hq).mono ?_
  rintro e w' ⟨rfl, nq, rfl⟩
  go_wp2
  go_ret
  exact ⟨rfl, _, rfl⟩

set_option maxHeartbeats 400000 in
theorem wrote_any (b : Nat) (wr : Int) (w : World)
   (h3 : w.cell? ⟨b, 3, none⟩ = some (.int .i64 wr)) :
    Calls Try.prog 25 #[.pointer (some ⟨b, 0, none⟩)] w fun e w' => e = .returned (.int .i64 wr) ∧ w' = w := by
  go_enter Try.func25, Try.ntmps25
  go_wp2
  go_ret
  exact ⟨rfl, rfl⟩

set_option maxHeartbeats 400000 in
theorem procID_any (b : Nat) (a : Int) (w : World)
   (h3 : w.cell? ⟨b, 0, none⟩ = some (.int .i64 a)) :
    Calls Try.prog 26 #[.pointer (some ⟨b, 0, none⟩)] w fun e w' => e = .returned (.int .i64 a) ∧ w' = w := by
  go_enter Try.func26, Try.ntmps26
  go_wp2
  go_ret
  exact ⟨rfl, rfl⟩

theorem emod_win (wr n a : Int) (ha : 0 ≤ a) (han : a < n) : (wr * n + a) % n = a := by
  rw [Int.add_comm, Int.add_mul_emod_self_right]; exact Int.emod_eq_of_lt ha han

set_option maxHeartbeats 400000 in
theorem inWindow_any (v a wr n : Int) (w : World) (hv : v = wr * n + a + 1) (hn : 1 ≤ n) (ha : 0 ≤ a) (han : a < n) (hw : 0 ≤ wr) (hw1 : wr < 9223372036854775807)
    (hp : 0 ≤ wr * n) (hq : wr * n + n ≤ 9223372036854775807) :
    Calls Try.prog 24 #[.int .i64 v, .int .i64 a, .int .i64 wr, .int .i64 n] w fun e w' => e = .returned (.bool true) ∧ w' = w := by
  have hs : (wr + 1) * n = wr * n + n := by rw [Int.add_mul, Int.one_mul]
  have hs1 : (wr + 1) * n ≤ 9223372036854775807 := by omega
  have hs2 : v ≤ (wr + 1) * n := by omega
  have hm : (v - 1) % n = a := by rw [show v - 1 = wr * n + a from by omega]; exact emod_win wr n a ha han
  have hv1 : wr * n < v := by omega
  have hv2 : 1 ≤ v := by omega
  have hv3 : v ≤ 9223372036854775807 := by omega
  have hmB : (((v - 1) % n) == a) = true := beq_iff_eq.2 hm
  have hs3 : 0 ≤ (wr + 1) * n := by omega
  clear hs hm hv
  go_enter Try.func24, Try.ntmps24
  go_wp2
  go_ret
  exact ⟨rfl, rfl⟩

end Go.Proofs.Qxb6612705a
