import Derived.Test.Qxb6612705aRows
import Derived.WalkKit
import Derived.WalkSpells
import Derived.WalkLawsBesides
import Derived.Laws.Externs
import Derived.Laws.Bits64b
import Derived.Laws.BitsAllLaws
namespace Go.Proofs.Qxb6612705a
open Go.RowKit

theorem run_f64bits (p : Nat) (w : World) : (callFunc 40 #[.float .f64 p]).run Try.prog w = .ok (.value (.int .u64 p)) w := by
  rw [run_callFunc_extern (e := Extern.MathFloatBits.float64bits) Try.func40 (by kernel_rfl) (by kernel_rfl) (by kernel_rfl) (by kernel_rfl)]
  rfl
theorem run_f64from (p : Int) (w : World) : (callFunc 41 #[.int .u64 p]).run Try.prog w = .ok (.value (.float .f64 p.toNat)) w := by
  rw [run_callFunc_extern (e := Extern.MathFloatBits.float64frombits) Try.func41 (by kernel_rfl) (by kernel_rfl) (by kernel_rfl) (by kernel_rfl)]
  rfl

/-- The exponent field, as Round reckons it. -/
def exI (p : Nat) : Int := bits .and .u64 ((p : Int) / 4503599627370496) 2047
/-- What Round makes of a word, in the walk's own words. -/
def roundBits (p : Nat) : Nat :=
  if exI p < 1023 then
    if (exI p == 1022) = true then (bits .or .u64 (bits .and .u64 p 9223372036854775808) 4607182418800017408).toNat
    else (bits .and .u64 p 9223372036854775808).toNat
  else if exI p < 1075 then
    (bits .andNot .u64 (IntKind.u64.wrap ((p : Int) + 2251799813685248 / 2 ^ (exI p - 1023).toNat)) (4503599627370495 / 2 ^ (exI p - 1023).toNat)).toNat
  else p

theorem ret_float {a b : Nat} (h : a = b) : Ending.returned (.float .f64 a) = .returned (.float .f64 b) := by rw [h]

set_option maxRecDepth 100000 in
set_option maxHeartbeats 400000 in
theorem round_any (p : Nat) (w : World) :
    Calls Try.prog 37 #[.float .f64 p] w fun e w' => e = .returned (.float .f64 (roundBits p)) ∧ w' = w := by
  have h40 := run_f64bits
  have h41 := run_f64from
  go_enter Try.func37, Try.ntmps37
  go_wp2
  · go_ret
    refine ⟨ret_float ?_, rfl⟩
    unfold roundBits
    rw [if_pos (by assumption), if_pos (by assumption)]
  · go_ret
    refine ⟨ret_float ?_, rfl⟩
    have hx : (exI p == 1022) = false := by assumption
    unfold roundBits
    rw [if_pos (by assumption), if_neg (by rw [hx]; decide)]
  · go_ret
    refine ⟨ret_float ?_, rfl⟩
    have hx : 1023 ≤ exI p := by assumption
    unfold roundBits
    rw [if_neg (by omega), if_pos (by assumption)]
    rfl
  · go_ret
    refine ⟨ret_float ?_, rfl⟩
    have hx : 1023 ≤ exI p := by assumption
    have hy : 1075 ≤ exI p := by assumption
    unfold roundBits
    rw [if_neg (by omega), if_neg (by omega)]

end Go.Proofs.Qxb6612705a
