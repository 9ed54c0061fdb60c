import Derived.Test.Qxb6612705aZFwd
namespace Go.Proofs.Qxb6612705a
open Go.RowKit
open Fl

/-- The message of the law, and the idle network's reckoning. -/
def idleMsg : Msg := { noMsg with prim := 1 }
def idleCx (n : Nat) (now : Int) (tr : Nat) : Cx := { n := n, now := now, tr := tr, loads := List.replicate (n + 1) 0, fr := List.replicate n 0, m := relayMsg idleMsg n (wrap64 (0 + 1)) }

theorem rep_getD (n j : Nat) : (List.replicate n (0 : Int)).getD j 0 = 0 := by
  simp only [List.getD, List.getElem?_replicate]; split <;> rfl

theorem idle_ok (n : Nat) (now : Int) (tr : Nat) (h1 : 1 ≤ n) (h2 : n ≤ 65536) (h3 : 0 ≤ now) (h4 : now ≤ 4611686018427387904) (ht : TrOk tr) : (idleCx n now tr).Ok :=
  ⟨h1, h2, h3, h4, ht, by simp [idleCx], by simp [idleCx], fun j => by simp only [idleCx, rep_getD]; omega, fun j => by simp only [idleCx, rep_getD]; omega, rfl⟩

theorem utilB_zero : utilB 0 = 0 := by decide +kernel
theorem delI_zero : delI 0 = 20000000 := by decide +kernel

/-- The one load. -/
def idleLoad (tr : Nat) : Int := ldI tr 20000000

theorem idle_del (n : Nat) (now : Int) (tr j : Nat) : (idleCx n now tr).del j = 20000000 := by
  simp only [Cx.del, Cx.ld0, idleCx, rep_getD, Int.toNat_zero, utilB_zero, Nat.max_self]
  exact delI_zero
theorem idle_arr (n : Nat) (now : Int) (tr j : Nat) (h : 0 ≤ now) : (idleCx n now tr).arr j = now + 20000000 := by
  have e1 : (idleCx n now tr).now = now := rfl
  have e2 : (idleCx n now tr).fr0 j = 0 := by simp only [Cx.fr0, idleCx, rep_getD]
  rw [Cx.arr, idle_del, e1, e2, if_neg (by omega)]; rfl
theorem idle_load (n : Nat) (now : Int) (tr j : Nat) (h : 0 ≤ now) : (idleCx n now tr).load j = idleLoad tr := by
  have e1 : (idleCx n now tr).now = now := rfl
  have e2 : (idleCx n now tr).tr = tr := rfl
  rw [Cx.load, idle_arr n now tr j h, e1, e2, show (now + 20000000 - now).toNat = 20000000 from by omega]; rfl

theorem idleLoad_bd (tr : Nat) (h : TrOk tr) : 0 ≤ idleLoad tr ∧ idleLoad tr ≤ 54975581388800 := by
  obtain ⟨_, _, _, h4, h5, _⟩ := load_facts (dt := 20000000) h (by omega) (by omega)
  exact ⟨h4, h5⟩

theorem wrap64_in (x : Int) (h1 : -9223372036854775808 ≤ x) (h2 : x ≤ 9223372036854775807) : wrap64 x = x := IntWalk.wrap64_in x ⟨h1, h2⟩

theorem idle_sum (n : Nat) (now : Int) (tr : Nat) (h : 0 ≤ now) (ht : TrOk tr) : ∀ k, k ≤ 65536 → (idleCx n now tr).sumA 0 k = (k : Int) * idleLoad tr
  | 0, _ => by
    have e : (idleCx n now tr).sumA 0 0 = 0 := by simp only [Cx.sumA, idleCx, rep_getD]
    rw [e]; simp
  | k + 1, hk => by
    obtain ⟨b1, b2⟩ := idleLoad_bd tr ht
    rw [Cx.sumA, idle_sum n now tr h ht k (by omega), idle_load n now tr _ h]
    have e : ((k + 1 : Nat) : Int) * idleLoad tr = (k : Int) * idleLoad tr + idleLoad tr := by
      rw [Int.natCast_add, Int.add_mul]; simp
    have b3 : 0 ≤ (k : Int) * idleLoad tr := Int.mul_nonneg (by omega) b1
    have b4 : (k : Int) * idleLoad tr ≤ 65536 * 54975581388800 := Int.mul_le_mul (by omega) b2 b1 (by omega)
    rw [e, wrap64_in _ (by omega) (by omega)]

theorem idle_loads_lo (n : Nat) (now : Int) (tr j : Nat) (h : 0 ≤ now) (ht : TrOk tr) (hj : j < n) : ((idleCx n now tr).loadsA 0 n).getD j 0 = idleLoad tr := by
  obtain ⟨b1, b2⟩ := idleLoad_bd tr ht
  have e0 : (idleCx n now tr).n = n := rfl
  rw [Cx.loadsA_get _ _ _ _ (by rw [e0]; omega), if_neg (by rw [e0]; omega), if_pos (by omega), Cx.lnew, idle_load n now tr j h]
  have e1 : (idleCx n now tr).loads.getD j 0 = 0 := by simp only [idleCx, rep_getD]
  rw [e1, Int.zero_add, wrap64_in _ (by omega) (by omega)]
theorem idle_loads_hi (n : Nat) (now : Int) (tr : Nat) (h : 0 ≤ now) (ht : TrOk tr) (hn : n ≤ 65536) : ((idleCx n now tr).loadsA 0 n).getD n 0 = ((n * (idleLoad tr).toNat : Nat) : Int) := by
  obtain ⟨b1, b2⟩ := idleLoad_bd tr ht
  have e0 : (idleCx n now tr).n = n := rfl
  rw [Cx.loadsA_get _ _ _ _ (by rw [e0]; omega), if_pos (by rw [e0]), idle_sum n now tr h ht n hn, Int.natCast_mul, Int.toNat_of_nonneg b1]

/-- THE LAW's FLOATS. -/
theorem idle_near (tr : Nat) (ht : TrOk tr) : ∃ d, Ieee.double.sub (fI (idleLoad tr).toNat) (ldY tr 20000000) = some d ∧ NearOk d := by
  obtain ⟨_, _, _, _, _, h6⟩ := load_facts (dt := 20000000) ht (by omega) (by omega)
  rcases h6 with ⟨_, h7, h8⟩ | ⟨h7, h8⟩
  · refine ⟨0, ?_, ?_⟩
    · unfold idleLoad; rw [h8, h7]; decide +kernel
    · unfold NearOk; decide +kernel
  · unfold idleLoad; rw [h8, Int.toNat_natCast]; exact near_round h7

end Go.Proofs.Qxb6612705a
