import Derived.Test.Qxb6612705aCopyWalks
import Derived.Test.Qxb6612705aFlWalks
namespace Go.Proofs.Qxb6612705a
open Go.RowKit
open Fl

/-- A network's cells. -/
def netCells (n now : Int) (queue : Value) (seq : Int) (loads toR fromR : Value) (tr : Nat) (relayed : Int) (scratch : Value) : List Value :=
  [.int .i64 n, .int .i64 now, queue, .int .u64 seq, loads, toR, fromR, .float .f64 tr, .int .i64 relayed, .slice none 0 0, scratch]

set_option maxHeartbeats 400000 in
theorem newNetwork_any (n : Nat) (now seq : Int) (lv : Value) (bt ot ct bf of cf : Nat) (lt lf : List Int) (tr : Nat) (relayed : Int) (w : World)
    (h1 : 1 ≤ n) (hn : n ≤ 1048576) (ht : lt.length = n) (hf : lf.length = n) (hbt : bt < w.heap.size) (hbf : bf < w.heap.size) (a : Option Addr) (ll cl : Nat) (hlv : lv = .slice a ll cl)
    (hct : ∀ i, i < n → w.cell? ⟨bt, ot + i, none⟩ = some (.int .i64 (lt.getD i 0)))
    (hcf : ∀ i, i < n → w.cell? ⟨bf, of + i, none⟩ = some (.int .i64 (lf.getD i 0))) :
    Calls Try.prog 9 #[.int .i64 n, .int .i64 now, .int .u64 seq, lv, .slice (some ⟨bt, ot, none⟩) n ct, .slice (some ⟨bf, of, none⟩) n cf, .float .f64 tr, .int .i64 relayed] w fun e w' =>
      e = .returned (.pointer (some ⟨w.heap.size + 2, 0, none⟩)) ∧
      w' = ((w.alloc (.cells (ints lt).toArray 54)).alloc (.cells (ints lf).toArray 54)).alloc (.cells (netCells n now (.slice none 0 0) seq lv (.slice (some ⟨w.heap.size, 0, none⟩) n n) (.slice (some ⟨w.heap.size + 1, 0, none⟩) n n) tr relayed (.slice none 0 0)).toArray 59) := by
  subst hlv
  have HT : Hid (∀ i, i < n → w.cell? ⟨bt, ot + i, none⟩ = some (.int .i64 (lt.getD i 0))) := hct
  have HF : Hid (∀ i, i < n → w.cell? ⟨bf, of + i, none⟩ = some (.int .i64 (lf.getD i 0))) := hcf
  have Hlt : Hid (lt.length = n) := ht
  have Hlf : Hid (lf.length = n) := hf
  clear hct hcf ht hf
  go_enter Try.func9, Try.ntmps9
  go_wp2_with fail
  refine (times_any bt ot n ct lt w Hlt.out h1 hn hbt HT.out).mono ?_
  rintro e w' ⟨rfl, rfl⟩
  go_wp2_with fail
  refine (times_any bf of n cf lf _ Hlf.out h1 hn (by simp; omega) (fun i hi => by rw [World.cell?_alloc_past _ _ _ hbf]; exact HF.out i hi)).mono ?_
  rintro e w' ⟨rfl, rfl⟩
  go_wp2_with fail
  go_ret
  exact ⟨rfl, rfl⟩

set_option maxHeartbeats 400000 in
theorem utilisation_any (b gl len cap : Nat) (en : Int) (k l : Nat) (w : World) (hen : en = (k : Int)) (hk : k < len) (hl : l < 2 ^ 63) (_hlen : len ≤ 1048577)
    (h4 : w.cell? ⟨b, 4, none⟩ = some (.slice (some ⟨gl, 0, none⟩) len cap)) (hc : w.cell? ⟨gl, k, none⟩ = some (.int .i64 l)) :
    Calls Try.prog 31 #[.pointer (some ⟨b, 0, none⟩), .int .i64 en] w fun e w' => e = .returned (.float .f64 (utilB l)) ∧ w' = w := by
  subst hen
  obtain ⟨u1, _, _⟩ := util_facts hl
  have hq := run_quo u1
  rw [← floatOfInt_nat] at hq
  clear u1 hl
  go_enter Try.func31, Try.ntmps31
  go_wp2
  go_ret
  exact ⟨rfl, rfl⟩

set_option maxHeartbeats 400000 in
theorem ZZutilisation_any (b gl len cap : Nat) (en : Int) (k l : Nat) (w : World) (hen : en = (k : Int)) (hk : k < len) (hl : l < 2 ^ 63) (hlen : len ≤ 1048577)
    (h4 : w.cell? ⟨b, 4, none⟩ = some (.slice (some ⟨gl, 0, none⟩) len cap)) (hc : w.cell? ⟨gl, k, none⟩ = some (.int .i64 l)) :
    Calls Try.prog 20 #[.pointer (some ⟨b, 0, none⟩), .int .i64 en] w fun e w' => e = .returned (.float .f64 (utilB l)) ∧ w' = w := by
  have HU := hide2 (utilisation_any b gl len cap en k l w hen hk hl hlen h4 hc)
  clear hen hk hl hlen h4 hc
  go_enter Try.func20, Try.ntmps20
  go_wp2_with fail
  refine HU.out.mono ?_
  rintro e w' ⟨rfl, rfl⟩
  go_wp2_with fail
  go_ret
  exact ⟨rfl, rfl⟩

end Go.Proofs.Qxb6612705a
