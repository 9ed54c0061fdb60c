import Derived.Test.Qxb6612705aZFwd
import Derived.Handy
namespace Go.Proofs.Qxb6612705a
open Go.RowKit
open Fl

/-- What a message carries into the relay: the law's own struct. -/
structure FM where
  prim : Int
  kind : Int
  origin : Int
  dest : Int
  value : Int
  writer : Int
  counter : Int
  oord : Int

def fmAgg (m : FM) : Value := .agg #[.int .u8 m.prim, .int .u8 m.kind, .int .i64 m.origin, .int .i64 m.dest, .int .i64 m.value, .int .i64 m.writer, .int .i64 m.counter, .int .i64 m.oord]
def fmMsg (m : FM) : Msg := { noMsg with prim := m.prim, kind := m.kind, origin := m.origin, dest := m.dest, value := m.value, writer := m.writer, counter := m.counter, oord := m.oord }

/-- A call writes nothing that was there. -/
abbrev New (w w' : World) : Prop := Kept (fun _ => False) w w'

set_option maxHeartbeats 400000 in
theorem toSim_any (m : FM) (w : World) : Calls Try.prog 11 #[fmAgg m] w fun e w' => e = .returned (aggOf (fmMsg m)) ∧ New w w' := by
  unfold fmAgg
  go_enter Try.func11, Try.ntmps11
  go_wp2
  go_returns
  exact ⟨rfl, ((Kept.refl _ w).alloc _).alloc _⟩

set_option maxHeartbeats 400000 in
theorem fromMessage_any (m : Msg) (w : World) : Calls Try.prog 29 #[aggOf m] w fun e w' => e = .returned (aggOf m) ∧ New w w' := by
  unfold aggOf msgCells
  go_enter Try.func29, Try.ntmps29
  go_wp2
  go_returns
  exact ⟨rfl, ((Kept.refl _ w).alloc _).alloc _⟩

set_option maxHeartbeats 400000 in
theorem max_any (a b : Int) (w : World) : Calls Try.prog 17 #[.int .i64 a, .int .i64 b] w fun e w' => e = .returned (.int .i64 (max a b)) ∧ w' = w := by
  by_cases h : b < a
  · have e : max a b = a := by omega
    rw [e]
    clear e
    go_enter Try.func17, Try.ntmps17
    go_wp2
    go_ret
    exact ⟨rfl, rfl⟩
  · have e : max a b = b := by omega
    rw [e]
    clear e
    go_enter Try.func17, Try.ntmps17
    go_wp2
    go_ret
    exact ⟨rfl, rfl⟩

set_option maxHeartbeats 400000 in
theorem loads_any (b : Nat) (v : Value) (hv : ∃ a l c, v = .slice a l c) (w : World) (h4 : w.cell? ⟨b, 4, none⟩ = some v) : Calls Try.prog 13 #[.pointer (some ⟨b, 0, none⟩)] w fun e w' => e = .returned v ∧ w' = w := by
  obtain ⟨a, l, c, rfl⟩ := hv
  go_enter Try.func13, Try.ntmps13
  go_wp2
  go_ret
  exact ⟨rfl, rfl⟩

set_option maxHeartbeats 400000 in
theorem relayed_any (b : Nat) (x : Int) (w : World) (h8 : w.cell? ⟨b, 8, none⟩ = some (.int .i64 x)) : Calls Try.prog 18 #[.pointer (some ⟨b, 0, none⟩)] w fun e w' => e = .returned (.int .i64 x) ∧ w' = w := by
  go_enter Try.func18, Try.ntmps18
  go_wp2
  go_ret
  exact ⟨rfl, rfl⟩

set_option maxHeartbeats 400000 in
theorem seq_any (b : Nat) (x : Int) (w : World) (h3 : w.cell? ⟨b, 3, none⟩ = some (.int .u64 x)) : Calls Try.prog 19 #[.pointer (some ⟨b, 0, none⟩)] w fun e w' => e = .returned (.int .u64 x) ∧ w' = w := by
  go_enter Try.func19, Try.ntmps19
  go_wp2
  go_ret
  exact ⟨rfl, rfl⟩

/-- A message that carries m. -/
def carried (m : FM) (tat sent seq src dst load rord : Int) : Msg := { tat := tat, sent := sent, seq := seq, src := src, dst := dst, prim := m.prim, kind := m.kind, origin := m.origin, dest := m.dest, value := m.value, writer := m.writer, counter := m.counter, load := load, rord := rord, oord := m.oord }

set_option maxHeartbeats 1600000 in
theorem carries_any (m : FM) (tat sent seq src dst load rord : Int) (w : World) : Calls Try.prog 16 #[aggOf (carried m tat sent seq src dst load rord), fmAgg m] w fun e w' => e = .returned (.bool true) ∧ New w w' := by
  unfold aggOf msgCells fmAgg carried
  go_enter Try.func16, Try.ntmps16
  go_wp2
  go_ret
  exact ⟨rfl, ((Kept.refl _ w).alloc _).alloc _⟩

set_option maxHeartbeats 400000 in
theorem fromRelay_any (b g n cap : Nat) (l : List Int) (w : World) (h1 : 1 ≤ n) (hn : n ≤ 1048576) (hl : l.length = n) (h6 : w.cell? ⟨b, 6, none⟩ = some (.slice (some ⟨g, 0, none⟩) n cap)) (hg : Blk w g (ints l) 54) :
    Calls Try.prog 14 #[.pointer (some ⟨b, 0, none⟩)] w fun e w' => e = .returned (.slice (some ⟨w.heap.size, 0, none⟩) n n) ∧ w' = w.alloc (.cells (ints l).toArray 2) := by
  have H := hide2 (int64s_any g 0 n cap l w hl h1 hn hg.lt (fun i hi => by rw [hg.cell, Nat.zero_add, ints_get _ _ (by omega)]))
  clear hg hl
  go_enter Try.func14, Try.ntmps14
  go_wp2_with fail
  refine H.out.mono ?_
  rintro e w' ⟨rfl, rfl⟩
  go_wp2_with fail
  go_ret
  exact ⟨rfl, rfl⟩

set_option maxHeartbeats 400000 in
theorem toRelay_any (b g n cap : Nat) (l : List Int) (w : World) (h1 : 1 ≤ n) (hn : n ≤ 1048576) (hl : l.length = n) (h5 : w.cell? ⟨b, 5, none⟩ = some (.slice (some ⟨g, 0, none⟩) n cap)) (hg : Blk w g (ints l) 54) :
    Calls Try.prog 15 #[.pointer (some ⟨b, 0, none⟩)] w fun e w' => e = .returned (.slice (some ⟨w.heap.size, 0, none⟩) n n) ∧ w' = w.alloc (.cells (ints l).toArray 2) := by
  have H := hide2 (int64s_any g 0 n cap l w hl h1 hn hg.lt (fun i hi => by rw [hg.cell, Nat.zero_add, ints_get _ _ (by omega)]))
  clear hg hl
  go_enter Try.func15, Try.ntmps15
  go_wp2_with fail
  refine H.out.mono ?_
  rintro e w' ⟨rfl, rfl⟩
  go_wp2_with fail
  go_ret
  exact ⟨rfl, rfl⟩

end Go.Proofs.Qxb6612705a
