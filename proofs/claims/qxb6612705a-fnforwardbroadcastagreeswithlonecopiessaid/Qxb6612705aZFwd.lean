import Derived.Test.Qxb6612705aFwd
namespace Go.Proofs.Qxb6612705a
open Go.RowKit
open Fl

theorem FwdPost.before {b gl gf cl cf : Nat} {tv : Value} {c : Cx} {d0 L : Nat} {seq rel : Int} {w w' : World} {o : Obj} (h : FwdPost b gl gf cl cf tv c d0 L seq rel (w.alloc o) w') : FwdPost b gl gf cl cf tv c d0 L seq rel w w' := by
  obtain ⟨qv, sv, h1, h2, h3, h4, h5, h6⟩ := h
  have k1 : Kept (fun k => k = b ∨ k = gl ∨ k = gf) w (w.alloc o) := (Kept.refl _ w).alloc o
  exact ⟨qv, sv, h1, h2, h3, h4, fun g hg => Nat.le_trans k1.size (h5 g hg), k1.trans h6⟩

set_option maxRecDepth 100000 in
set_option maxHeartbeats 1600000 in
theorem ZZforward_all (b gl gf cl cf : Nat) (tv : Value) (c : Cx) (m : Msg) (seq rel : Int) (w : World) (hc : c.Ok) (hm : c.m = relayMsg m c.n (wrap64 (rel + 1))) (hp : (m.prim == 2) = false)
    (hbl : b ≠ gl) (hbf : b ≠ gf) (hlf : gl ≠ gf)
    (hN : Blk w b (netCells c.n c.now (.slice none 0 0) seq (.slice (some ⟨gl, 0, none⟩) (c.n + 1) cl) tv (.slice (some ⟨gf, 0, none⟩) c.n cf) c.tr rel (.slice none 0 0)) 59)
    (hL : Blk w gl (ints c.loads) 2) (hF : Blk w gf (ints c.fr) 54) :
    Calls Try.prog 10 #[.pointer (some ⟨b, 0, none⟩), aggOf m] w fun e w' => e = .returned (.tuple #[]) ∧ FwdPost b gl gf cl cf tv c 0 c.n seq (wrap64 (rel + 1)) w w' := by
  have HF := hide2 (forward_all b gl gf cl cf tv c m seq rel (w.alloc (.cells (msgCells m).toArray 33)) hc hm hp hbl hbf hlf (hN.alloc _) (hL.alloc _) (hF.alloc _))
  clear hc hm hp hN hL hF
  have HA : Hid (Value.agg #[.int .i64 m.tat, .int .i64 m.sent, .int .u64 m.seq, .int .i64 m.src, .int .i64 m.dst, .int .u8 m.prim, .int .u8 m.kind, .int .i64 m.origin, .int .i64 m.dest, .int .i64 m.value, .int .i64 m.writer, .int .i64 m.counter, .int .i64 m.load, .int .i64 m.rord, .int .i64 m.oord] = aggOf m) := rfl
  have HW : Hid (w.alloc (.cells #[.int .i64 m.tat, .int .i64 m.sent, .int .u64 m.seq, .int .i64 m.src, .int .i64 m.dst, .int .u8 m.prim, .int .u8 m.kind, .int .i64 m.origin, .int .i64 m.dest, .int .i64 m.value, .int .i64 m.writer, .int .i64 m.counter, .int .i64 m.load, .int .i64 m.rord, .int .i64 m.oord] 33) = w.alloc (.cells (msgCells m).toArray 33)) := rfl
  rw [← HA.out]
  go_enter Try.func10, Try.ntmps10
  go_wp2_with fail
  rw [HA.out, HW.out]
  refine HF.out.mono ?_
  rintro e w' ⟨rfl, hp⟩
  have HP := hide2 hp
  clear hp
  go_wp2_with fail
  go_end0
  exact ⟨rfl, HP.out.before⟩

end Go.Proofs.Qxb6612705a
