import Derived.Test.Qxb6612705aLone
namespace Go.Proofs.Qxb6612705a
open Go.RowKit
open Fl

theorem FwdPost.since {b gl gf cl cf : Nat} {tv : Value} {c : Cx} {d0 L : Nat} {seq rel : Int} {w0 w w' : World} (h : FwdPost b gl gf cl cf tv c d0 L seq rel w w') (k1 : Kept (fun k => k = b ∨ k = gl ∨ k = gf) w0 w) : FwdPost b gl gf cl cf tv c d0 L seq rel w0 w' := by
  obtain ⟨qv, sv, h1, h2, h3, h4, h5, h6⟩ := h
  exact ⟨qv, sv, h1, h2, h3, h4, fun g hg => Nat.le_trans k1.size (h5 g hg), k1.trans h6⟩

set_option maxRecDepth 100000 in
set_option maxHeartbeats 3200000 in
theorem forward_lone (b gl gf cl cf : Nat) (tv : Value) (c : Cx) (m : Msg) (d : Nat) (seq rel : Int) (w : World) (hc : c.Ok) (hm : c.m = relayMsg m c.n (wrap64 (rel + 1))) (hp : (m.prim == 2) = true) (hd : m.dest = (d : Int)) (hdn : d < c.n)
    (hbl : b ≠ gl) (hbf : b ≠ gf) (hlf : gl ≠ gf)
    (hN : Blk w b (netCells c.n c.now (.slice none 0 0) seq (.slice (some ⟨gl, 0, none⟩) (c.n + 1) cl) tv (.slice (some ⟨gf, 0, none⟩) c.n cf) c.tr rel (.slice none 0 0)) 59)
    (hL : Blk w gl (ints c.loads) 2) (hF : Blk w gf (ints c.fr) 54) :
    Calls Try.prog 28 #[.pointer (some ⟨b, 0, none⟩), aggOf m] w fun e w' => e = .returned (.tuple #[]) ∧ FwdPost b gl gf cl cf tv c d 1 seq (wrap64 (rel + 1)) w w' := by
  have Hd := hide2 hd
  clear hd
  have hcb := hN.cell
  have hfb := hN.frozen
  have hbw := hN.lt
  unfold netCells at hcb
  obtain ⟨BL, hBL⟩ : ∃ BL : List Value, BL = msgCells m := ⟨_, rfl⟩
  have hN1 : Blk ((w.setCell ⟨b, 8, none⟩ (.int .i64 (wrap64 (rel + 1)))).alloc (.cells BL.toArray 64)) b (netCells c.n c.now (.slice none 0 0) seq (.slice (some ⟨gl, 0, none⟩) (c.n + 1) cl) tv (.slice (some ⟨gf, 0, none⟩) c.n cf) c.tr (wrap64 (rel + 1)) (.slice none 0 0)) 59 := (hN.set 8 (.int .i64 (wrap64 (rel + 1)))).alloc _
  have hL1 : Blk ((w.setCell ⟨b, 8, none⟩ (.int .i64 (wrap64 (rel + 1)))).alloc (.cells BL.toArray 64)) gl (ints c.loads) 2 := (hL.setOther hbl _).alloc _
  have hF1 : Blk ((w.setCell ⟨b, 8, none⟩ (.int .i64 (wrap64 (rel + 1)))).alloc (.cells BL.toArray 64)) gf (ints c.fr) 54 := (hF.setOther hbf _).alloc _
  have hX1 := Blk.new (w.setCell ⟨b, 8, none⟩ (.int .i64 (wrap64 (rel + 1)))) BL 64
  rw [World.size_setCell] at hX1
  have hK1 : Kept (fun k => k = b ∨ k = gl ∨ k = gf) w ((w.setCell ⟨b, 8, none⟩ (.int .i64 (wrap64 (rel + 1)))).alloc (.cells BL.toArray 64)) := ((Kept.refl _ w).setCell (.inl (.inl rfl)) _).alloc _
  rw [hBL] at hN1 hL1 hF1 hX1 hK1
  unfold msgCells at hN1 hL1 hF1 hX1 hK1
  have HN1 := hide2 hN1
  have HL1 := hide2 hL1
  have HF1 := hide2 hF1
  have HX1 := hide2 hX1
  have HK1 := hide2 hK1
  clear hN1 hL1 hF1 hX1 hK1 hBL
  unfold aggOf msgCells
  go_enter Try.func28, Try.ntmps28
  go_wp2
  generalize (w.setCell ⟨b, 8, none⟩ (.int .i64 (wrap64 (rel + 1)))).alloc _ = W at *
  clear hcb hfb
  have hcb : ∀ i, W.cell? ⟨b, i, none⟩ = _ := HN1.out.cell
  unfold netCells at hcb
  have hcX := HX1.out.cell
  have hfX := HX1.out.frozen
  have hHb : ¬ w.heap.size = b := by omega
  have hHb' : ¬ b = w.heap.size := by omega
  go_region_held3 (fun w' => w'.cell? ⟨b, 0, none⟩ = some (.int .i64 c.n) ∧ w'.cell? ⟨b, 8, none⟩ = some (.int .i64 (wrap64 (rel + 1)))) (go_keep) (fail)
  go_wp2_with fail
  have hlw := hL.lt
  have hfw := hF.lt
  have n1 : w.heap.size ≠ b := by omega
  have n2 : w.heap.size ≠ gl := by omega
  have n3 : w.heap.size ≠ gf := by omega
  have hN3 := (((HN1.out.setOther (p := ⟨w.heap.size, 3, none⟩) n1 (.int .i64 c.n)).setOther (p := ⟨w.heap.size, 13, none⟩) n1 (.int .i64 (wrap64 (rel + 1)))).setOther (p := ⟨w.heap.size, 4, none⟩) n1 (.int .i64 m.dest)).drew
  have hL3 := (((HL1.out.setOther (p := ⟨w.heap.size, 3, none⟩) n2 (.int .i64 c.n)).setOther (p := ⟨w.heap.size, 13, none⟩) n2 (.int .i64 (wrap64 (rel + 1)))).setOther (p := ⟨w.heap.size, 4, none⟩) n2 (.int .i64 m.dest)).drew
  have hF3 := (((HF1.out.setOther (p := ⟨w.heap.size, 3, none⟩) n3 (.int .i64 c.n)).setOther (p := ⟨w.heap.size, 13, none⟩) n3 (.int .i64 (wrap64 (rel + 1)))).setOther (p := ⟨w.heap.size, 4, none⟩) n3 (.int .i64 m.dest)).drew
  have hK3 := (((HK1.out.setCell (p := ⟨w.heap.size, 3, none⟩) (.inr (Nat.le_refl _)) (.int .i64 c.n)).setCell (p := ⟨w.heap.size, 13, none⟩) (.inr (Nat.le_refl _)) (.int .i64 (wrap64 (rel + 1)))).setCell (p := ⟨w.heap.size, 4, none⟩) (.inr (Nat.le_refl _)) (.int .i64 m.dest)).drew
  generalize (((W.setCell ⟨w.heap.size, 3, none⟩ (.int .i64 c.n)).setCell ⟨w.heap.size, 13, none⟩ (.int .i64 (wrap64 (rel + 1)))).setCell ⟨w.heap.size, 4, none⟩ (.int .i64 m.dest)).drew = W3 at *
  refine (send_any b gl gf cl cf tv c { relayMsg m c.n (wrap64 (rel + 1)) with dst := m.dest } d seq (wrap64 (rel + 1)) W3 hc (by rw [Cx.raw, hm, Hd.out]) hdn hbl hbf hlf hN3 hL3 hF3).mono ?_
  rintro e w' ⟨rfl, hpost⟩
  have HP := hide2 (hpost.since hK3)
  clear hpost hN3 hL3 hF3 hK3 HN1 HL1 HF1 HX1 HK1 hN hL hF hcb hcX hfX
  go_wp2_with fail
  (try simp only [Exit.inBlock, Exit.then])
  refine bodyPost_ret (results_none rfl _ _ _) rfl ?_
  exact ⟨rfl, HP.out⟩

set_option maxRecDepth 100000 in
set_option maxHeartbeats 1600000 in
theorem ZZforward_lone (b gl gf cl cf : Nat) (tv : Value) (c : Cx) (m : Msg) (d : Nat) (seq rel : Int) (w : World) (hc : c.Ok) (hm : c.m = relayMsg m c.n (wrap64 (rel + 1))) (hp : (m.prim == 2) = true) (hd : m.dest = (d : Int)) (hdn : d < c.n)
    (hbl : b ≠ gl) (hbf : b ≠ gf) (hlf : gl ≠ gf)
    (hN : Blk w b (netCells c.n c.now (.slice none 0 0) seq (.slice (some ⟨gl, 0, none⟩) (c.n + 1) cl) tv (.slice (some ⟨gf, 0, none⟩) c.n cf) c.tr rel (.slice none 0 0)) 59)
    (hL : Blk w gl (ints c.loads) 2) (hF : Blk w gf (ints c.fr) 54) :
    Calls Try.prog 10 #[.pointer (some ⟨b, 0, none⟩), aggOf m] w fun e w' => e = .returned (.tuple #[]) ∧ FwdPost b gl gf cl cf tv c d 1 seq (wrap64 (rel + 1)) w w' := by
  have HF := hide2 (forward_lone b gl gf cl cf tv c m d seq rel (w.alloc (.cells (msgCells m).toArray 33)) hc hm hp hd hdn hbl hbf hlf (hN.alloc _) (hL.alloc _) (hF.alloc _))
  clear hc hm hp hd hN hL hF
  have HA : Hid (Value.agg #[.int .i64 m.tat, .int .i64 m.sent, .int .u64 m.seq, .int .i64 m.src, .int .i64 m.dst, .int .u8 m.prim, .int .u8 m.kind, .int .i64 m.origin, .int .i64 m.dest, .int .i64 m.value, .int .i64 m.writer, .int .i64 m.counter, .int .i64 m.load, .int .i64 m.rord, .int .i64 m.oord] = aggOf m) := rfl
  have HW : Hid (w.alloc (.cells #[.int .i64 m.tat, .int .i64 m.sent, .int .u64 m.seq, .int .i64 m.src, .int .i64 m.dst, .int .u8 m.prim, .int .u8 m.kind, .int .i64 m.origin, .int .i64 m.dest, .int .i64 m.value, .int .i64 m.writer, .int .i64 m.counter, .int .i64 m.load, .int .i64 m.rord, .int .i64 m.oord] 33) = w.alloc (.cells (msgCells m).toArray 33)) := rfl
  rw [← HA.out]
  go_enter Try.func10, Try.ntmps10
  go_wp2_with fail
  rw [HA.out, HW.out]
  refine HF.out.mono ?_
  rintro e w' ⟨rfl, hp⟩
  have HP := hide2 hp
  clear hp
  go_wp2_with fail
  go_end0
  exact ⟨rfl, HP.out.before⟩

end Go.Proofs.Qxb6612705a
