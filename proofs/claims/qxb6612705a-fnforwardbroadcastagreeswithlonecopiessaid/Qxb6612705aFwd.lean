import Derived.Test.Qxb6612705aSend1
namespace Go.Proofs.Qxb6612705a
open Go.RowKit
open Fl

/-- What a forward leaves. -/
def FwdPost (b gl gf cl cf : Nat) (tv : Value) (c : Cx) (d0 L : Nat) (seq rel : Int) (w w' : World) : Prop :=
  ∃ qv sv, Blk w' b (netCells c.n c.now qv (seqA seq L) (.slice (some ⟨gl, 0, none⟩) (c.n + 1) cl) tv (.slice (some ⟨gf, 0, none⟩) c.n cf) c.tr rel sv) 59 ∧
    Blk w' gl (ints (c.loadsA d0 L)) 2 ∧ Blk w' gf (ints (c.frA d0 L)) 54 ∧ w'.ownsRow 0 64 15 qv L (flat (c.heapA d0 seq L)) ∧ (∀ g, qv.ownBlock = some g → w.heap.size ≤ g) ∧ Kept (fun k => k = b ∨ k = gl ∨ k = gf) w w'

/-- The message as the relay hands it on. -/
def relayMsg (m : Msg) (n : Nat) (rel : Int) : Msg := { m with src := n, rord := rel }

/-- The state within forward's loop: the batch v of k messages; the message's own variable lies in block H. -/
structure FS (b gl gf H : Nat) (nc : List Value) (lds fr : List Int) (bx : Msg) (w0 w : World) (v : Value) (ms : List Msg) : Prop where
  net : Blk w b nc 59
  lds : Blk w gl (ints lds) 2
  frs : Blk w gf (ints fr) 54
  box : Blk w H (msgCells bx) 64
  own : w.ownsRow 0 64 15 v ms.length (flat ms)
  fresh : ∀ g, v.ownBlock = some g → H < g
  kept : Kept (fun k => k = b ∨ k = gl ∨ k = gf) w0 w

theorem FS.next {b gl gf H : Nat} {nc : List Value} {lds fr : List Int} {bx : Msg} {w0 w w1 : World} {v : Value} {ms : List Msg} {g cap h1 : Nat} (x : Int) (m' : Msg) (o : Obj) (hm : { bx with dst := x } = m') (s : FS b gl gf H nc lds fr bx w0 w v ms) (hb : b < H) (hl : gl < H) (hf : gf < H) (hH : w0.heap.size ≤ H)
    (hown : w1.ownsRow 0 64 15 (.slice (some ⟨g, 0, none⟩) (ms.length + 1) cap) (ms.length + 1) (flat ms ++ msgCells m')) (hg : ((w.setCell ⟨H, 4, none⟩ (.int .i64 x)).alloc o).grownBy w1 v.ownBlock)
    (hat : v.ownBlock = some g ∨ g = h1) (hh1 : h1 = w.heap.size + 1) : FS b gl gf H nc lds fr m' w0 w1 (.slice (some ⟨g, 0, none⟩) (ms.length + 1) cap) (ms ++ [m']) := by
  have hHw := s.box.lt
  have step : ∀ {k : Nat} {cs : List Value} {t : TypeId}, Blk w k cs t → k ≠ H → (∀ q, v.ownBlock = some q → q ≠ k) → Blk w1 k cs t := fun {k cs t} hk hne hq => by
    have h2 : Blk ((w.setCell ⟨H, 4, none⟩ (.int .i64 x)).alloc o) k cs t := (hk.setOther (Ne.symm hne) _).alloc _
    unfold Blk
    rw [hg.block k h2.lt (fun e => hq k e.symm rfl)]; exact h2
  have hfr : H < g := by
    rcases hat with h | h
    · exact s.fresh g h
    · omega
  refine ⟨step s.net (by omega) (fun q hq => by have := s.fresh q hq; omega), step s.lds (by omega) (fun q hq => by have := s.fresh q hq; omega), step s.frs (by omega) (fun q hq => by have := s.fresh q hq; omega), ?_, ?_, ?_, ?_⟩
  · have h2 : Blk ((w.setCell ⟨H, 4, none⟩ (.int .i64 x)).alloc o) H (msgCells m') 64 := by
      rw [← hm]; exact (s.box.set 4 (.int .i64 x)).alloc _
    unfold Blk
    rw [hg.block H h2.lt (fun e => by have := s.fresh H e.symm; omega)]; exact h2
  · rw [flat_append, flat_single, List.length_append]; exact hown
  · intro q hq
    simp [Value.ownBlock] at hq; omega
  · exact ((s.kept.setCell (p := ⟨H, 4, none⟩) (.inr hH) _).alloc _).grown hg (fun k hk => .inr (by have := s.fresh k hk; omega))

theorem Cx.ms_succ (c : Cx) (d0 k : Nat) : c.ms d0 (k + 1) 0 = c.ms d0 k 0 ++ [c.raw (d0 + k)] := by
  simp [Cx.ms, List.range_succ]

set_option maxRecDepth 100000 in
set_option maxHeartbeats 3200000 in
theorem forward_all (b gl gf cl cf : Nat) (tv : Value) (c : Cx) (m : Msg) (seq rel : Int) (w : World) (hc : c.Ok) (hm : c.m = relayMsg m c.n (wrap64 (rel + 1))) (hp : (m.prim == 2) = false)
    (hbl : b ≠ gl) (hbf : b ≠ gf) (hlf : gl ≠ gf)
    (hN : Blk w b (netCells c.n c.now (.slice none 0 0) seq (.slice (some ⟨gl, 0, none⟩) (c.n + 1) cl) tv (.slice (some ⟨gf, 0, none⟩) c.n cf) c.tr rel (.slice none 0 0)) 59)
    (hL : Blk w gl (ints c.loads) 2) (hF : Blk w gf (ints c.fr) 54) :
    Calls Try.prog 28 #[.pointer (some ⟨b, 0, none⟩), aggOf m] w fun e w' => e = .returned (.tuple #[]) ∧ FwdPost b gl gf cl cf tv c 0 c.n seq (wrap64 (rel + 1)) w w' := by
  have hcb := hN.cell
  have hfb := hN.frozen
  have hbw := hN.lt
  unfold netCells at hcb
  obtain ⟨BL, hBL⟩ : ∃ BL : List Value, BL = msgCells m := ⟨_, rfl⟩
  have hN1 : Blk ((w.setCell ⟨b, 8, none⟩ (.int .i64 (wrap64 (rel + 1)))).alloc (.cells BL.toArray 64)) b (netCells c.n c.now (.slice none 0 0) seq (.slice (some ⟨gl, 0, none⟩) (c.n + 1) cl) tv (.slice (some ⟨gf, 0, none⟩) c.n cf) c.tr (wrap64 (rel + 1)) (.slice none 0 0)) 59 := (hN.set 8 (.int .i64 (wrap64 (rel + 1)))).alloc _
  have hL1 : Blk ((w.setCell ⟨b, 8, none⟩ (.int .i64 (wrap64 (rel + 1)))).alloc (.cells BL.toArray 64)) gl (ints c.loads) 2 := (hL.setOther hbl _).alloc _
  have hF1 : Blk ((w.setCell ⟨b, 8, none⟩ (.int .i64 (wrap64 (rel + 1)))).alloc (.cells BL.toArray 64)) gf (ints c.fr) 54 := (hF.setOther hbf _).alloc _
  have hX1 := Blk.new (w.setCell ⟨b, 8, none⟩ (.int .i64 (wrap64 (rel + 1)))) BL 64
  rw [World.size_setCell] at hX1
  have hK1 : Kept (fun k => k = b ∨ k = gl ∨ k = gf) w ((w.setCell ⟨b, 8, none⟩ (.int .i64 (wrap64 (rel + 1)))).alloc (.cells BL.toArray 64)) := ((Kept.refl _ w).setCell (.inl (.inl rfl)) _).alloc _
  rw [hBL] at hN1 hL1 hF1 hX1 hK1
  unfold msgCells at hN1 hL1 hF1 hX1 hK1
  have HN1 := hide2 hN1
  have HL1 := hide2 hL1
  have HF1 := hide2 hF1
  have HX1 := hide2 hX1
  have HK1 := hide2 hK1
  clear hN1 hL1 hF1 hX1 hK1 hBL
  unfold aggOf msgCells
  go_enter Try.func28, Try.ntmps28
  go_wp2
  generalize (w.setCell ⟨b, 8, none⟩ (.int .i64 (wrap64 (rel + 1)))).alloc _ = W at *
  clear hcb hfb
  have hcb : ∀ i, W.cell? ⟨b, i, none⟩ = _ := HN1.out.cell
  unfold netCells at hcb
  have hcX := HX1.out.cell
  have hfX := HX1.out.frozen
  have hHb : ¬ w.heap.size = b := by omega
  have hHb' : ¬ b = w.heap.size := by omega
  go_region_held3 (fun w' => w'.cell? ⟨b, 0, none⟩ = some (.int .i64 c.n) ∧ w'.cell? ⟨b, 8, none⟩ = some (.int .i64 (wrap64 (rel + 1)))) (go_keep) (fail)
  go_wp2
  obtain ⟨i0, hi0, hz0, hz1, hz2⟩ := info_parts Try.info64z
  have HFS : Hid (FS b gl gf w.heap.size (netCells c.n c.now (.slice none 0 0) seq (.slice (some ⟨gl, 0, none⟩) (c.n + 1) cl) tv (.slice (some ⟨gf, 0, none⟩) c.n cf) c.tr (wrap64 (rel + 1)) (.slice none 0 0)) c.loads c.fr (relayMsg m c.n (wrap64 (rel + 1))) w
      ((W.setCell ⟨w.heap.size, 3, none⟩ (.int .i64 c.n)).setCell ⟨w.heap.size, 13, none⟩ (.int .i64 (wrap64 (rel + 1)))).drew (.slice none 0 0) (c.ms 0 0 0)) := by
    have hlw := hL.lt
    have hfw := hF.lt
    have n1 : w.heap.size ≠ b := by omega
    have n2 : w.heap.size ≠ gl := by omega
    have n3 : w.heap.size ≠ gf := by omega
    exact ⟨((HN1.out.setOther (p := ⟨w.heap.size, 3, none⟩) n1 _).setOther (p := ⟨w.heap.size, 13, none⟩) n1 _).drew, ((HL1.out.setOther (p := ⟨w.heap.size, 3, none⟩) n2 _).setOther (p := ⟨w.heap.size, 13, none⟩) n2 _).drew, ((HF1.out.setOther (p := ⟨w.heap.size, 3, none⟩) n3 _).setOther (p := ⟨w.heap.size, 13, none⟩) n3 _).drew, ((HX1.out.set 3 _).set 13 _).drew, World.ownsRow_nil _ 0 64 15, fun g hg => (by cases hg), ((HK1.out.setCell (p := ⟨w.heap.size, 3, none⟩) (.inr (Nat.le_refl _)) _).setCell (p := ⟨w.heap.size, 13, none⟩) (.inr (Nat.le_refl _)) _).drew⟩
  generalize ((W.setCell ⟨w.heap.size, 3, none⟩ (.int .i64 c.n)).setCell ⟨w.heap.size, 13, none⟩ (.int .i64 (wrap64 (rel + 1)))).drew = W2 at *
  have hlw := hL.lt
  have hfw := hF.lt
  have hn2 := hc.n2
  clear hcb hcX hfX HN1 HL1 HF1 HX1 HK1 hN hL hF BL hp W
  have Hm := hide2 hm
  clear hm
  go_loopw [4, 41] (fun v0 i wr => ∃ (k : Nat) (bx : Msg) (v : Value), v0 = v ∧ k ≤ c.n ∧ i = .int .i64 k ∧ (∃ y, bx = { relayMsg m c.n (wrap64 (rel + 1)) with dst := y }) ∧ FS b gl gf w.heap.size (netCells c.n c.now (.slice none 0 0) seq (.slice (some ⟨gl, 0, none⟩) (c.n + 1) cl) tv (.slice (some ⟨gf, 0, none⟩) c.n cf) c.tr (wrap64 (rel + 1)) (.slice none 0 0)) c.loads c.fr bx w wr v (c.ms 0 k 0)) (fun _ i _ => c.n - (intOf i).toNat)
  case atStart => exact ⟨0, _, _, rfl, Nat.zero_le _, rfl, ⟨m.dst, rfl⟩, HFS.out⟩
  case round =>
    clear HFS
    obtain ⟨k, bx, v, rfl, hk, rfl, ⟨y, hbx⟩, hs⟩ := hrel
    by_cases hlt : k < c.n
    · have hcX := hs.box.cell
      have hfX := hs.box.frozen
      have hXl := hs.box.lt
      rw [hbx] at hcX
      unfold msgCells relayMsg at hcX
      have HS := hide2 hs
      have hkl := c.ms_length 0 k 0
      have hown := hs.own
      rw [hkl] at hown
      have hownB : (wr.setCell ⟨w.heap.size, 4, none⟩ (.int .i64 k)).ownsRow 0 64 15 u4 k (flat (c.ms 0 k 0)) := ownsRow_set (p := ⟨w.heap.size, 4, none⟩) hown (fun e => Nat.lt_irrefl _ (hs.fresh _ e)) _
      have HO := hide2 hownB
      have Hkl := hide2 hkl
      have Hbx := hide2 hbx
      clear hs hown hownB hkl hbx
      go_wp2_with (at_builtin; refine wpList_append_lies _ rfl (.tmp 46) (.tmp 48) 57 rfl 0 64 i0 _ 15 112 Try.underlying57 hi0 hz0 hz1 hz2 rfl (by omega) u4 k (flat (c.ms 0 k 0)) rfl (HO.out.alloc _) ⟨wr.heap.size, 0, none⟩ 1 1 (msgCells (c.raw k)) rfl rfl ?c1 (msgCells_one _) (by omega) ?c3 ?c4 (Nat.zero_le _) (wr.heap.size + 1) ?c6 ?_)
      case c1 =>
        have hraw : c.raw k = { relayMsg m c.n (wrap64 (rel + 1)) with dst := (k : Int) } := by rw [Cx.raw, Hm.out]
        rw [hraw]
        exact fun j u hu => hu
      case c3 => unfold maxLen; omega
      case c4 => omega
      intro g cap w1 hown1 hgrow hat hlt1
      have hFS := FS.next (k : Int) (c.raw k) _ (by rw [Cx.raw, Hm.out, Hbx.out]) HS.out hbw hlw hfw (Nat.le_refl _) (by rw [Hkl.out]; exact hown1) hgrow hat rfl
      rw [Hkl.out] at hFS
      have hms := c.ms_succ 0 k
      rw [Nat.zero_add] at hms
      rw [← hms] at hFS
      have HN := hide2 hFS
      clear hFS hms hown1 hgrow hat hlt1 HS HO hcX hfX hXl
      go_wp2
      go_roundw
      case rel => exact ⟨k + 1, c.raw k, _, rfl, by omega, by go_num, ⟨k, by rw [Cx.raw, Hm.out]⟩, HN.out⟩
      case measure => simp [intOf]; omega
    · have e : k = c.n := by omega
      subst e
      have hkl := c.ms_length 0 c.n 0
      obtain ⟨g, cap, cs, hrow⟩ := Row.of hs.own (by rw [hkl]; exact hc.n1)
      have hv := hrow.val
      rw [hkl] at hv
      have hgH : w.heap.size < g := hs.fresh g (by rw [hv]; rfl)
      have hcb := hs.net.cell
      have hfb := hs.net.frozen
      unfold netCells at hcb
      have HS := hide2 hs
      have Hrow := hide2 hrow
      have Hkl := hide2 hkl
      rw [hv]
      rw [hv] at Hrow
      clear hs hrow hkl hv
      go_wp2_with fail
      have hB1 : Blk (wr.setCell ⟨b, 10, none⟩ (.slice (some ⟨g, 0, none⟩) c.n cap)) b (netCells c.n c.now (.slice none 0 0) seq (.slice (some ⟨gl, 0, none⟩) (c.n + 1) cl) tv (.slice (some ⟨gf, 0, none⟩) c.n cf) c.tr (wrap64 (rel + 1)) (.slice (some ⟨g, 0, none⟩) c.n cap)) 59 := HS.out.net.set 10 _
      have hB2 : Blk (wr.setCell ⟨b, 10, none⟩ (.slice (some ⟨g, 0, none⟩) c.n cap)) gl (ints c.loads) 2 := HS.out.lds.setOther hbl _
      have hB3 : Blk (wr.setCell ⟨b, 10, none⟩ (.slice (some ⟨g, 0, none⟩) c.n cap)) gf (ints c.fr) 54 := HS.out.frs.setOther hbf _
      have hB4 : Row (wr.setCell ⟨b, 10, none⟩ (.slice (some ⟨g, 0, none⟩) c.n cap)) (.slice (some ⟨g, 0, none⟩) (c.ms 0 c.n 0).length cap) g cap cs (c.ms 0 c.n 0) := by
        rw [Hkl.out]; exact Hrow.out.setOther (p := ⟨b, 10, none⟩) (by show b ≠ g; omega) _
      have hK1 : Kept (fun k => k = b ∨ k = gl ∨ k = gf) w (wr.setCell ⟨b, 10, none⟩ (.slice (some ⟨g, 0, none⟩) c.n cap)) := HS.out.kept.setCell (.inl (.inl rfl)) _
      generalize wr.setCell ⟨b, 10, none⟩ (.slice (some ⟨g, 0, none⟩) c.n cap) = W3 at *
      clear hcb hfb HS Hrow
      have hgW := hB4.blk.lt
      refine (sendBatch_any { b := b, gl := gl, gf := gf, gb := g, cl := cl, cf := cf, capb := cap, seq := seq, rel := wrap64 (rel + 1), qv := .slice none 0 0, tv := tv, sv := .slice (some ⟨g, 0, none⟩) c.n cap, c := c } 0 c.n W3 hc ⟨hbl, hbf, by show b ≠ g; omega, hlf, by show gl ≠ g; omega, by show gf ≠ g; omega⟩ (by show 0 + c.n ≤ c.n; omega) ⟨hB1.lt, hB2.lt, hB3.lt, hgW⟩ rfl ⟨hB1, hB2, hB3, ⟨cs, hB4⟩, Kept.refl _ _⟩).mono ?_
      rintro e w' ⟨rfl, qv, hs2⟩
      have HS2 := hide2 hs2
      clear hs2 hB1 hB2 hB3 hB4
      go_wp2_with fail
      go_end0
      refine ⟨rfl, qv, _, HS2.out.net, HS2.out.lds, HS2.out.frs, ?_, fun q hq => Nat.le_trans hK1.size (HS2.out.fresh q hq), ?_⟩
      · have := HS2.out.que
        rw [Cx.heapA_length] at this; exact this
      · refine ⟨HS2.out.kept.os.trans hK1.os, HS2.out.kept.tape.trans hK1.tape, HS2.out.kept.output.trans hK1.output, Nat.le_trans hK1.size HS2.out.kept.size, fun q hq hn => ?_⟩
        rw [HS2.out.kept.block q (Nat.lt_of_lt_of_le hq hK1.size) (fun hh => ?_)]
        · exact hK1.block q hq hn
        · rcases hh with hh | hh | hh | hh
          · exact hn (.inl hh)
          · exact hn (.inr (.inl hh))
          · exact hn (.inr (.inr hh))
          · have h5 : q = g := hh
            omega

end Go.Proofs.Qxb6612705a
