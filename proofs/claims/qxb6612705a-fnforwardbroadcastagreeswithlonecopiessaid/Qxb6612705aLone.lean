import Derived.Test.Qxb6612705aZFwd
namespace Go.Proofs.Qxb6612705a
open Go.RowKit
open Fl

/-- The batch of one, laid. -/
def OneLaid (b gl gf cl cf : Nat) (tv : Value) (c : Cx) (m : Msg) (seq rel : Int) (w w2 : World) : Prop :=
  ∃ g cap cs, Row w2 (.slice (some ⟨g, 0, none⟩) 1 cap) g cap cs [m] ∧
    Blk w2 b (netCells c.n c.now (.slice none 0 0) seq (.slice (some ⟨gl, 0, none⟩) (c.n + 1) cl) tv (.slice (some ⟨gf, 0, none⟩) c.n cf) c.tr rel (.slice (some ⟨g, 0, none⟩) 1 cap)) 59 ∧
    Blk w2 gl (ints c.loads) 2 ∧ Blk w2 gf (ints c.fr) 54 ∧ w.heap.size ≤ g ∧ Kept (fun k => k = b) w w2

theorem oneLaid_of {b gl gf cl cf : Nat} {tv : Value} {c : Cx} {m : Msg} {seq rel : Int} {w W w1 : World} {g cap H : Nat} {o : Obj}
    (hbl : b ≠ gl) (hbf : b ≠ gf)
    (hB : Blk W b (netCells c.n c.now (.slice none 0 0) seq (.slice (some ⟨gl, 0, none⟩) (c.n + 1) cl) tv (.slice (some ⟨gf, 0, none⟩) c.n cf) c.tr rel (.slice none 0 0)) 59)
    (hL : Blk W gl (ints c.loads) 2) (hF : Blk W gf (ints c.fr) 54) (hK : Kept (fun k => k = b) w W) (hb : b < w.heap.size) (hH : w.heap.size ≤ H)
    (hown : w1.ownsRow 0 64 15 (.slice (some ⟨g, 0, none⟩) (0 + 1) cap) (0 + 1) (flat [] ++ msgCells m)) (hg : ((W.alloc o).drew).grownBy w1 (Value.slice none 0 0).ownBlock) (hat : (Value.slice none 0 0).ownBlock = some g ∨ g = H) :
    OneLaid b gl gf cl cf tv c m seq rel w (w1.setCell ⟨b, 10, none⟩ (.slice (some ⟨g, 0, none⟩) 1 cap)) := by
  have hne : ∀ k, (Value.slice none 0 0).ownBlock ≠ some k := fun k e => by cases e
  have hgH : g = H := by
    rcases hat with hat | hat
    · exact absurd hat (hne g)
    · exact hat
  have K3 : Kept (fun k => k = b) w w1 := ((hK.alloc _).drew).grown hg (fun k hk => absurd hk.symm (by intro e; cases e))
  have hown2 : w1.ownsRow 0 64 15 (.slice (some ⟨g, 0, none⟩) 1 cap) [m].length (flat [m]) := by
    rw [flat_single]; exact hown
  obtain ⟨cs, hR1⟩ : ∃ cs, Row w1 (.slice (some ⟨g, 0, none⟩) 1 cap) g cap cs [m] := by
    obtain ⟨g', cap', cs, hR⟩ := Row.of hown2 (by simp)
    have hv := hR.val
    simp only [Value.slice.injEq, Option.some.injEq, Addr.mk.injEq] at hv
    obtain ⟨⟨rfl, _⟩, _, rfl⟩ := hv
    exact ⟨cs, hR⟩
  refine ⟨g, cap, cs, hR1.setOther (p := ⟨b, 10, none⟩) (show b ≠ g by omega) _, ?_, ?_, ?_, by omega, K3.setCell (p := ⟨b, 10, none⟩) (.inl rfl) _⟩
  · exact (blk_grown hB hg (hne b)).set 10 _
  · exact (blk_grown hL hg (hne gl)).setOther (p := ⟨b, 10, none⟩) hbl _
  · exact (blk_grown hF hg (hne gf)).setOther (p := ⟨b, 10, none⟩) hbf _

set_option maxRecDepth 100000 in
set_option maxHeartbeats 1600000 in
theorem send_any (b gl gf cl cf : Nat) (tv : Value) (c : Cx) (m : Msg) (d : Nat) (seq rel : Int) (w : World) (hc : c.Ok) (hm : c.raw d = m) (hd : d < c.n)
    (hbl : b ≠ gl) (hbf : b ≠ gf) (hlf : gl ≠ gf)
    (hN : Blk w b (netCells c.n c.now (.slice none 0 0) seq (.slice (some ⟨gl, 0, none⟩) (c.n + 1) cl) tv (.slice (some ⟨gf, 0, none⟩) c.n cf) c.tr rel (.slice none 0 0)) 59)
    (hL : Blk w gl (ints c.loads) 2) (hF : Blk w gf (ints c.fr) 54) :
    Calls Try.prog 33 #[.pointer (some ⟨b, 0, none⟩), aggOf m] w fun e w' => e = .returned (.tuple #[]) ∧ FwdPost b gl gf cl cf tv c d 1 seq rel w w' := by
  obtain ⟨i0, hi0, hz0, hz1, hz2⟩ := info_parts Try.info64z
  have hcb := hN.cell
  have hfb := hN.frozen
  have hbw := hN.lt
  have hlw := hL.lt
  have hfw := hF.lt
  unfold netCells at hcb
  have HA : Hid (Value.agg #[.int .i64 m.tat, .int .i64 m.sent, .int .u64 m.seq, .int .i64 m.src, .int .i64 m.dst, .int .u8 m.prim, .int .u8 m.kind, .int .i64 m.origin, .int .i64 m.dest, .int .i64 m.value, .int .i64 m.writer, .int .i64 m.counter, .int .i64 m.load, .int .i64 m.rord, .int .i64 m.oord] = aggOf m) := rfl
  have HW : Hid (w.alloc (.cells #[.int .i64 m.tat, .int .i64 m.sent, .int .u64 m.seq, .int .i64 m.src, .int .i64 m.dst, .int .u8 m.prim, .int .u8 m.kind, .int .i64 m.origin, .int .i64 m.dest, .int .i64 m.value, .int .i64 m.writer, .int .i64 m.counter, .int .i64 m.load, .int .i64 m.rord, .int .i64 m.oord] 64) = w.alloc (.cells (msgCells m).toArray 64)) := rfl
  rw [← HA.out]
  have hX := Blk.new w (msgCells m) 64
  have hsz : (w.alloc (.cells (msgCells m).toArray 64)).heap.size = w.heap.size + 1 := by simp
  have HN := hide2 (hN.alloc (.cells (msgCells m).toArray 64))
  have HL := hide2 (hL.alloc (.cells (msgCells m).toArray 64))
  have HF := hide2 (hF.alloc (.cells (msgCells m).toArray 64))
  have HK : Hid (Kept (fun k => k = b) w (w.alloc (.cells (msgCells m).toArray 64))) := (Kept.refl _ w).alloc _
  have Hm := hide2 hm
  clear hN hL hF hm
  go_enter Try.func33, Try.ntmps33
  go_wp2_with fail
  rw [HW.out]
  generalize w.alloc (.cells (msgCells m).toArray 64) = W at *
  clear HW HA hcb hfb
  have hcb : W.cell? ⟨b, 10, none⟩ = some (.slice none 0 0) := by rw [HN.out.cell]; rfl
  have hfb := HN.out.frozen 10
  have hbW := HN.out.lt
  have hcX := hX.cell
  unfold msgCells at hcX
  have hXl := hX.lt
  go_cut [] from 4 to 14 (fun w2 => OneLaid b gl gf cl cf tv c m seq rel w w2)
  case first =>
    go_region_law ((refine step_append_lies _ (by rfl) (.tmp 9) (.tmp 11) 57 (by rfl) 0 64 i0 _ 15 112 Try.underlying57 hi0 hz0 hz1 hz2 rfl (by omega) (.slice none 0 0) 0 (flat []) (by rfl) (World.ownsRow_nil _ 0 64 15) ⟨w.heap.size + 1, 0, none⟩ 1 1 (msgCells m) (by rfl) (by rfl) (World.news_of_block (cs := (msgCells m).toArray) (t := 64) (fr := (0, 0)) (by rw [← hsz]; exact heap_alloc_new W _)) (msgCells_one m) (by omega) (by unfold maxLen; omega) (by omega) (Nat.zero_le _) (w.heap.size + 2) (by simp [hsz]) ?_; intro g cap w1 hown1 hgrow hat hlt; have hcg := (blk_grown HN.out hgrow (fun e => by cases e)).cell; have hfg := (blk_grown HN.out hgrow (fun e => by cases e)).frozen; unfold netCells at hcg))
    all_goals (go_wp2_with fail; go_meet; exact oneLaid_of hbl hbf HN.out HL.out HF.out HK.out hbw (by omega) hown1 hgrow hat)
  case rest =>
    clear HN HL HF HK hX hcX hXl hcb hfb hbW hsz hi0 hz0 hz1 hz2
    obtain ⟨g, cap, cs, hR, hB, hL, hF, hgw, hK⟩ := hcut
    have hcb : wc.cell? ⟨b, 10, none⟩ = some (.slice (some ⟨g, 0, none⟩) 1 cap) := by rw [hB.cell]; rfl
    have hbc := hB.lt
    have hms : c.ms d 1 0 = [m] := by rw [← Hm.out]; simp [Cx.ms]
    have hR' : Row wc (.slice (some ⟨g, 0, none⟩) (c.ms d 1 0).length cap) g cap cs (c.ms d 1 0) := by rw [hms]; exact hR
    have HS := hide2 (sendBatch_any { b := b, gl := gl, gf := gf, gb := g, cl := cl, cf := cf, capb := cap, seq := seq, rel := rel, qv := .slice none 0 0, tv := tv, sv := .slice (some ⟨g, 0, none⟩) 1 cap, c := c } d 1 wc hc ⟨hbl, hbf, by show b ≠ g; omega, hlf, by show gl ≠ g; omega, by show gf ≠ g; omega⟩ (by show d + 1 ≤ c.n; omega) ⟨hB.lt, hL.lt, hF.lt, hR.blk.lt⟩ rfl ⟨hB, hL, hF, ⟨cs, hR'⟩, Kept.refl _ _⟩)
    have HK := hide2 hK
    clear hR hR' hB hL hF hK hms
    go_wp2_with fail
    refine HS.out.mono ?_
    rintro e w' ⟨rfl, qv, hs2⟩
    have HS2 := hide2 hs2
    clear hs2 HS
    go_wp2_with fail
    go_end0
    refine ⟨rfl, qv, _, HS2.out.net, HS2.out.lds, HS2.out.frs, ?_, fun q hq => Nat.le_trans HK.out.size (HS2.out.fresh q hq), ?_⟩
    · have := HS2.out.que
      rw [Cx.heapA_length] at this; exact this
    · refine ⟨HS2.out.kept.os.trans HK.out.os, HS2.out.kept.tape.trans HK.out.tape, HS2.out.kept.output.trans HK.out.output, Nat.le_trans HK.out.size HS2.out.kept.size, fun q hq hn => ?_⟩
      rw [HS2.out.kept.block q (Nat.lt_of_lt_of_le hq HK.out.size) (fun hh => ?_)]
      · exact HK.out.block q hq (fun e => hn (.inl e))
      · rcases hh with hh | hh | hh | hh
        · exact hn (.inl hh)
        · exact hn (.inr (.inl hh))
        · exact hn (.inr (.inr hh))
        · have h5 : q = g := hh
          omega

end Go.Proofs.Qxb6612705a
