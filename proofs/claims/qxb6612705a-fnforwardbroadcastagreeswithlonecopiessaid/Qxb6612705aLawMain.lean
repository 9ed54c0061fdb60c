import Derived.Test.Qxb6612705aLawHead
import Derived.Test.Qxb6612705aLawAid
import Derived.Test.Qxb6612705aReg23
import Derived.Test.Qxb6612705aReg50
import Derived.Test.Qxb6612705aReg60
import Derived.Test.Qxb6612705aReg62
import Derived.Test.Qxb6612705aReg76
namespace Go.Proofs.Qxb6612705a
open Go.RowKit
open Fl

theorem Kept.after2 {S T : Nat → Prop} {w w4 w5 : World} (h : Kept S w w4) (k : Kept T w4 w5) (hT : ∀ i, i < w.heap.size → ¬ T i) : Kept S w w5 :=
  ⟨k.os.trans h.os, k.tape.trans h.tape, k.output.trans h.output, Nat.le_trans h.size k.size, fun i hi hs => (k.block i (Nat.lt_of_lt_of_le hi h.size) (hT i hi)).trans (h.block i hi hs)⟩

theorem heapA_one (c : Cx) (d0 : Nat) (s : Int) : c.heapA d0 s 1 = [c.qm d0 s 0] := rfl

/-- The network of the lone copy: the same as the broadcast's, but for the message. -/
def Cx.lone (c : Cx) (m : FM) (k : Nat) (r : Int) : Cx := { c with m := relayMsg (fmMsg { m with prim := 2, dest := (k : Int) }) c.n r }
theorem Cx.Ok.lone {c : Cx} (h : c.Ok) (m : FM) (k : Nat) (r : Int) : (c.lone m k r).Ok := ⟨h.1, h.2, h.3, h.4, h.5, h.6, h.7, h.8, h.9, rfl⟩
set_option maxRecDepth 100000 in
theorem Cx.lone_qm (c : Cx) (m : FM) (k : Nat) (s r : Int) : (c.lone m k r).qm k s 0 = carried { m with prim := 2, dest := (k : Int) } (c.arr k) c.now (seqA s 1) c.n k (c.load k) r := by
  unfold Cx.qm Cx.msg carried
  rw [Nat.add_zero]
  have ha : (c.lone m k r).arr k = c.arr k := by unfold Cx.arr Cx.fr0 Cx.del Cx.ld0 Cx.lone; rfl
  have hl : (c.lone m k r).load k = c.load k := by unfold Cx.load; rw [ha]; rfl
  rw [ha, hl, Nat.zero_add]; rfl

set_option maxRecDepth 100000 in
set_option maxHeartbeats 20000000 in
theorem law_main (n : Nat) (now seq rel : Int) (tr : Nat) (bl ol cl bf of cf : Nat) (ll lf : List Int) (m : FM) (w : World)
    (h1 : 1 ≤ n) (h2 : n ≤ 512) (h3 : 0 ≤ now) (h4 : now ≤ 4611686018427387904)
    (h5 : (FloatKind.f64.format.order tr 0 == some .gt || FloatKind.f64.format.order tr 0 == some .eq) = true) (h6 : (FloatKind.f64.format.order tr 4607182418800017408 == some .lt || FloatKind.f64.format.order tr 4607182418800017408 == some .eq) = true) (ht : TrOk tr)
    (hp0 : 0 ≤ m.prim) (hp1 : m.prim ≤ 1) (hs0 : 0 ≤ seq) (hs1 : seq < 18446744073709551616)
    (hll : ll.length = n + 1) (hlf : lf.length = n) (hlb : ∀ j, ll.getD j 0 < 9223372036854775808) (hfb : ∀ j, lf.getD j 0 < 9223372036854775808)
    (hblw : bl < w.heap.size) (hbfw : bf < w.heap.size)
    (hcl : ∀ i, i < n + 1 → w.cell? ⟨bl, ol + i, none⟩ = some (.int .i64 (ll.getD i 0)))
    (hcf : ∀ i, i < n → w.cell? ⟨bf, of + i, none⟩ = some (.int .i64 (lf.getD i 0))) :
    Calls Try.prog 3 #[.int .i64 now, .int .u64 seq, .int .i64 rel, .float .f64 tr, .slice (some ⟨bl, ol, none⟩) (n + 1) cl, .slice (some ⟨bf, of, none⟩) n cf, fmAgg m] w fun e w' => e = .returned (.bool true) ∧ Below w.heap.size w w' := by
  have HFM : Hid (fmAgg m = .agg #[.int .u8 m.prim, .int .u8 m.kind, .int .i64 m.origin, .int .i64 m.dest, .int .i64 m.value, .int .i64 m.writer, .int .i64 m.counter, .int .i64 m.oord]) := rfl
  have hX := Blk.new w (fmCells m) 26
  have hK0 : New w (w.alloc (.cells (fmCells m).toArray 26)) := (Kept.refl _ w).alloc _
  unfold fmCells at hX hK0
  rw [HFM.out]
  have HCL := hide2 hcl
  have HCF := hide2 hcf
  have Hll := hide2 hll
  have Hlf := hide2 hlf
  have Hlb := hide2 hlb
  have Hfb := hide2 hfb
  clear hcl hcf hll hlf hlb hfb
  go_enter Try.func3, Try.ntmps3
  go_wp2_with fail
  generalize w.alloc _ = W at *
  refine (bytes_any now seq rel tr _ _ (n + 1) cl n cf m _).mono ?_
  rintro e w1 ⟨he, hnew⟩
  have HX1 := hide2 (hX.kept hnew (fun e => e))
  have HK1 : Hid (New w w1) := hK0.trans hnew
  have HCL1 : Hid (∀ i, i < n + 1 → w1.cell? ⟨bl, ol + i, none⟩ = some (.int .i64 (ll.getD i 0))) := fun i hi => by
    rw [World.cell?_of_block (w := w) (HK1.out.block bl hblw (fun e => e))]; exact HCL.out i hi
  have HCF1 : Hid (∀ i, i < n → w1.cell? ⟨bf, of + i, none⟩ = some (.int .i64 (lf.getD i 0))) := fun i hi => by
    rw [World.cell?_of_block (w := w) (HK1.out.block bf hbfw (fun e => e))]; exact HCF.out i hi
  have hcX := HX1.out.cell
  have hXl := HX1.out.lt
  clear hX hK0 hnew HCL HCF
  have i1 : ¬ (513 : Int) < ((n + 1 : Nat) : Int) := by omega
  have i2 : ¬ (512 : Int) < (n : Int) := by omega
  have i3 : ¬ ((n + 1 : Nat) : Int) < 2 := by omega
  have i4 : ¬ now < 0 := by omega
  have i5 : ¬ 4611686018427387904 < now := by omega
  have i6 : ¬ 1 < m.prim := by omega
  have ew : IntKind.i64.wrap (((n + 1 : Nat) : Int) - 1) = (n : Int) := by rw [IntKind.wrap_i64]; omega
  have ew2 : wrap64 (((n + 1 : Nat) : Int) - 1) = (n : Int) := by unfold wrap64; omega
  have ew3 : (((n + 1 : Nat) : Int) - 1) = (n : Int) := by omega
  rcases he with rfl | rfl
  · go_wp2_with fail
    go_ret
    exact ⟨rfl, HK1.out.below (Nat.le_refl _) (fun _ _ e => e)⟩
  go_wp2_with fail
  clear i1 i2 i3 i4 i5 i6 h5 h6 hcX ew ew2 ew3
  go_loopw [15] (fun i wr => ∃ k : Nat, k ≤ n + 1 ∧ i = .int .i64 k ∧ w1 = wr ∧ ∀ j, j < k → 0 ≤ ll.getD j 0) (fun i _ => n + 1 - (intOf i).toNat)
  case atStart => exact ⟨0, Nat.zero_le _, rfl, rfl, fun j hj => absurd hj (Nat.not_lt_zero _)⟩
  case round =>
    obtain ⟨k, hk, rfl, hw, hpos⟩ := hrel
    subst hw
    have Hpos := hide2 hpos
    clear hpos
    by_cases hlt : (k : Int) < (n : Int) + 1
    · have c := HCL1.out k (by omega)
      obtain ⟨x, hx⟩ : ∃ x, x = ll.getD k 0 := ⟨_, rfl⟩
      rw [← hx] at c
      have Hx := hide2 hx
      clear hx
      by_cases hneg : x < 0
      · go_wp2_with fail
        go_ret
        exact ⟨rfl, HK1.out.below (Nat.le_refl _) (fun _ _ e => e)⟩
      · go_wp2_with fail
        go_roundw
        case rel => exact ⟨k + 1, by omega, by go_num, by trivial, fun j hj => by
          rcases Nat.lt_or_ge j k with h | h
          · exact Hpos.out j h
          · obtain rfl : j = k := by omega
            rw [← Hx.out]; omega⟩
        case measure => simp [intOf]; omega
    · have e : k = n + 1 := by omega
      subst e
      have HP : Hid (∀ j, 0 ≤ ll.getD j 0) := fun j => by
        rcases Nat.lt_or_ge j (n + 1) with h | h
        · exact Hpos.out j h
        · rw [List.getD, List.getElem?_eq_none (by rw [Hll.out]; exact h)]; exact Int.le_refl 0
      clear Hpos hlt hk
      go_wp2_with fail
      refine (clone_any bl ol (n + 1) cl ll w1 Hll.out (by omega) (by omega) (Nat.lt_of_lt_of_le hblw HK1.out.size) HCL1.out).mono ?_
      rintro e w' ⟨rfl, rfl⟩
      go_wp2_with fail
      have hbf1 := Nat.lt_of_lt_of_le hbfw HK1.out.size
      refine (clone_any bf of n cf lf _ Hlf.out h1 (by omega) (by simp; omega) (fun i hi => by rw [World.cell?_alloc_past _ _ _ hbf1]; exact HCF1.out i hi)).mono ?_
      rintro e w' ⟨rfl, rfl⟩
      have HX2 := hide2 ((HX1.out.alloc (.cells (ints ll).toArray 2)).alloc (.cells (ints lf).toArray 2))
      have HK2 : Hid (New w ((w1.alloc (.cells (ints ll).toArray 2)).alloc (.cells (ints lf).toArray 2))) := (HK1.out.alloc _).alloc _
      have HGL := hide2 ((Blk.new w1 (ints ll) 2).alloc (.cells (ints lf).toArray 2))
      have HGF := hide2 (blk_eq (g' := w1.heap.size + 1) (Blk.new (w1.alloc (.cells (ints ll).toArray 2)) (ints lf) 2) (by simp))
      have hge : w.heap.size < w1.heap.size := hXl
      have hsz : (w1.alloc (.cells (ints ll).toArray 2)).heap.size = w1.heap.size + 1 := by simp
      rw [hsz]
      generalize (w1.alloc (.cells (ints ll).toArray 2)).alloc (.cells (ints lf).toArray 2) = W2 at *
      generalize w1.heap.size = g0 at *
      clear hsz HX1 HK1 HCL1 HCF1 hXl hbf1
      have hg01 : g0 < g0 + 1 := by omega
      generalize g0 + 1 = g1 at *
      have ew : IntKind.i64.wrap (((n + 1 : Nat) : Int) - 1) = (n : Int) := by rw [IntKind.wrap_i64]; omega
      go_wp2_with fail
      clear ew
      refine reg23 _ _ W2 n now seq rel tr ll lf g0 g1 h1 h2 hg01 Hll.out Hlf.out HGL.out HGF.out _ _ _ _ _ _ _ _ _ _ _ _ _ _ _ _ _ _ _ _ _ _ _ _ _ _ _ _ _ _ _ _ _ _ _ _ _ _ _ _ _ _ _ _ _ _ _ _ _ _ _ _ _ _ _ _ _ _ _ _ _ _ _ _ _ _ _ _ _ _ _ _ _ _ _ _ _ _ _ _ _ _ _ _ _ _ _ _ _ _ _ _ _ _ _ _ _ _ _ _ _ _ _ _ _ _ _ _ _ _ _ _ _ _ _ _ _ _ _ _ _ _ _ _ _ _ _ _ _ _ _ _ _ _ _ _ _ _ _ _ _ _ _ _ _ _ _ _ _ _ _ _ _ _ _ _ _ _ _ _ _ _ _ _ _ _ _ _ _ _ _ _ _ _ _ _ _ _ _ _ _ _ _ _ _ _ _ _ _ _ _ _ _ _ _ _ _ _ _ _ _ _ _ _ _ _ _ _ _ _ _ _ _ _ _ _ _ _ _ _ _ _ _ _ _ _ _ _ _ _ _ _ _ _ _ _ _ _ _ _ _ _ _ _ _ _ _ _ _ _ _ _ _ _ _ _ _ _ _ _ _ _ _ _ _ _ _ _ _ _ _ _ _ _ _ _ _ _ _ _ _ _ _ _ _ _ _ _ _ _ _ _ _ _ _ _ _ _ _ _ _ _ _ _ _ _ _ _ _ _ _ _ _ _ _ _ _ _ _ _ _ _ _ _ _ _ _ _ _ _ _ _ _ _ _ _ _ _ _ _ _ _ _ _ _ _ _ _ _ _ _ _ _ _ _ _ _ _ _ _ _ _ _ _ _ _ _ _ _ _ _ _ _ _ _ _ _ _ _ _ _ _ _ _ _ _ _ _ _ _ _ ?rest
      case rest =>
        intro y96 y97 y98 y99 y100 y101 y102 y103 y104 y105 y106 y107 y17 wc hcut
        obtain ⟨b, gl, gt, gf, rfl, hN, hL, hT, hF, hbl, hbf, hlf', htb, htl, htf, sb, sl, st, sf, hK3⟩ := hcut
        have hsz2 := HK2.out.size
        have hg0 := HGL.out.lt
        have hg1 := HGF.out.lt
        have HX3 := hide2 (HX2.out.kept hK3 (fun e => e))
        have HGL3 := hide2 (HGL.out.kept hK3 (fun e => e))
        have HGF3 := hide2 (HGF.out.kept hK3 (fun e => e))
        have HK3 : Hid (New w wc) := HK2.out.trans hK3
        have hcX := HX3.out.cell
        have hXl := HX3.out.lt
        have HN := hide2 hN
        have HL := hide2 hL
        have HT := hide2 hT
        have HF := hide2 hF
        clear hN hL hT hF hK3 HX2 HGL HGF HK2
        go_wp2_with fail
        refine (toSim_any m wc).mono ?_
        rintro e w4 ⟨rfl, hn4⟩
        have HX4 := hide2 (HX3.out.kept hn4 (fun e => e))
        have HGL4 := hide2 (HGL3.out.kept hn4 (fun e => e))
        have HGF4 := hide2 (HGF3.out.kept hn4 (fun e => e))
        have HK4 : Hid (New w w4) := HK3.out.trans hn4
        have HN4 := hide2 (HN.out.kept hn4 (fun e => e))
        have HL4 := hide2 (HL.out.kept hn4 (fun e => e))
        have HT4 := hide2 (HT.out.kept hn4 (fun e => e))
        have HF4 := hide2 (HF.out.kept hn4 (fun e => e))
        clear hn4 HX3 HGL3 HGF3 HK3 HN HL HT HF hcX hXl
        go_wp2_with fail
        obtain ⟨c, hc⟩ : ∃ c : Cx, c = { n := n, now := now, tr := tr, loads := ll, fr := lf, m := relayMsg (fmMsg m) n (wrap64 (rel + 1)) } := ⟨_, rfl⟩
        have hok : c.Ok := by
          rw [hc]; exact ⟨h1, by show n ≤ 65536; omega, h3, h4, ht, Hll.out, Hlf.out, fun j => ⟨HP.out j, Hlb.out j⟩, Hfb.out, rfl⟩
        have hcn : c.n = n := by rw [hc]
        have hfw := ZZforward_all b gl gf (n + 1) n (.slice (some ⟨gt, 0, none⟩) n n) c (fmMsg m) seq rel w4 hok (by rw [hc]) (by show (m.prim == 2) = false; simp; omega) hbl hbf hlf' (by rw [hc]; exact HN4.out) (by rw [hc]; exact HL4.out) (by rw [hc]; exact HF4.out)
        refine hfw.mono ?_
        clear hfw
        rintro e w5 ⟨rfl, qv, sv, hN5, hL5, hF5, hO5, hfr5, hK5⟩
        have hcnow : c.now = now := by rw [hc]
        have hctr : c.tr = tr := by rw [hc]
        rw [hcn, hcnow, hctr] at hN5
        rw [hcn] at hL5 hF5 hO5
        have hnb : ∀ k, k < W2.heap.size → ¬ (k = b ∨ k = gl ∨ k = gf) := fun k hk hh => by omega
        have HX5 := hide2 (HX4.out.kept hK5 (hnb _ (by omega)))
        have HGL5 := hide2 (HGL4.out.kept hK5 (hnb _ hg0))
        have HGF5 := hide2 (HGF4.out.kept hK5 (hnb _ hg1))
        have HT5 := hide2 (HT4.out.kept hK5 (fun hh => by omega))
        have HK5 : Hid (New w w5) := Kept.after HK4.out hK5 (fun k hk => hnb k (by omega))
        have HN5 := hide2 hN5
        have HL5 := hide2 hL5
        have HF5 := hide2 hF5
        have HO5 := hide2 hO5
        have Hc := hide2 hc
        have Hok := hide2 hok
        have Hcn := hide2 hcn
        clear HX4 HGL4 HGF4 HT4 HK4 HN4 HL4 HF4 hN5 hL5 hF5 hO5 hfr5 hK5 hc hok hcn hcnow hctr hnb
        go_wp2_with fail
        have hqa := queue_any b qv (c.heapA 0 seq n) w5 (by rw [Cx.heapA_length]; exact h1) (by rw [Cx.heapA_length]; omega) (by rw [HN5.out.cell]; rfl) (by rw [Cx.heapA_length]; exact HO5.out) HN5.out.lt
        rw [Cx.heapA_length] at hqa
        refine hqa.mono ?_
        clear hqa
        rintro e w6 ⟨gq, rfl, hgq, hQ6, hn6⟩
        have HX6 := hide2 (HX5.out.kept hn6 (fun e => e))
        have HGL6 := hide2 (HGL5.out.kept hn6 (fun e => e))
        have HGF6 := hide2 (HGF5.out.kept hn6 (fun e => e))
        have HT6 := hide2 (HT5.out.kept hn6 (fun e => e))
        have HN6 := hide2 (HN5.out.kept hn6 (fun e => e))
        have HL6 := hide2 (HL5.out.kept hn6 (fun e => e))
        have HF6 := hide2 (HF5.out.kept hn6 (fun e => e))
        have HK6 : Hid (New w w6) := HK5.out.trans hn6
        have HQ6 := hide2 hQ6
        clear HX5 HGL5 HGF5 HT5 HK5 HN5 HL5 HF5 HO5 hQ6 hn6
        go_wp2_with fail
        refine (loads_any b _ ⟨_, _, _, rfl⟩ w6 (by rw [HN6.out.cell]; rfl)).mono ?_
        rintro e w7 ⟨rfl, hw7⟩
        subst hw7
        go_wp2_with fail
        refine (fromRelay_any b gf n n (c.frA 0 n) w7 h1 (by omega) (by rw [Cx.frA_length]; exact Hcn.out) (by rw [HN6.out.cell]; rfl) HF6.out).mono ?_
        rintro e w8 ⟨rfl, hw8⟩
        have hk8 : New w7 w8 := by rw [hw8]; exact (Kept.refl _ w7).alloc _
        have hF8 : Blk w8 w7.heap.size (ints (c.frA 0 n)) 2 := by rw [hw8]; exact Blk.new _ _ _
        have hbF : w.heap.size ≤ w7.heap.size := HK6.out.size
        generalize w7.heap.size = gF at *
        have HX8 := hide2 (HX6.out.kept hk8 (fun e => e))
        have HGL8 := hide2 (HGL6.out.kept hk8 (fun e => e))
        have HGF8 := hide2 (HGF6.out.kept hk8 (fun e => e))
        have HT8 := hide2 (HT6.out.kept hk8 (fun e => e))
        have HN8 := hide2 (HN6.out.kept hk8 (fun e => e))
        have HL8 := hide2 (HL6.out.kept hk8 (fun e => e))
        have HK8 : Hid (New w w8) := HK6.out.trans hk8
        have HQ8 := hide2 (HQ6.out.kept hk8 (fun e => e))
        have HF8 := hide2 hF8
        clear HX6 HGL6 HGF6 HT6 HN6 HL6 HK6 HQ6 HF6 hw8 hF8 hk8
        go_wp2_with fail
        refine (toRelay_any b gt n n (List.replicate n 0) w8 h1 (by omega) (by simp) (by rw [HN8.out.cell]; rfl) HT8.out).mono ?_
        rintro e w9 ⟨rfl, hw9⟩
        have hk9 : New w8 w9 := by rw [hw9]; exact (Kept.refl _ w8).alloc _
        have hT9 : Blk w9 w8.heap.size (ints (List.replicate n 0)) 2 := by rw [hw9]; exact Blk.new _ _ _
        have hbT : w.heap.size ≤ w8.heap.size := HK8.out.size
        generalize w8.heap.size = gT at *
        have HX9 := hide2 (HX8.out.kept hk9 (fun e => e))
        have HGL9 := hide2 (HGL8.out.kept hk9 (fun e => e))
        have HGF9 := hide2 (HGF8.out.kept hk9 (fun e => e))
        have HN9 := hide2 (HN8.out.kept hk9 (fun e => e))
        have HL9 := hide2 (HL8.out.kept hk9 (fun e => e))
        have HK9 : Hid (New w w9) := HK8.out.trans hk9
        have HQ9 := hide2 (HQ8.out.kept hk9 (fun e => e))
        have HF9 := hide2 (HF8.out.kept hk9 (fun e => e))
        have HT9 := hide2 hT9
        clear HX8 HGL8 HGF8 HT8 HN8 HL8 HK8 HQ8 HF8 hw9 hT9 hk9
        have hmk := run_make38 n (by omega)
        go_wp2_with fail
        have hk10 : New w9 (w9.alloc (.cells (bools (List.replicate n false)).toArray 4)) := (Kept.refl _ w9).alloc _
        have hS10 := Blk.new w9 (bools (List.replicate n false)) 4
        have hbS : w.heap.size ≤ w9.heap.size := HK9.out.size
        have hLS : gl < w9.heap.size := HL9.out.lt
        have hFS : gF < w9.heap.size := HF9.out.lt
        have hTS : gT < w9.heap.size := HT9.out.lt
        have hQS : gq < w9.heap.size := HQ9.out.lt
        have hNS : b < w9.heap.size := HN9.out.lt
        have h0S : g0 < w9.heap.size := HGL9.out.lt
        have h1S : g1 < w9.heap.size := HGF9.out.lt
        have hXS : w.heap.size < w9.heap.size := HX9.out.lt
        have HX10 := hide2 (HX9.out.kept hk10 (fun e => e))
        have HGL10 := hide2 (HGL9.out.kept hk10 (fun e => e))
        have HGF10 := hide2 (HGF9.out.kept hk10 (fun e => e))
        have HN10 := hide2 (HN9.out.kept hk10 (fun e => e))
        have HL10 := hide2 (HL9.out.kept hk10 (fun e => e))
        have HK10 : Hid (New w (w9.alloc (.cells (bools (List.replicate n false)).toArray 4))) := HK9.out.trans hk10
        have HQ10 := hide2 (HQ9.out.kept hk10 (fun e => e))
        have HF10 := hide2 (HF9.out.kept hk10 (fun e => e))
        have HT10 := hide2 (HT9.out.kept hk10 (fun e => e))
        have HS10 := hide2 hS10
        generalize w9.heap.size = gS at *
        generalize w9.alloc (.cells (bools (List.replicate n false)).toArray 4) = W at *
        clear HX9 HGL9 HGF9 HN9 HL9 HK9 HQ9 HF9 HT9 hS10 hk10 hmk
        go_loopw [23, 24] (fun s i wr => ∃ k : Nat, k ≤ n ∧ s = .int .i64 (c.tot k) ∧ i = .int .i64 k ∧ Kept (fun j => j = gS) W wr ∧ Blk wr gS (bools (seenA n k)) 4) (fun _ i _ => n - (intOf i).toNat)
        case atStart => exact ⟨0, Nat.zero_le _, rfl, rfl, Kept.refl _ W, by rw [← seenA_zero]; exact HS10.out⟩
        case round =>
          obtain ⟨k, hk, rfl, rfl, hKr, hSr⟩ := hrel
          have HKr := hide2 hKr
          have HSr := hide2 hSr
          have hgSW := HS10.out.lt
          clear hKr hSr HS10
          by_cases hlt : (k : Int) < (n : Int)
          · have hQr := HQ10.out.kept HKr.out (by omega)
            have HQr := hide2 hQr
            clear hQr
            go_wp2_with fail
            go_loopw [25, 26] (fun j t wz => ∃ i : Nat, i ≤ n ∧ j = .int .i64 (-1) ∧ t = .int .i64 i ∧ wr = wz ∧ ∀ t', t' < i → ((c.heapA 0 seq n).getD t' noMsg).dst ≠ (k : Int)) (fun _ t _ => n - (intOf t).toNat)
            case atStart => exact ⟨0, Nat.zero_le _, rfl, rfl, rfl, fun t ht => absurd ht (Nat.not_lt_zero _)⟩
            case round =>
              obtain ⟨i, hi, rfl, rfl, hw, hno⟩ := hrel
              subst hw
              have Hno := hide2 hno
              clear hno
              by_cases hit : (i : Int) < (n : Int)
              · have hc4 : wr.cell? ⟨gq, i * 15 + 4, none⟩ = some (.int .i64 ((c.heapA 0 seq n).getD i noMsg).dst) := by
                  rw [HQr.out.cell, flat_get_at _ _ _ (by rw [Cx.heapA_length]; omega) (by omega)]; rfl
                obtain ⟨x, hx⟩ : ∃ x, x = ((c.heapA 0 seq n).getD i noMsg).dst := ⟨_, rfl⟩
                rw [← hx] at hc4
                have Hx := hide2 hx
                clear hx
                by_cases hd : x = (k : Int)
                · subst hd
                  have hXm : (c.heapA 0 seq n).getD i noMsg = carried m (c.arr k) now (seqA seq (k + 1)) n k (c.load k) (wrap64 (rel + 1)) := by
                    rw [heapA_dst c 0 seq n i k (by omega) (by rw [← Hx.out]; show (k : Int) = ((0 + k : Nat) : Int); omega)]
                    unfold Cx.qm Cx.msg carried
                    rw [Nat.zero_add, Hc.out]; rfl
                  have hm := fun j (hj : j < 15) => (show wr.cell? ⟨gq, i * 15 + j, none⟩ = (msgCells (carried m (c.arr k) now (seqA seq (k + 1)) n k (c.load k) (wrap64 (rel + 1))))[j]? by rw [HQr.out.cell, flat_get_at _ _ _ (by rw [Cx.heapA_length]; omega) hj, hXm])
                  have q0 : wr.cell? ⟨gq, i * 15, none⟩ = some (.int .i64 (c.arr k)) := hm 0 (by omega)
                  have q1 : wr.cell? ⟨gq, i * 15 + 1, none⟩ = some (.int .i64 now) := hm 1 (by omega)
                  have q2 : wr.cell? ⟨gq, i * 15 + 2, none⟩ = some (.int .u64 (seqA seq (k + 1))) := hm 2 (by omega)
                  have q3 : wr.cell? ⟨gq, i * 15 + 3, none⟩ = some (.int .i64 n) := hm 3 (by omega)
                  have q5 : wr.cell? ⟨gq, i * 15 + 5, none⟩ = some (.int .u8 m.prim) := hm 5 (by omega)
                  have q6 : wr.cell? ⟨gq, i * 15 + 6, none⟩ = some (.int .u8 m.kind) := hm 6 (by omega)
                  have q7 : wr.cell? ⟨gq, i * 15 + 7, none⟩ = some (.int .i64 m.origin) := hm 7 (by omega)
                  have q8 : wr.cell? ⟨gq, i * 15 + 8, none⟩ = some (.int .i64 m.dest) := hm 8 (by omega)
                  have q9 : wr.cell? ⟨gq, i * 15 + 9, none⟩ = some (.int .i64 m.value) := hm 9 (by omega)
                  have q10 : wr.cell? ⟨gq, i * 15 + 10, none⟩ = some (.int .i64 m.writer) := hm 10 (by omega)
                  have q11 : wr.cell? ⟨gq, i * 15 + 11, none⟩ = some (.int .i64 m.counter) := hm 11 (by omega)
                  have q12 : wr.cell? ⟨gq, i * 15 + 12, none⟩ = some (.int .i64 (c.load k)) := hm 12 (by omega)
                  have q13 : wr.cell? ⟨gq, i * 15 + 13, none⟩ = some (.int .i64 (wrap64 (rel + 1))) := hm 13 (by omega)
                  have q14 : wr.cell? ⟨gq, i * 15 + 14, none⟩ = some (.int .i64 m.oord) := hm 14 (by omega)
                  have hXr := HX10.out.kept HKr.out (by omega)
                  have hcX := hXr.cell
                  have hXl := hXr.lt
                  clear hm hXr
                  have hi0 : ¬ (i : Int) < 0 := by omega
                  go_wp2_with fail
                  obtain ⟨WL, hWL⟩ : ∃ WL : World, WL = (wr.alloc (.cells (msgCells (carried m (c.arr k) now (seqA seq (k + 1)) n k (c.load k) (wrap64 (rel + 1)))).toArray 33)).alloc (.cells (fmCells { m with prim := 2, dest := (k : Int) }).toArray 26) := ⟨_, rfl⟩
                  have hWL' := hWL
                  unfold msgCells fmCells carried at hWL'
                  rw [← hWL']
                  clear hWL'
                  have hXx : Blk WL wr.heap.size (msgCells (carried m (c.arr k) now (seqA seq (k + 1)) n k (c.load k) (wrap64 (rel + 1)))) 33 := by rw [hWL]; exact (Blk.new _ _ _).alloc _
                  have hLo : Blk WL (wr.heap.size + 1) (fmCells { m with prim := 2, dest := (k : Int) }) 26 := by rw [hWL]; exact blk_eq (Blk.new _ _ _) (by simp)
                  have hKL : Kept (fun j => j = gS) W WL := by rw [hWL]; exact (HKr.out.alloc _).alloc _
                  have hSL : Blk WL gS (bools (seenA n k)) 4 := by rw [hWL]; exact (HSr.out.alloc _).alloc _
                  have HXx := hide2 hXx
                  have HLo := hide2 hLo
                  have HKL := hide2 hKL
                  have HSL := hide2 hSL
                  have hwrW := HKr.out.size
                  have hGLL := hide2 (HGL10.out.kept hKL (by omega))
                  have hGFL := hide2 (HGF10.out.kept hKL (by omega))
                  clear q0 q1 q2 q3 q5 q6 q7 q8 q9 q10 q11 q12 q13 q14 hcX hXl hXx hLo hKL hSL hc4 hWL HKr HSr HQr Hno Hx
                  generalize wr.heap.size = gx at *
                  refine reg50 _ _ WL n now seq rel tr ll lf g0 g1 h1 h2 hg01 Hll.out Hlf.out hGLL.out hGFL.out _ _ _ _ _ _ _ _ _ _ _ _ _ _ _ _ _ _ _ _ _ _ _ _ _ _ _ _ _ _ _ _ _ _ _ _ _ _ _ _ _ _ _ _ _ _ _ _ _ _ _ _ _ _ _ _ _ _ _ _ _ _ _ _ _ _ _ _ _ _ _ _ _ _ _ _ _ _ _ _ _ _ _ _ _ _ _ _ _ _ _ _ _ _ _ _ _ _ _ _ _ _ _ _ _ _ _ _ _ _ _ _ _ _ _ _ _ _ _ _ _ _ _ _ _ _ _ _ _ _ _ _ _ _ _ _ _ _ _ _ _ _ _ _ _ _ _ _ _ _ _ _ _ _ _ _ _ _ _ _ _ _ _ _ _ _ _ _ _ _ _ _ _ _ _ _ _ _ _ _ _ _ _ _ _ _ _ _ _ _ _ _ _ _ _ _ _ _ _ _ _ _ _ _ _ _ _ _ _ _ _ _ _ _ _ _ _ _ _ _ _ _ _ _ _ _ _ _ _ _ _ _ _ _ _ _ _ _ _ _ _ _ _ _ _ _ _ _ _ _ _ _ _ _ _ _ _ _ _ _ _ _ _ _ _ _ _ _ _ _ _ _ _ _ _ _ _ _ _ _ _ _ _ _ _ _ _ _ _ _ _ _ _ _ _ _ _ _ _ _ _ _ _ _ _ _ _ _ _ _ _ _ _ _ _ _ _ _ _ _ _ _ _ _ _ _ _ _ _ _ _ _ _ _ _ _ _ _ _ _ _ _ _ _ _ _ _ _ _ _ _ _ _ _ _ _ _ _ _ _ _ _ _ _ _ _ _ _ _ _ _ _ _ _ _ _ _ _ _ _ _ _ _ _ _ _ _ _ _ _ _ ?rest
                  case rest =>
                    intro y171 y172 y173 y174 y175 y176 y177 y178 y179 y180 y181 y182 y29 wc hcut
                    as_aux_lemma =>
                      obtain ⟨b2, gl2, gt2, gf2, rfl, hN, hL, hT, hF, hbl2, hbf2, hlf2, htb2, htl2, htf2, sb2, sl2, st2, sf2, hK3⟩ := hcut
                      have HXx3 := hide2 (HXx.out.kept hK3 (fun e => e))
                      have HLo3 := hide2 (HLo.out.kept hK3 (fun e => e))
                      have HKL3 : Hid (Kept (fun j => j = gS) W wc) := HKL.out.trans (hK3.mono (fun _ _ e => e.elim))
                      have HSL3 := hide2 (HSL.out.kept hK3 (fun e => e))
                      have HN := hide2 hN
                      have HL := hide2 hL
                      have HF := hide2 hF
                      have hcX := HLo3.out.cell
                      have hXl := HLo3.out.lt
                      have hgxL := HXx.out.lt
                      have hgSL := HSL.out.lt
                      clear hN hL hT hF hK3 HXx HLo HKL HSL hGLL hGFL
                      unfold fmCells at hcX
                      go_wp2_with fail
                      refine (toSim_any { m with prim := 2, dest := (k : Int) } wc).mono ?_
                      rintro e w4 ⟨rfl, hn4⟩
                      have HXx4 := hide2 (HXx3.out.kept hn4 (fun e => e))
                      have HKL4 : Hid (Kept (fun j => j = gS) W w4) := HKL3.out.trans (hn4.mono (fun _ _ e => e.elim))
                      have HSL4 := hide2 (HSL3.out.kept hn4 (fun e => e))
                      have HN4 := hide2 (HN.out.kept hn4 (fun e => e))
                      have HL4 := hide2 (HL.out.kept hn4 (fun e => e))
                      have HF4 := hide2 (HF.out.kept hn4 (fun e => e))
                      clear hn4 HXx3 HKL3 HSL3 HN HL HF hcX hXl HLo3
                      go_wp2_with fail
                      have hfw := ZZforward_lone b2 gl2 gf2 (n + 1) n (.slice (some ⟨gt2, 0, none⟩) n n) (c.lone m k (wrap64 (rel + 1))) (fmMsg { m with prim := 2, dest := (k : Int) }) k seq rel w4 (Hok.out.lone m k _) rfl rfl rfl (by show k < c.n; rw [Hcn.out]; omega) hbl2 hbf2 hlf2 (by rw [Hc.out]; exact HN4.out) (by rw [Hc.out]; exact HL4.out) (by rw [Hc.out]; exact HF4.out)
                      refine hfw.mono ?_
                      clear hfw
                      rintro e w5 ⟨rfl, qv2, sv2, hN5, -, -, hO5, -, hK5⟩
                      rw [heapA_one, Cx.lone_qm] at hO5
                      have hcnow : c.now = now := by rw [Hc.out]
                      rw [hcnow, Hcn.out] at hO5
                      have HXx5 := hide2 (HXx4.out.kept hK5 (fun hh => by omega))
                      have HSL5 := hide2 (HSL4.out.kept hK5 (fun hh => by omega))
                      have HKL5 : Hid (Kept (fun j => j = gS) W w5) := Kept.after2 HKL4.out hK5 (fun i hi hh => by have := HKL4.out.size; omega)
                      have HN5 := hide2 hN5
                      have HO5 := hide2 hO5
                      clear hN5 hO5 hK5 HXx4 HSL4 HKL4 HN4 HL4 HF4 hcnow
                      go_wp2_with fail
                      have hqa := queue_any b2 qv2 [carried { m with prim := 2, dest := (k : Int) } (c.arr k) now (seqA seq 1) n k (c.load k) (wrap64 (rel + 1))] w5 (by simp) (by simp) (by rw [HN5.out.cell]; rfl) HO5.out HN5.out.lt
                      refine hqa.mono ?_
                      clear hqa
                      rintro e w6 ⟨gy, rfl, hgy, hY6, hn6⟩
                      as_aux_lemma =>
                        have HXx6 := hide2 (HXx5.out.kept hn6 (fun e => e))
                        have HKL6 : Hid (Kept (fun j => j = gS) W w6) := HKL5.out.trans (hn6.mono (fun _ _ e => e.elim))
                        have HSL6 := hide2 (HSL5.out.kept hn6 (fun e => e))
                        have hY := fun j => (show w6.cell? ⟨gy, j, none⟩ = (msgCells (carried { m with prim := 2, dest := (k : Int) } (c.arr k) now (seqA seq 1) n k (c.load k) (wrap64 (rel + 1))))[j]? by rw [hY6.cell]; rfl)
                        have hYl := hY6.lt
                        have hxc := HXx6.out.cell
                        have hxl := HXx6.out.lt
                        unfold msgCells carried at hY hxc
                        clear hY6 hn6 HXx5 HKL5 HSL5 HN5 HO5 hgy
                        have hM6 := HX10.out.kept HKL6.out (by omega)
                        have hcM := hM6.cell
                        have hMl := hM6.lt
                        clear hM6
                        go_wp2_with fail
                        refine (carries_any m (c.arr k) now (seqA seq (k + 1)) n k (c.load k) (wrap64 (rel + 1)) _).mono ?_
                        rintro e w7 ⟨rfl, hn7⟩
                        have HXx7 := hide2 ((HXx6.out.alloc _).kept hn7 (fun e => e))
                        have HKL7 : Hid (Kept (fun j => j = gS) W w7) := (HKL6.out.alloc _).trans (hn7.mono (fun _ _ e => e.elim))
                        have HSL7 := hide2 ((HSL6.out.alloc _).kept hn7 (fun e => e))
                        clear hY hYl hxc hxl hcM hMl hn7 HXx6 HKL6 HSL6
                        generalize w6.heap.size = gY at *
                        go_wp2_with fail
                        as_aux_lemma =>
                          obtain ⟨F, hFe⟩ : ∃ F, F = lf.getD k 0 := ⟨_, rfl⟩
                          have hfc : w7.cell? ⟨g1, k, none⟩ = some (.int .i64 F) := by rw [(HGF10.out.kept HKL7.out (by omega)).cell, ints_get _ _ (by rw [Hlf.out]; omega), hFe]
                          have hcnow : c.now = now := by rw [Hc.out]
                          have hfr : c.fr0 k = F := by rw [hFe, Hc.out]; rfl
                          obtain ⟨a1, a2, a3⟩ := Hok.out.arr_bd k
                          have a4 := Hok.out.arr_hi k
                          have a5 := Hok.out.load_bd k
                          rw [hfr] at a3 a4
                          rw [hcnow] at a1 a4
                          have hk0 : ¬ (k : Int) < 0 := by omega
                          have e1 : IntKind.i64.wrap (now + 20000000) = now + 20000000 := by rw [IntKind.wrap_i64]; omega
                          have e2 : IntKind.i64.wrap (now + 3000000000) = now + 3000000000 := by rw [IntKind.wrap_i64]; omega
                          have t1 : ¬ c.arr k < now + 20000000 := by omega
                          have t2 : ¬ c.arr k < F := by omega
                          have t3 : ¬ max F (now + 3000000000) < c.arr k := by omega
                          have t4 : ¬ c.load k < 0 := by omega
                          have HFe := hide2 hFe
                          clear hFe hfr hcnow
                          refine reg60 _ w7 n k g1 gx now (c.arr k) F (c.load k) hlt hfc (HXx7.out.cell 0) (HXx7.out.cell 1) (HXx7.out.cell 12) e1 e2 t1 t2 t3 t4 _ _ _ _ _ _ _ _ _ _ _ _ _ _ _ _ _ _ _ _ _ _ _ _ _ _ _ _ _ _ _ _ _ _ _ _ _ _ _ _ _ _ _ _ _ _ _ _ _ _ _ _ _ _ _ _ _ _ _ _ _ _ _ _ _ _ _ _ _ _ _ _ _ _ _ _ _ _ _ _ _ _ _ _ _ _ _ _ _ _ _ _ _ _ _ _ _ _ _ _ _ _ _ _ _ _ _ _ _ _ _ _ _ _ _ _ _ _ _ _ _ _ _ _ _ _ _ _ _ _ _ _ _ _ _ _ _ _ _ _ _ _ _ _ _ _ _ _ _ _ _ _ _ _ _ _ _ _ _ _ _ _ _ _ _ _ _ _ _ _ _ _ _ _ _ _ _ _ _ _ _ _ _ _ _ _ _ _ _ _ _ _ _ _ _ _ _ _ _ _ _ _ _ _ _ _ _ _ _ _ _ _ _ _ _ _ _ _ _ _ _ _ _ _ _ _ _ _ _ _ _ _ _ _ _ _ _ _ _ _ _ _ _ _ _ _ _ _ _ _ _ _ _ _ _ _ _ _ _ _ _ _ _ _ _ _ _ _ _ _ _ _ _ _ _ _ _ _ _ _ _ _ _ _ _ _ _ _ _ _ _ _ _ _ _ _ _ _ _ _ _ _ _ _ _ _ _ _ _ _ _ _ _ _ _ _ _ _ _ _ _ _ _ _ _ _ _ _ _ _ _ _ _ _ _ _ _ _ _ _ _ _ _ _ _ _ _ _ _ _ _ _ _ _ _ _ _ _ _ _ _ _ _ _ _ _ _ _ _ _ _ _ _ _ _ _ _ _ _ _ _ _ _ _ _ _ _ _ _ _ _ _ _ _ ?_
                          intros
                          clear e1 e2 t1 t2 t3 t4 a1 a3 a4 hfc
                          have HXx8 := hide2 HXx7.out.drew
                          have HKL8 := hide2 HKL7.out.drew
                          have HSL8 := hide2 HSL7.out.drew
                          generalize w7.drew = w8 at *
                          clear HXx7 HKL7 HSL7
                          go_wp2_with fail
                          obtain ⟨L, hLe⟩ : ∃ L, L = ll.getD k 0 := ⟨_, rfl⟩
                          obtain ⟨X, hXe⟩ : ∃ X, X = c.lnew k := ⟨_, rfl⟩
                          have hlc : w8.cell? ⟨g0, k, none⟩ = some (.int .i64 L) := by rw [(HGL10.out.kept HKL8.out (by omega)).cell, ints_get _ _ (by rw [Hll.out]; omega), hLe]
                          have hxlc : w8.cell? ⟨gl, k, none⟩ = some (.int .i64 X) := by
                            rw [(HL10.out.kept HKL8.out (by omega)).cell, ints_get _ _ (by rw [Cx.loadsA_length, Hcn.out]; omega), Cx.loadsA_get _ _ _ _ (by rw [Hcn.out]; omega), if_neg (by rw [Hcn.out]; omega), if_pos (by omega), hXe]
                          have hfc2 : w8.cell? ⟨gF, k, none⟩ = some (.int .i64 (c.arr k)) := by
                            rw [(HF10.out.kept HKL8.out (by omega)).cell, ints_get _ _ (by rw [Cx.frA_length, Hcn.out]; omega), Cx.frA_get _ _ _ _ (by rw [Hcn.out]; omega), if_pos (by omega)]
                          have htc : w8.cell? ⟨gT, k, none⟩ = some (.int .i64 0) := by
                            rw [(HT10.out.kept HKL8.out (by omega)).cell, ints_get _ _ (by rw [List.length_replicate]; omega), List.getD, List.getElem?_replicate, if_pos (by omega)]; rfl
                          have e3 : IntKind.i64.wrap (L + c.load k) = X := by
                            have hlo : c.loads = ll := by rw [Hc.out]
                            rw [hLe, hXe]; unfold Cx.lnew wrap64; rw [IntKind.wrap_i64, hlo]
                          have HLe := hide2 hLe
                          have HXe := hide2 hXe
                          clear hLe hXe
                          refine reg62 _ w8 n k gl g0 gF gT gx L (c.arr k) (c.load k) X hlt hlc hxlc hfc2 htc (HXx8.out.cell 0) (HXx8.out.cell 12) e3 _ _ _ _ _ _ _ _ _ _ _ _ _ _ _ _ _ _ _ _ _ _ _ _ _ _ _ _ _ _ _ _ _ _ _ _ _ _ _ _ _ _ _ _ _ _ _ _ _ _ _ _ _ _ _ _ _ _ _ _ _ _ _ _ _ _ _ _ _ _ _ _ _ _ _ _ _ _ _ _ _ _ _ _ _ _ _ _ _ _ _ _ _ _ _ _ _ _ _ _ _ _ _ _ _ _ _ _ _ _ _ _ _ _ _ _ _ _ _ _ _ _ _ _ _ _ _ _ _ _ _ _ _ _ _ _ _ _ _ _ _ _ _ _ _ _ _ _ _ _ _ _ _ _ _ _ _ _ _ _ _ _ _ _ _ _ _ _ _ _ _ _ _ _ _ _ _ _ _ _ _ _ _ _ _ _ _ _ _ _ _ _ _ _ _ _ _ _ _ _ _ _ _ _ _ _ _ _ _ _ _ _ _ _ _ _ _ _ _ _ _ _ _ _ _ _ _ _ _ _ _ _ _ _ _ _ _ _ _ _ _ _ _ _ _ _ _ _ _ _ _ _ _ _ _ _ _ _ _ _ _ _ _ _ _ _ _ _ _ _ _ _ _ _ _ _ _ _ _ _ _ _ _ _ _ _ _ _ _ _ _ _ _ _ _ _ _ _ _ _ _ _ _ _ _ _ _ _ _ _ _ _ _ _ _ _ _ _ _ _ _ _ _ _ _ _ _ _ _ _ _ _ _ _ _ _ _ _ _ _ _ _ _ _ _ _ _ _ _ _ _ _ _ _ _ _ _ _ _ _ _ _ _ _ _ _ _ _ _ _ _ _ _ _ _ _ _ _ _ _ _ _ _ _ _ _ _ _ _ _ _ _ ?_
                          intros
                          have HXx9 := hide2 HXx8.out.drew
                          have HKL9 := hide2 HKL8.out.drew
                          have HSL9 := hide2 HSL8.out.drew
                          generalize w8.drew = w9 at *
                          clear HXx8 HKL8 HSL8 e3 htc hfc2 hxlc hlc
                          have hxc := HXx9.out.cell
                          unfold msgCells carried at hxc
                          have hsb := seq_back seq k hs0 hs1 (by omega)
                          have hun : IntKind.u64.wrap (n : Int) = (n : Int) := by rw [u64_mod]; omega
                          have hsc : w9.cell? ⟨gS, k, none⟩ = some (.bool false) := by
                            rw [HSL9.out.cell, bools_get _ _ (by rw [seenA_length]; omega), seenA_get _ _ _ (by omega)]; simp
                          have hsf := HSL9.out.frozen k
                          go_wp2_with fail
                          have htb := Hok.out.tot_bd (k + 1)
                          have hts : c.tot (k + 1) = c.tot k + c.load k := rfl
                          have hS2 := HSL9.out.set k (.bool true)
                          rw [bools_set, seenA_set _ _ (by omega)] at hS2
                          refine ⟨⟨k + 1, by omega, ?_, by go_num, HKL9.out.setCell (Or.inl rfl) _, hS2⟩, ?_⟩
                          · rw [← hts, wrap64_id _ (by omega) (by omega)]
                          · simp [intOf]; omega
                · have hd' : (x == (k : Int)) = false := by simpa using hd
                  go_wp2_with fail
                  go_roundw
                  case rel => exact ⟨i + 1, by omega, rfl, by go_num, by trivial, fun t' ht' => by
                    rcases Nat.lt_or_ge t' i with h | h
                    · exact Hno.out t' h
                    · obtain rfl : t' = i := by omega
                      rw [← Hx.out]; exact hd⟩
                  case measure => simp [intOf]; omega
              · exfalso
                obtain ⟨t, ht', he⟩ := heapA_has c 0 seq n k (by omega)
                refine Hno.out t (by omega) ?_
                rw [he]; show (((0 + k : Nat)) : Int) = (k : Int); omega
          · have ek : k = n := by omega
            subst ek
            clear hk hlt
            go_wp2_with fail
            go_loopw [33] (fun j wz => ∃ i : Nat, 1 ≤ i ∧ i ≤ k ∧ j = .int .i64 i ∧ Kept (fun j => j = gS) W wz) (fun j _ => k - (intOf j).toNat)
            case atStart => exact ⟨1, Nat.le_refl _, h1, rfl, HKr.out⟩
            case round =>
              obtain ⟨i, hi1, hik, rfl, hKz⟩ := hrel
              have HKz := hide2 hKz
              clear hKz
              by_cases hit : (i : Int) < (k : Int)
              · obtain ⟨p, hp⟩ : ∃ p, p = (i - 1) / 2 := ⟨_, rfl⟩
                have hQz := HQ10.out.kept HKz.out (by omega)
                obtain ⟨cM, hcM⟩ : ∃ x, x = (c.heapA 0 seq k).getD i noMsg := ⟨_, rfl⟩
                obtain ⟨pM, hpM⟩ : ∃ x, x = (c.heapA 0 seq k).getD p noMsg := ⟨_, rfl⟩
                have hb := heapA_ok c 0 seq k i hi1 (by rw [Cx.heapA_length]; omega)
                rw [← hp, ← hcM, ← hpM] at hb
                have hb2 : ¬ (cM.tat < pM.tat ∨ (cM.tat = pM.tat ∧ cM.seq < pM.seq)) := fun hh => by rw [(beforeM_iff cM pM).2 hh] at hb; cases hb
                have hmc := fun j (hj : j < 15) => (show wr.cell? ⟨gq, i * 15 + j, none⟩ = (msgCells cM)[j]? by rw [hQz.cell, flat_get_at _ _ _ (by rw [Cx.heapA_length]; omega) hj, ← hcM])
                have hmp := fun j (hj : j < 15) => (show wr.cell? ⟨gq, p * 15 + j, none⟩ = (msgCells pM)[j]? by rw [hQz.cell, flat_get_at _ _ _ (by rw [Cx.heapA_length]; omega) hj, ← hpM])
                have r0 : wr.cell? ⟨gq, i * 15, none⟩ = some (.int .i64 cM.tat) := hmc 0 (by omega)
                have r1 : wr.cell? ⟨gq, i * 15 + 1, none⟩ = some (.int .i64 cM.sent) := hmc 1 (by omega)
                have r2 : wr.cell? ⟨gq, i * 15 + 2, none⟩ = some (.int .u64 cM.seq) := hmc 2 (by omega)
                have r3 : wr.cell? ⟨gq, i * 15 + 3, none⟩ = some (.int .i64 cM.src) := hmc 3 (by omega)
                have r4 : wr.cell? ⟨gq, i * 15 + 4, none⟩ = some (.int .i64 cM.dst) := hmc 4 (by omega)
                have r5 : wr.cell? ⟨gq, i * 15 + 5, none⟩ = some (.int .u8 cM.prim) := hmc 5 (by omega)
                have r6 : wr.cell? ⟨gq, i * 15 + 6, none⟩ = some (.int .u8 cM.kind) := hmc 6 (by omega)
                have r7 : wr.cell? ⟨gq, i * 15 + 7, none⟩ = some (.int .i64 cM.origin) := hmc 7 (by omega)
                have r8 : wr.cell? ⟨gq, i * 15 + 8, none⟩ = some (.int .i64 cM.dest) := hmc 8 (by omega)
                have r9 : wr.cell? ⟨gq, i * 15 + 9, none⟩ = some (.int .i64 cM.value) := hmc 9 (by omega)
                have r10 : wr.cell? ⟨gq, i * 15 + 10, none⟩ = some (.int .i64 cM.writer) := hmc 10 (by omega)
                have r11 : wr.cell? ⟨gq, i * 15 + 11, none⟩ = some (.int .i64 cM.counter) := hmc 11 (by omega)
                have r12 : wr.cell? ⟨gq, i * 15 + 12, none⟩ = some (.int .i64 cM.load) := hmc 12 (by omega)
                have r13 : wr.cell? ⟨gq, i * 15 + 13, none⟩ = some (.int .i64 cM.rord) := hmc 13 (by omega)
                have r14 : wr.cell? ⟨gq, i * 15 + 14, none⟩ = some (.int .i64 cM.oord) := hmc 14 (by omega)
                have s0 : wr.cell? ⟨gq, p * 15, none⟩ = some (.int .i64 pM.tat) := hmp 0 (by omega)
                have s1 : wr.cell? ⟨gq, p * 15 + 1, none⟩ = some (.int .i64 pM.sent) := hmp 1 (by omega)
                have s2 : wr.cell? ⟨gq, p * 15 + 2, none⟩ = some (.int .u64 pM.seq) := hmp 2 (by omega)
                have s3 : wr.cell? ⟨gq, p * 15 + 3, none⟩ = some (.int .i64 pM.src) := hmp 3 (by omega)
                have s4 : wr.cell? ⟨gq, p * 15 + 4, none⟩ = some (.int .i64 pM.dst) := hmp 4 (by omega)
                have s5 : wr.cell? ⟨gq, p * 15 + 5, none⟩ = some (.int .u8 pM.prim) := hmp 5 (by omega)
                have s6 : wr.cell? ⟨gq, p * 15 + 6, none⟩ = some (.int .u8 pM.kind) := hmp 6 (by omega)
                have s7 : wr.cell? ⟨gq, p * 15 + 7, none⟩ = some (.int .i64 pM.origin) := hmp 7 (by omega)
                have s8 : wr.cell? ⟨gq, p * 15 + 8, none⟩ = some (.int .i64 pM.dest) := hmp 8 (by omega)
                have s9 : wr.cell? ⟨gq, p * 15 + 9, none⟩ = some (.int .i64 pM.value) := hmp 9 (by omega)
                have s10 : wr.cell? ⟨gq, p * 15 + 10, none⟩ = some (.int .i64 pM.writer) := hmp 10 (by omega)
                have s11 : wr.cell? ⟨gq, p * 15 + 11, none⟩ = some (.int .i64 pM.counter) := hmp 11 (by omega)
                have s12 : wr.cell? ⟨gq, p * 15 + 12, none⟩ = some (.int .i64 pM.load) := hmp 12 (by omega)
                have s13 : wr.cell? ⟨gq, p * 15 + 13, none⟩ = some (.int .i64 pM.rord) := hmp 13 (by omega)
                have s14 : wr.cell? ⟨gq, p * 15 + 14, none⟩ = some (.int .i64 pM.oord) := hmp 14 (by omega)
                have hpi : ((i : Int) - 1) / 2 = (p : Int) := by omega
                have hi0 : (0 : Int) < (i : Int) := by omega
                have hp0 : (0 : Int) ≤ (p : Int) := by omega
                have hpL : (p : Int) < (k : Int) := by omega
                have hgl := hQz.lt
                have hb3 : ¬ cM.tat < pM.tat := fun hh => hb2 (Or.inl hh)
                have Hb2 := hide2 hb2
                clear hp hcM hpM hb hmc hmp hQz hb2
                by_cases hEq : cM.tat = pM.tat
                · have hb4 : ¬ cM.seq < pM.seq := fun hh => Hb2.out (Or.inr ⟨hEq, hh⟩)
                  as_aux_lemma =>
                    go_wp2_with fail
                    exact ⟨⟨i + 1, by omega, by omega, by go_num, (HKz.out.alloc _).alloc _⟩, by simp [intOf]; omega⟩
                · have hEq' : (cM.tat == pM.tat) = false := by simpa using hEq
                  as_aux_lemma =>
                    go_wp2_with fail
                    exact ⟨⟨i + 1, by omega, by omega, by go_num, (HKz.out.alloc _).alloc _⟩, by simp [intOf]; omega⟩
              · clear hik hi1
                go_wp2_with fail
                as_aux_lemma =>
                  obtain ⟨L, hLe⟩ : ∃ L, L = ll.getD k 0 := ⟨_, rfl⟩
                  obtain ⟨X, hXe⟩ : ∃ X, X = c.sumA 0 k := ⟨_, rfl⟩
                  have hlc : wr.cell? ⟨g0, k, none⟩ = some (.int .i64 L) := by rw [(HGL10.out.kept HKz.out (by omega)).cell, ints_get _ _ (by rw [Hll.out]; omega), hLe]
                  have hxlc : wr.cell? ⟨gl, k, none⟩ = some (.int .i64 X) := by
                    rw [(HL10.out.kept HKz.out (by omega)).cell, ints_get _ _ (by rw [Cx.loadsA_length, Hcn.out]; omega), Cx.loadsA_get _ _ _ _ (by rw [Hcn.out]; omega), if_pos (by rw [Hcn.out]), hXe]
                  have e3 : IntKind.i64.wrap (L + c.tot k) = X := by
                    have hlo : c.loads = ll := by rw [Hc.out]
                    rw [hLe, hXe, Hok.out.sum_eq k, Hcn.out, hlo]; unfold wrap64; rw [IntKind.wrap_i64]
                  have hNz := HN10.out.kept HKz.out (by omega)
                  have e4 : IntKind.i64.wrap (rel + 1) = wrap64 (rel + 1) := by unfold wrap64; rw [IntKind.wrap_i64]
                  have hun : IntKind.u64.wrap (k : Int) = (k : Int) := by rw [u64_mod]; omega
                  have e5 : IntKind.u64.wrap (seq + (k : Int)) = seqA seq k := by rw [u64_mod, seqA_eq _ hs0 hs1]
                  have HLe := hide2 hLe
                  have HXe := hide2 hXe
                  have HNz := hide2 hNz
                  clear hLe hXe hNz
                  refine reg76 _ wr k g0 gl b seq rel L X (c.tot k) (seqA seq k) hlc hxlc e3 (by rw [HNz.out.cell]; rfl) (by rw [HNz.out.cell]; rfl) e4 hun e5 _ _ _ _ _ _ _ _ _ _ _ _ _ _ _ _ _ _ _ _ _ _ _ _ _ _ _ _ _ _ _ _ _ _ _ _ _ _ _ _ _ _ _ _ _ _ _ _ _ _ _ _ _ _ _ _ _ _ _ _ _ _ _ _ _ _ _ _ _ _ _ _ _ _ _ _ _ _ _ _ _ _ _ _ _ _ _ _ _ _ _ _ _ _ _ _ _ _ _ _ _ _ _ _ _ _ _ _ _ _ _ _ _ _ _ _ _ _ _ _ _ _ _ _ _ _ _ _ _ _ _ _ _ _ _ _ _ _ _ _ _ _ _ _ _ _ _ _ _ _ _ _ _ _ _ _ _ _ _ _ _ _ _ _ _ _ _ _ _ _ _ _ _ _ _ _ _ _ _ _ _ _ _ _ _ _ _ _ _ _ _ _ _ _ _ _ _ _ _ _ _ _ _ _ _ _ _ _ _ _ _ _ _ _ _ _ _ _ _ _ _ _ _ _ _ _ _ _ _ _ _ _ _ _ _ _ _ _ _ _ _ _ _ _ _ _ _ _ _ _ _ _ _ _ _ _ _ _ _ _ _ _ _ _ _ _ _ _ _ _ _ _ _ _ _ _ _ _ _ _ _ _ _ _ _ _ _ _ _ _ _ _ _ _ _ _ _ _ _ _ _ _ _ _ _ _ _ _ _ _ _ _ _ _ _ _ _ _ _ _ _ _ _ _ _ _ _ _ _ _ _ _ _ _ _ _ _ _ _ _ _ _ _ _ _ _ _ _ _ _ _ _ _ _ _ _ _ _ _ _ _ _ _ _ _ _ _ _ _ _ _ _ _ _ _ _ _ _ _ _ _ _ _ _ _ _ _ _ _ _ _ ?_
                  intros
                  go_wp2_with fail
                  go_ret
                  exact ⟨rfl, (Kept.after HK10.out HKz.out (fun i hi hh => by omega)).drew.below (Nat.le_refl _) (fun _ _ hh => hh)⟩
end Go.Proofs.Qxb6612705a
