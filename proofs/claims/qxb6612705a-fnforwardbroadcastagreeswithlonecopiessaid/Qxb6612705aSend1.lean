import Derived.Test.Qxb6612705aEnv2
import Derived.LoopTactic
import Derived.StillTailTactics
namespace Go.Proofs.Qxb6612705a
open Go.RowKit
open Fl

theorem mixed : Try.prog.follows .mixedOrders = true := by kernel_rfl

set_option maxRecDepth 100000 in
set_option maxHeartbeats 3200000 in
theorem sendBatch_any (E : Env) (d0 L : Nat) (w : World) (hc : E.c.Ok) (ha : E.Apart) (hdL : d0 + L ≤ E.c.n) (hin : E.In w) (hqv : E.qv = .slice none 0 0) (hst : St E w w E.c.fr (E.c.ms d0 L 0)) :
    Calls Try.prog 34 #[.pointer (some ⟨E.b, 0, none⟩), .slice (some ⟨E.gb, 0, none⟩) L E.capb] w fun e w' => e = .returned (.tuple #[]) ∧ ∃ qv, St2 E w w' (E.c.loadsA d0 L) (E.c.frA d0 L) (E.c.ms d0 L L) qv (seqA E.seq L) (E.c.heapA d0 E.seq L) := by
  have hL1 : L ≤ 65536 := by have := hc.n2; omega
  go_enter Try.func34, Try.ntmps34
  go_wp2_with fail
  go_loopw [11] (fun i wr => ∃ k : Nat, k ≤ L ∧ i = .int .i64 k ∧ St E w wr (E.c.frA d0 k) (E.c.ms d0 L k)) (fun i _ => L - (intOf i).toNat)
  case atStart => exact ⟨0, Nat.zero_le _, rfl, by rw [Cx.frA_zero _ _ hc.lf]; exact hst⟩
  case round =>
    obtain ⟨k, hk, rfl, hs⟩ := hrel
    by_cases hlt : k < L
    · have hkd : d0 + k < E.c.n := by omega
      have hml := E.c.ms_length d0 L k
      have hmk := E.c.ms_get d0 L k k hlt
      rw [if_neg (Nat.lt_irrefl k)] at hmk
      -- sent
      have a1 : wr.cell? ⟨E.b, 1, none⟩ = some (.int .i64 E.c.now) := hs.n 1
      have a2 : wr.cell? ⟨E.gb, k * 15 + 1, none⟩ = some (.int .i64 (E.c.raw (d0 + k)).sent) := by rw [hs.m k 1 (by omega) (by omega), hmk]; rfl
      have a3 := hs.mf (k * 15 + 1)
      have hs1 := hs.setMsg ha k 1 (.int .i64 E.c.now) { E.c.raw (d0 + k) with sent := E.c.now } (by omega) (by omega) (by rw [hmk]; rfl)
      have H1 := hide2 hs1
      have Hml := hide2 hml
      have Hmk := hide2 hmk
      clear hs1 hs hml hmk
      go_wp2_with fail
      generalize wr.setCell ⟨E.gb, k * 15 + 1, none⟩ (.int .i64 E.c.now) = w1 at *
      clear a1 a2 a3
      obtain ⟨d, hd⟩ : ∃ d, d = d0 + k := ⟨_, rfl⟩
      rw [← hd] at H1 Hmk hkd
      have Hd := hide2 hd
      clear hd
      have hml1 : ((E.c.ms d0 L k).set k { E.c.raw d with sent := E.c.now }).length = L := by rw [List.length_set]; exact Hml.out
      have hmk1 : ((E.c.ms d0 L k).set k { E.c.raw d with sent := E.c.now }).getD k noMsg = { E.c.raw d with sent := E.c.now } := by
        rw [List.getD, List.getElem?_set_self (by rw [Hml.out]; exact hlt)]; rfl
      have Hml1 := hide2 hml1
      have Hmk1 := hide2 hmk1
      have hm1 := fun j hj => H1.out.m k j (by rw [hml1]; exact hlt) hj
      rw [hmk1] at hm1
      have b1 : w1.cell? ⟨E.b, 1, none⟩ = some (.int .i64 E.c.now) := H1.out.n 1
      have b4 : w1.cell? ⟨E.b, 4, none⟩ = some (.slice (some ⟨E.gl, 0, none⟩) (E.c.n + 1) E.cl) := H1.out.n 4
      have m0 : w1.cell? ⟨E.gb, k * 15, none⟩ = some (.int .i64 E.c.m.tat) := hm1 0 (by omega)
      have m3 : w1.cell? ⟨E.gb, k * 15 + 3, none⟩ = some (.int .i64 E.c.n) := by rw [hm1 3 (by omega), ← hc.src]; rfl
      have m4 : w1.cell? ⟨E.gb, k * 15 + 4, none⟩ = some (.int .i64 d) := hm1 4 (by omega)
      have m0f := H1.out.mf (k * 15)
      have ln : w1.cell? ⟨E.gl, E.c.n, none⟩ = some (.int .i64 (E.c.ld0 E.c.n)) := by rw [H1.out.l _ (by rw [hc.ll]; omega), hc.ld0_eq]
      have lt : w1.cell? ⟨E.gl, d, none⟩ = some (.int .i64 (E.c.ld0 d)) := by rw [H1.out.l _ (by rw [hc.ll]; omega), hc.ld0_eq]
      have hmax := fun ts t wz => run_max_pos (P := Try.prog) ts t (hc.util_lt E.c.n) (hc.util_lt d) wz
      have Hln := hide2 ln
      have Hlt := hide2 lt
      have Hb4 := hide2 b4
      have hn2 := hc.n2
      clear hm1 hml1 hmk1 ln lt b4
      go_still_tail 20, mixed
      still_call (utilisation_any E.b E.gl (E.c.n + 1) E.cl _ E.c.n (E.c.ld0 E.c.n) _ rfl (by omega) (hc.ld0_lt _) (by omega) Hb4.out Hln.out)
      repeat still_step
      still_call (utilisation_any E.b E.gl (E.c.n + 1) E.cl _ d (E.c.ld0 d) _ rfl (by omega) (hc.ld0_lt _) (by omega) Hb4.out Hlt.out)
      repeat still_step
      still_call (delay_any _ (hc.max_lt E.c.n d) _)
      rw [show delI (max (utilB (E.c.ld0 E.c.n)) (utilB (E.c.ld0 d))) = E.c.del d from rfl]
      obtain ⟨q1, q2⟩ := Cx.Ok.del_bd E.c d
      have q3 := hc.now0
      have q4 := hc.now1
      repeat still_step
      refine wpStill_nil ?_
      change wpList Try.prog _ _ _ _ w1.drew
      have hs2 := (H1.out.setMsg ha k 0 (.int .i64 (E.c.now + E.c.del d)) { E.c.raw d with sent := E.c.now, tat := E.c.now + E.c.del d } (by rw [Hml1.out]; exact hlt) (by omega) (by rw [Hmk1.out]; rfl)).drew
      rw [List.set_set] at hs2
      have H2 := hide2 hs2
      clear hs2 H1 hmax Hln Hlt Hb4 m3 m4 b1
      go_wp2_with fail
      change Hid (St E w (w1.setCell ⟨E.gb, k * 15, none⟩ (.int .i64 (E.c.now + E.c.del d))).drew _ _) at H2
      generalize (w1.setCell ⟨E.gb, k * 15, none⟩ (.int .i64 (E.c.now + E.c.del d))).drew = w2 at *
      clear m0 m0f
      -- lastOnLink
      have hml2 : ((E.c.ms d0 L k).set k { E.c.raw d with sent := E.c.now, tat := E.c.now + E.c.del d }).length = L := by rw [List.length_set]; exact Hml.out
      have hmk2 : ((E.c.ms d0 L k).set k { E.c.raw d with sent := E.c.now, tat := E.c.now + E.c.del d }).getD k noMsg = { E.c.raw d with sent := E.c.now, tat := E.c.now + E.c.del d } := by
        rw [List.getD, List.getElem?_set_self (by rw [Hml.out]; exact hlt)]; rfl
      have Hml2 := hide2 hml2
      have Hmk2 := hide2 hmk2
      have hm2 := fun j hj => H2.out.m k j (by rw [hml2]; exact hlt) hj
      rw [hmk2] at hm2
      refine (lastOnLink_any E.b E.gb (k * 15) E.gf E.c.n d E.cf w2 hkd (by omega) (H2.out.n 0) (H2.out.n 6) (by rw [hm2 3 (by omega), ← hc.src]; rfl) (hm2 4 (by omega))).mono ?_
      rintro e w' ⟨rfl, q, rfl⟩
      have H3 := hide2 (H2.out.drewN q)
      generalize w2.drewN q = w3 at *
      clear H2 hm2 hml2 hmk2
      -- the link's last arrival
      have hm3 := fun j hj => H3.out.m k j (by rw [Hml2.out]; exact hlt) hj
      rw [Hmk2.out] at hm3
      have c0 : w3.cell? ⟨E.gb, k * 15, none⟩ = some (.int .i64 (E.c.now + E.c.del d)) := hm3 0 (by omega)
      have c0f := H3.out.mf (k * 15)
      have fd : w3.cell? ⟨E.gf, d, none⟩ = some (.int .i64 (E.c.fr0 d)) := by
        rw [H3.out.f d (by rw [Cx.frA_length]; exact hkd), Cx.frA_get _ _ _ _ hkd, if_neg (by have := Hd.out; omega)]
      clear hm3
      have harr : (if E.c.now + (E.c.del d : Int) < E.c.fr0 d then E.c.fr0 d else E.c.now + (E.c.del d : Int)) = E.c.arr d := rfl
      have Harr := hide2 harr
      clear harr
      have hs4 := (H3.out.setMsg ha k 0 (.int .i64 (E.c.arr d)) { E.c.raw d with sent := E.c.now, tat := E.c.arr d } (by rw [Hml2.out]; exact hlt) (by omega) (by rw [Hmk2.out]; rfl)).drew
      rw [List.set_set] at hs4
      have H4 := hide2 hs4
      clear hs4
      go_wp2_with fail
      go_still_tail 9, mixed
      change wpList Try.prog _ _ _ _ w3.drew
      rw [Harr.out]
      have g1 : (w3.setCell ⟨E.gb, k * 15, none⟩ (.int .i64 (E.c.arr d))).cell? ⟨E.gf, d, none⟩ = some (.int .i64 (E.c.fr0 d)) := by
        rw [World.cell?_setCell_other _ _ _ _ (fun e => ha.fb (congrArg Addr.block e).symm)]; exact fd
      have g2 : (w3.setCell ⟨E.gb, k * 15, none⟩ (.int .i64 (E.c.arr d))).frozen? ⟨E.gf, d, none⟩ = false := by rw [World.frozen?_setCell]; exact H3.out.ff d
      have hs5 := H4.out.setFr ha d (E.c.arr d)
      rw [show (E.c.frA d0 k).set d (E.c.arr d) = E.c.frA d0 (k + 1) from by rw [Hd.out]; exact E.c.frA_set d0 k (by rw [← Hd.out]; exact hkd)] at hs5
      have H5 := hide2 hs5
      clear hs5 H3 H4
      go_wp2_with fail
      change Hid (St E w ((w3.setCell ⟨E.gb, k * 15, none⟩ (.int .i64 (E.c.arr d))).setCell ⟨E.gf, d, none⟩ (.int .i64 (E.c.arr d))).drew _ _) at H5
      generalize ((w3.setCell ⟨E.gb, k * 15, none⟩ (.int .i64 (E.c.arr d))).setCell ⟨E.gf, d, none⟩ (.int .i64 (E.c.arr d))).drew = w5 at *
      clear g1 g2 c0 c0f fd Harr
      -- the load
      have hml5 : ((E.c.ms d0 L k).set k { E.c.raw d with sent := E.c.now, tat := E.c.arr d }).length = L := by rw [List.length_set]; exact Hml.out
      have hmk5 : ((E.c.ms d0 L k).set k { E.c.raw d with sent := E.c.now, tat := E.c.arr d }).getD k noMsg = { E.c.raw d with sent := E.c.now, tat := E.c.arr d } := by
        rw [List.getD, List.getElem?_set_self (by rw [Hml.out]; exact hlt)]; rfl
      have hm5 := fun j hj => H5.out.m k j (by rw [hml5]; exact hlt) hj
      rw [hmk5] at hm5
      have n7 : w5.cell? ⟨E.b, 7, none⟩ = some (.float .f64 E.c.tr) := H5.out.n 7
      have e0 : w5.cell? ⟨E.gb, k * 15, none⟩ = some (.int .i64 (E.c.arr d)) := hm5 0 (by omega)
      have e1 : w5.cell? ⟨E.gb, k * 15 + 1, none⟩ = some (.int .i64 E.c.now) := hm5 1 (by omega)
      have e12 : w5.cell? ⟨E.gb, k * 15 + 12, none⟩ = some (.int .i64 E.c.m.load) := hm5 12 (by omega)
      have e12f := H5.out.mf (k * 15 + 12)
      obtain ⟨t1, t2, t3⟩ := hc.dt_bd d
      obtain ⟨r1, r2, r3, _, _, _⟩ := load_facts hc.tr t1 t2
      have hload : ldI E.c.tr (E.c.arr d - E.c.now).toNat = E.c.load d := rfl
      rw [hload] at r3
      generalize (E.c.arr d - E.c.now).toNat = dt at *
      have hwr : IntKind.i64.wrap (E.c.arr d - E.c.now) = (dt : Int) := by rw [← t3, IntKind.wrap_i64]; omega
      have hq1 := run_quo r1
      have hq2 := run_mul r2
      have hq3 := fun (wz : World) => run_convert_float_int (P := Try.prog) wz 23 2 .f64 .i64 (roundBits (ldY E.c.tr dt)) (E.c.load d) (by rw [Try.underlying23]; rfl) Try.underlying2 r3
      have hs6 := (H5.out.setMsg ha k 12 (.int .i64 (E.c.load d)) (E.c.msg d) (by rw [hml5]; exact hlt) (by omega) (by rw [hmk5]; rfl)).drew
      rw [List.set_set, show (E.c.ms d0 L k).set k (E.c.msg d) = E.c.ms d0 L (k + 1) from by rw [Hd.out]; exact E.c.ms_set d0 L k hlt] at hs6
      have H6 := hide2 hs6
      have Ht3 := hide2 t3
      clear hs6 H5 hm5 hml5 hmk5 r1 r2 r3 t3 hload
      go_still_tail 19, mixed
      still_call (seconds_any dt t1 t2 _)
      repeat still_step
      still_call (round_any _ _)
      repeat still_step
      refine wpStill_nil ?_
      change wpList Try.prog _ _ _ _ w5.drew
      clear hq1 hq2 hq3 hwr n7 e0 e1
      go_wp2_with fail
      go_roundw
      case rel => exact ⟨k + 1, by omega, by go_num, H6.out⟩
      case measure => simp [intOf]; omega
    · have hkL : k = L := by omega
      subst hkL
      have hs2 := St2.of hs hqv
      rw [← Cx.loadsA_zero _ d0 hc.ll] at hs2
      go_wp2_with fail
      clear hs hst
      go_loopw [92] (fun i wr => ∃ (j : Nat) (qv : Value), j ≤ k ∧ i = .int .i64 j ∧ St2 E w wr (E.c.loadsA d0 j) (E.c.frA d0 k) (E.c.ms d0 k k) qv (seqA E.seq j) (E.c.heapA d0 E.seq j)) (fun i _ => k - (intOf i).toNat)
      case atStart => exact ⟨0, _, Nat.zero_le _, rfl, hs2⟩
      case round =>
        clear hs2
        obtain ⟨j, qv, hj, rfl, hs⟩ := hrel
        by_cases hjk : j < k
        · obtain ⟨d, hd⟩ : ∃ d, d = d0 + j := ⟨_, rfl⟩
          have hdn : d < E.c.n := by omega
          have hmj := E.c.ms_get d0 k k j hjk
          rw [if_pos hjk, ← hd] at hmj
          obtain ⟨cs, hrow⟩ := hs.row
          have hml := E.c.ms_length d0 k k
          have hm := fun i hi => hrow.get j i (by rw [hml]; exact hjk) hi
          rw [hmj] at hm
          have Hd := hide2 hd
          clear hd hmj hml hrow
          have c0 : wr.cell? ⟨E.gb, j * 15, none⟩ = some (.int .i64 (E.c.msg d).tat) := hm 0 (by omega)
          have c1 : wr.cell? ⟨E.gb, j * 15 + 1, none⟩ = some (.int .i64 (E.c.msg d).sent) := hm 1 (by omega)
          have c2 : wr.cell? ⟨E.gb, j * 15 + 2, none⟩ = some (.int .u64 (E.c.msg d).seq) := hm 2 (by omega)
          have c3 : wr.cell? ⟨E.gb, j * 15 + 3, none⟩ = some (.int .i64 E.c.n) := by rw [hm 3 (by omega), ← hc.src]; rfl
          have c4 : wr.cell? ⟨E.gb, j * 15 + 4, none⟩ = some (.int .i64 d) := hm 4 (by omega)
          have c5 : wr.cell? ⟨E.gb, j * 15 + 5, none⟩ = some (.int .u8 (E.c.msg d).prim) := hm 5 (by omega)
          have c6 : wr.cell? ⟨E.gb, j * 15 + 6, none⟩ = some (.int .u8 (E.c.msg d).kind) := hm 6 (by omega)
          have c7 : wr.cell? ⟨E.gb, j * 15 + 7, none⟩ = some (.int .i64 (E.c.msg d).origin) := hm 7 (by omega)
          have c8 : wr.cell? ⟨E.gb, j * 15 + 8, none⟩ = some (.int .i64 (E.c.msg d).dest) := hm 8 (by omega)
          have c9 : wr.cell? ⟨E.gb, j * 15 + 9, none⟩ = some (.int .i64 (E.c.msg d).value) := hm 9 (by omega)
          have c10 : wr.cell? ⟨E.gb, j * 15 + 10, none⟩ = some (.int .i64 (E.c.msg d).writer) := hm 10 (by omega)
          have c11 : wr.cell? ⟨E.gb, j * 15 + 11, none⟩ = some (.int .i64 (E.c.msg d).counter) := hm 11 (by omega)
          have c12 : wr.cell? ⟨E.gb, j * 15 + 12, none⟩ = some (.int .i64 (E.c.load d)) := hm 12 (by omega)
          have c13 : wr.cell? ⟨E.gb, j * 15 + 13, none⟩ = some (.int .i64 (E.c.msg d).rord) := hm 13 (by omega)
          have c14 : wr.cell? ⟨E.gb, j * 15 + 14, none⟩ = some (.int .i64 (E.c.msg d).oord) := hm 14 (by omega)
          have H0 := hide2 hs
          clear hm hs
          go_wp2_with fail
          obtain ⟨BL, hBL⟩ : ∃ BL : List Value, BL = [.int .i64 (E.c.msg d).tat, .int .i64 (E.c.msg d).sent, .int .u64 (E.c.msg d).seq, .int .i64 E.c.n, .int .i64 d, .int .u8 (E.c.msg d).prim, .int .u8 (E.c.msg d).kind, .int .i64 (E.c.msg d).origin, .int .i64 (E.c.msg d).dest, .int .i64 (E.c.msg d).value, .int .i64 (E.c.msg d).writer, .int .i64 (E.c.msg d).counter, .int .i64 (E.c.load d), .int .i64 (E.c.msg d).rord, .int .i64 (E.c.msg d).oord] := ⟨_, rfl⟩
          have hX : Blk (wr.alloc (.cells BL.toArray 64)) wr.heap.size BL 64 := Blk.new wr BL 64
          have hA := H0.out.alloc (.cells BL.toArray 64)
          have hHge : w.heap.size ≤ wr.heap.size := H0.out.kept.size
          rw [hBL] at hX hA
          clear hBL BL c0 c1 c2 c3 c4 c5 c6 c7 c8 c9 c10 c11 c12 c13 c14 H0
          generalize wr.heap.size = H at *
          generalize hWA : wr.alloc _ = WA at hX hA ⊢
          clear hWA wr
          -- the relay's load
          have hXc := hX.cell
          have l4 : WA.cell? ⟨E.b, 4, none⟩ = some (.slice (some ⟨E.gl, 0, none⟩) (E.c.n + 1) E.cl) := by rw [hA.net.cell]; rfl
          have ln : WA.cell? ⟨E.gl, E.c.n, none⟩ = some (.int .i64 (E.c.sumA d0 j)) := by rw [hA.lds.cell, ints_get _ _ (by rw [Cx.loadsA_length]; omega), Cx.loadsA_get _ _ _ _ (by omega), if_pos rfl]
          have lnf := hA.lds.frozen E.c.n
          have hn2 := hc.n2
          have hs1 := (hA.setLoad ha hin E.c.n (wrap64 (E.c.sumA d0 j + E.c.load d))).drew
          have hHl : E.gl ≠ H := by have := hin.l; omega
          have hX1 := (hX.setOther (p := ⟨E.gl, E.c.n, none⟩) hHl (.int .i64 (wrap64 (E.c.sumA d0 j + E.c.load d)))).drew
          have HS1 := hide2 hs1
          have HX1 := hide2 hX1
          clear hs1 hX1 hA hX
          have i1 : (E.c.n : Int) < (E.c.n : Int) + 1 := by omega
          have i2 : (d : Int) < (E.c.n : Int) + 1 := by omega
          have i3 : (0 : Int) ≤ (E.c.n : Int) := by omega
          have i4 : (0 : Int) ≤ (d : Int) := by omega
          go_still_tail 11, mixed
          change wpList Try.prog _ _ _ _ WA.drew
          go_wp2_with fail
          change Hid (St2 E w (WA.setCell ⟨E.gl, E.c.n, none⟩ (.int .i64 (wrap64 (E.c.sumA d0 j + E.c.load d)))).drew _ _ _ _ _ _) at HS1
          change Hid (Blk (WA.setCell ⟨E.gl, E.c.n, none⟩ (.int .i64 (wrap64 (E.c.sumA d0 j + E.c.load d)))).drew _ _ _) at HX1
          generalize (WA.setCell ⟨E.gl, E.c.n, none⟩ (.int .i64 (wrap64 (E.c.sumA d0 j + E.c.load d)))).drew = WB at *
          clear hXc l4 ln lnf
          -- the process's load
          have hX := HX1.out
          have hA := HS1.out
          have hXc := hX.cell
          have l4 : WB.cell? ⟨E.b, 4, none⟩ = some (.slice (some ⟨E.gl, 0, none⟩) (E.c.n + 1) E.cl) := by rw [hA.net.cell]; rfl
          have ln : WB.cell? ⟨E.gl, d, none⟩ = some (.int .i64 (E.c.loads.getD d 0)) := by
            rw [hA.lds.cell, ints_get _ _ (by rw [List.length_set, Cx.loadsA_length]; omega)]
            rw [List.getD, List.getElem?_set_ne (by omega), ← List.getD, Cx.loadsA_get _ _ _ _ (by omega), if_neg (by omega), if_neg (by have := Hd.out; omega)]
          have lnf := hA.lds.frozen d
          obtain ⟨ld, hld⟩ : ∃ ld, ld = E.c.loads.getD d 0 := ⟨_, rfl⟩
          rw [← hld] at ln
          have hs1 := (hA.setLoad ha hin d (wrap64 (ld + E.c.load d))).drew
          rw [show ((E.c.loadsA d0 j).set E.c.n (wrap64 (E.c.sumA d0 j + E.c.load d))).set d (wrap64 (ld + E.c.load d)) = E.c.loadsA d0 (j + 1) from by
            have := E.c.loadsA_set d0 j (by rw [← Hd.out]; exact hdn)
            rw [← Hd.out] at this; rw [hld]; exact this] at hs1
          have hX1 := (hX.setOther (p := ⟨E.gl, d, none⟩) hHl (.int .i64 (wrap64 (ld + E.c.load d)))).drew
          have HS2 := hide2 hs1
          have HX2 := hide2 hX1
          clear hs1 hX1 hA hX HS1 HX1 hld
          go_still_tail 11, mixed
          change wpList Try.prog _ _ _ _ WB.drew
          have hXc2 := HX2.out.cell
          change ∀ i, (WB.setCell ⟨E.gl, d, none⟩ (.int .i64 (wrap64 (ld + E.c.load d)))).cell? ⟨H, i, none⟩ = _ at hXc2
          clear hXc
          go_wp2_with fail
          change Hid (St2 E w (WB.setCell ⟨E.gl, d, none⟩ (.int .i64 (wrap64 (ld + E.c.load d)))).drew _ _ _ _ _ _) at HS2
          generalize (WB.setCell ⟨E.gl, d, none⟩ (.int .i64 (wrap64 (ld + E.c.load d)))).drew = WC at *
          have hagg : Value.agg #[.int .i64 (E.c.msg d).tat, .int .i64 (E.c.msg d).sent, .int .u64 (E.c.msg d).seq, .int .i64 E.c.n, .int .i64 d, .int .u8 (E.c.msg d).prim, .int .u8 (E.c.msg d).kind, .int .i64 (E.c.msg d).origin, .int .i64 (E.c.msg d).dest, .int .i64 (E.c.msg d).value, .int .i64 (E.c.msg d).writer, .int .i64 (E.c.msg d).counter, .int .i64 (E.c.load d), .int .i64 (E.c.msg d).rord, .int .i64 (E.c.msg d).oord] = aggOf (E.c.msg d) := by
            rw [← hc.src]; rfl
          rw [hagg]
          clear hagg hXc2 HX2 l4 ln lnf
          have hlj := E.c.heapA_length d0 E.seq j
          have hneb : qv.ownBlock ≠ some E.b := fun e => by have h1 := HS2.out.fresh _ e; have h2 := hin.b; omega
          have Hlj := hide2 hlj
          clear hlj
          refine (push_any E.b E.c.n E.c.now qv (seqA E.seq j) E.lv E.tv E.fv E.c.tr E.rel E.sv (E.c.heapA d0 E.seq j) (E.c.msg d) WC HS2.out.net HS2.out.que hneb (by rw [Hlj.out]; omega)).mono ?_
          rintro e w' ⟨rfl, happ⟩
          obtain ⟨qv', hs'⟩ := HS2.out.push ha hin happ
          have HS3 := hide2 hs'
          clear hs' happ HS2 hneb
          go_wp2_with fail
          go_roundw
          case rel => exact ⟨j + 1, qv', by omega, by go_num, by have := HS3.out; rw [Hd.out] at this; exact this⟩
          case measure => simp [intOf]; omega
        · have e : j = k := by omega
          subst e
          go_wp2_with fail
          go_end0
          exact ⟨rfl, qv, hs⟩

end Go.Proofs.Qxb6612705a
