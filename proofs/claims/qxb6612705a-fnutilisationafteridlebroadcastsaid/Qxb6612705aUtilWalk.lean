import Derived.Test.Qxb6612705aIdle
import Derived.Deep.RegionWith
namespace Go.Proofs.Qxb6612705a
open Go.RowKit
open Fl

set_option maxHeartbeats 400000 in
theorem util_out (n now : Int) (tr : Nat) (w : World)
    (hh : n < 1 ∨ 65536 < n ∨ now < 0 ∨ 4611686018427387904 < now ∨ (FloatKind.f64.format.order tr 0 == some .gt || FloatKind.f64.format.order tr 0 == some .eq) = false ∨ (FloatKind.f64.format.order tr 4607182418800017408 == some .lt || FloatKind.f64.format.order tr 4607182418800017408 == some .eq) = false) :
    Calls Try.prog 4 #[.int .i64 n, .int .i64 now, .float .f64 tr] w fun e w' => e = .returned (.bool true) ∧ Below w.heap.size w w' := by
  by_cases h1 : n < 1
  · clear hh
    go_enter Try.func4, Try.ntmps4
    go_wp2
    go_ret
    exact ⟨rfl, Below.refl _ _⟩
  by_cases h2 : 65536 < n
  · clear hh
    go_enter Try.func4, Try.ntmps4
    go_wp2
    go_ret
    exact ⟨rfl, Below.refl _ _⟩
  by_cases h3 : now < 0
  · clear hh
    go_enter Try.func4, Try.ntmps4
    go_wp2
    go_ret
    exact ⟨rfl, Below.refl _ _⟩
  by_cases h4 : 4611686018427387904 < now
  · clear hh
    go_enter Try.func4, Try.ntmps4
    go_wp2
    go_ret
    exact ⟨rfl, Below.refl _ _⟩
  have h56 : (FloatKind.f64.format.order tr 0 == some .gt || FloatKind.f64.format.order tr 0 == some .eq) = false ∨ (FloatKind.f64.format.order tr 4607182418800017408 == some .lt || FloatKind.f64.format.order tr 4607182418800017408 == some .eq) = false := by
    rcases hh with h | h | h | h | h
    · exact absurd h h1
    · exact absurd h h2
    · exact absurd h h3
    · exact absurd h h4
    · exact h
  clear hh
  rcases h56 with h5 | h6
  · go_enter Try.func4, Try.ntmps4
    go_wp2
    go_ret
    exact ⟨rfl, Below.refl _ _⟩
  · by_cases h5 : (FloatKind.f64.format.order tr 0 == some .gt || FloatKind.f64.format.order tr 0 == some .eq) = true
    · go_enter Try.func4, Try.ntmps4
      go_wp2
      go_ret
      exact ⟨rfl, Below.refl _ _⟩
    · have h5' : (FloatKind.f64.format.order tr 0 == some .gt || FloatKind.f64.format.order tr 0 == some .eq) = false := by simpa using h5
      clear h5
      go_enter Try.func4, Try.ntmps4
      go_wp2
      go_ret
      exact ⟨rfl, Below.refl _ _⟩

/-- What the law's network is, made: its pointer v, in world w2. -/
def IdleNet (n : Nat) (now : Int) (tr : Nat) (w w2 : World) (v : Value) : Prop :=
  ∃ b gl gf tv, v = .pointer (some ⟨b, 0, none⟩) ∧ Blk w2 b (netCells n now (.slice none 0 0) 0 (.slice (some ⟨gl, 0, none⟩) (n + 1) (n + 1)) tv (.slice (some ⟨gf, 0, none⟩) n n) tr 0 (.slice none 0 0)) 59 ∧
    Blk w2 gl (ints (List.replicate (n + 1) 0)) 2 ∧ Blk w2 gf (ints (List.replicate n 0)) 54 ∧ b ≠ gl ∧ b ≠ gf ∧ gl ≠ gf ∧ w.heap.size ≤ b ∧ w.heap.size ≤ gl ∧ w.heap.size ≤ gf ∧ Below w.heap.size w w2

theorem blk_at {w : World} {g g' : Nat} {cs : List Value} {t : TypeId} (h : Blk w g cs t) (e : g' = g) : Blk w g' cs t := e ▸ h

theorem three0 (w : World) (cs : List Value) (t : TypeId) (o1 o2 : Obj) : Blk (((w.alloc (.cells cs.toArray t)).alloc o1).alloc o2).drew w.heap.size cs t := (((Blk.new w cs t).alloc o1).alloc o2).drew
theorem three1 (w : World) (cs : List Value) (t : TypeId) (o1 o2 : Obj) : Blk (((w.alloc o1).alloc (.cells cs.toArray t)).alloc o2).drew (w.heap.size + 1) cs t := (blk_at (Blk.new (w.alloc o1) cs t) (by simp)).alloc o2
theorem three2 (w : World) (cs : List Value) (t : TypeId) (o1 o2 : Obj) : Blk (((w.alloc o1).alloc o2).alloc (.cells cs.toArray t)).drew (w.heap.size + 1 + 1) cs t := blk_at (Blk.new ((w.alloc o1).alloc o2) cs t) (by simp)

theorem newNetwork_idle (n : Nat) (now : Int) (tr : Nat) (bl bt bf : Nat) (w W : World) (h1 : 1 ≤ n) (h2 : n ≤ 65536)
    (hl : Blk W bl (ints (List.replicate (n + 1) 0)) 2) (ht : Blk W bt (ints (List.replicate n 0)) 2) (hf : Blk W bf (ints (List.replicate n 0)) 2) (hw : w.heap.size ≤ bl) (hB : Below w.heap.size w W) :
    Calls Try.prog 9 #[.int .i64 n, .int .i64 now, .int .u64 0, .slice (some ⟨bl, 0, none⟩) (n + 1) (n + 1), .slice (some ⟨bt, 0, none⟩) n n, .slice (some ⟨bf, 0, none⟩) n n, .float .f64 tr, .int .i64 0] W fun e w' =>
      ∃ v, e = .returned v ∧ IdleNet n now tr w w' v := by
  have hb := hl.lt
  have hs := hB.size
  refine (newNetwork_any n now 0 _ bt 0 n bf 0 n (List.replicate n 0) (List.replicate n 0) tr 0 W h1 (by omega) (by simp) (by simp) ht.lt hf.lt _ _ _ rfl (fun i hi => by rw [ht.cell, Nat.zero_add, ints_get _ _ (by simpa using hi)]) (fun i hi => by rw [hf.cell, Nat.zero_add, ints_get _ _ (by simpa using hi)])).mono ?_
  rintro e w' ⟨rfl, rfl⟩
  refine ⟨_, rfl, W.heap.size + 2, bl, W.heap.size + 1, _, rfl, blk_at (Blk.new _ _ _) (by simp), ((hl.alloc _).alloc _).alloc _, (blk_at (Blk.new _ _ _) (by simp)).alloc _, by omega, by omega, by omega, by omega, by omega, by omega, ?_⟩
  exact Below.trans hB (Kept.below ((((Kept.refl (fun _ => False) W).alloc _).alloc _).alloc _) hB.size (fun _ _ h => h))

set_option maxRecDepth 100000 in
set_option maxHeartbeats 3200000 in
theorem util_main (n : Nat) (now : Int) (tr : Nat) (w : World) (h1 : 1 ≤ n) (h2 : n ≤ 65536) (h3 : 0 ≤ now) (h4 : now ≤ 4611686018427387904)
    (h5 : (FloatKind.f64.format.order tr 0 == some .gt || FloatKind.f64.format.order tr 0 == some .eq) = true) (h6 : (FloatKind.f64.format.order tr 4607182418800017408 == some .lt || FloatKind.f64.format.order tr 4607182418800017408 == some .eq) = true) (ht : TrOk tr) :
    Calls Try.prog 4 #[.int .i64 n, .int .i64 now, .float .f64 tr] w fun e w' => e = .returned (.bool true) ∧ Below w.heap.size w w' := by
  have hmk := run_make24 n (by omega)
  have hmk1 := run_make24 (n + 1) (by omega)
  have ec : ((n + 1 : Nat) : Int) = (n : Int) + 1 := by omega
  rw [ec] at hmk1
  clear ec
  have ew : IntKind.i64.wrap ((n : Int) + 1) = (n : Int) + 1 := IntWalk.i64_in _ (by omega)
  rw [← ew] at hmk1
  clear ew
  go_enter Try.func4, Try.ntmps4
  go_wp2
  go_cut [7] from 30 to 40 (fun v w2 => IdleNet n now tr w w2 v)
  case first =>
    go_region_with (go_at_call 9; (refine (newNetwork_idle n now tr _ _ _ w _ h1 h2 ?_ ?_ ?_ ?_ ?_).mono ?_; (iterate 3 (first | exact three0 .. | exact three1 .. | exact three2 ..)); omega; exact (((((Kept.refl (fun _ => False) w).alloc _).alloc _).alloc _).drew).below (Nat.le_refl _) (fun _ _ h => h); rintro e w' ⟨v, rfl, hI⟩))
    all_goals
      go_wp2_with fail
      go_meet
      exact hI
  case rest =>
    obtain ⟨b, gl, gf, tv, rfl, hN, hL, hF, hbl, hbf, hlf, sb, sl, sf, hB⟩ := hcut
    have HB := hide2 hB
    have HF := hide2 hF
    have HN := hide2 hN
    have HL := hide2 hL
    clear hB hF hN hL hmk hmk1
    go_wp2
    go_loopw [8] (fun e wr => ∃ k : Nat, k ≤ n + 1 ∧ e = .int .i64 k ∧ wc = wr) (fun e _ => n + 1 - (intOf e).toNat)
    case atStart => exact ⟨0, Nat.zero_le _, rfl, rfl⟩
    case round =>
      obtain ⟨k, hk, rfl, hw⟩ := hrel
      subst hw
      by_cases hlt : (k : Int) ≤ (n : Int)
      · have HU := hide2 (ZZutilisation_any b gl (n + 1) (n + 1) (k : Int) k 0 wc rfl (by omega) (by omega) (by omega) (by rw [HN.out.cell]; rfl) (by rw [HL.out.cell, ints_get _ _ (by simp; omega), rep_getD]; rfl))
        rw [utilB_zero] at HU
        have hq : (FloatKind.f64.format.order 0 0 != some .eq) = false := by decide +kernel
        go_wp2_with (go_at_call 20; refine HU.out.mono ?_; rintro e w' ⟨rfl, rfl⟩)
        go_roundw
        case rel => exact ⟨k + 1, by omega, by go_num, by trivial⟩
        case measure => simp [intOf]; omega
      · have e : k = n + 1 := by omega
        subst e
        have hok := idle_ok n now tr h1 h2 h3 h4 ht
        have HFW := hide2 (ZZforward_all b gl gf (n + 1) n tv (idleCx n now tr) idleMsg 0 0 wc hok rfl (by decide) hbl hbf hlf HN.out HL.out HF.out)
        clear hok HN HL HF
        go_wp2_with fail
        refine HFW.out.mono ?_
        clear HFW
        rintro e w' ⟨rfl, qv, sv, hN2, hL2, _, _, _, hK2⟩
        have HB2 : Hid (Below w.heap.size w w') := Below.trans HB.out (hK2.below HB.out.size (fun k hk hh => by rcases hh with rfl | rfl | rfl <;> omega))
        obtain ⟨b1, b2⟩ := idleLoad_bd tr ht
        have HUk : Hid (∀ (en : Int) (k : Nat), en = (k : Int) → k < n → Calls Try.prog 20 #[.pointer (some ⟨b, 0, none⟩), .int .i64 en] w' fun e w'' => e = .returned (.float .f64 (utilB (idleLoad tr).toNat)) ∧ w' = w'') := fun en k hen hk =>
          Calls.mono (ZZutilisation_any b gl (n + 1) (n + 1) en k (idleLoad tr).toNat w' hen (by omega) (by omega) (by omega) (by rw [hN2.cell]; rfl) (by
            rw [hL2.cell, ints_get _ _ (by rw [Cx.loadsA_length]; simp [idleCx]; omega)]
            show some (Value.int .i64 (((idleCx n now tr).loadsA 0 n).getD k 0)) = _
            rw [idle_loads_lo n now tr k h3 ht hk, Int.toNat_of_nonneg b1])) (fun e w'' h => ⟨h.1, h.2.symm⟩)
        have hnl : n * (idleLoad tr).toNat ≤ 65536 * 54975581388800 := Nat.mul_le_mul h2 (by omega)
        have HUn : Hid (Calls Try.prog 20 #[.pointer (some ⟨b, 0, none⟩), .int .i64 (n : Int)] w' fun e w'' => e = .returned (.float .f64 (utilB (n * (idleLoad tr).toNat))) ∧ w' = w'') :=
          Calls.mono (ZZutilisation_any b gl (n + 1) (n + 1) n n (n * (idleLoad tr).toNat) w' rfl (by omega) (by omega) (by omega) (by rw [hN2.cell]; rfl) (by
            rw [hL2.cell, ints_get _ _ (by rw [Cx.loadsA_length]; simp [idleCx])]
            show some (Value.int .i64 (((idleCx n now tr).loadsA 0 n).getD n 0)) = _
            rw [idle_loads_hi n now tr h3 ht h2])) (fun e w'' h => ⟨h.1, h.2.symm⟩)
        clear hN2 hL2 hK2 HB
        have hm1 := run_mul (mul_back (L := (idleLoad tr).toNat) (by omega))
        obtain ⟨l1, l2, _, _, _, _⟩ := load_facts (dt := 20000000) ht (by omega) (by omega)
        rw [sec_idle] at l1
        have hd1 := run_quo l1
        have hm2 := run_mul l2
        obtain ⟨d, hnd, hno⟩ := idle_near tr ht
        have hm3 := run_mul (relay_eq (n := n) (L := (idleLoad tr).toNat) h2 (by omega))
        rw [← floatOfInt_nat] at hm3
        obtain ⟨_, _, ui⟩ := util_facts (l := (idleLoad tr).toNat) (by omega)
        obtain ⟨_, _, un⟩ := util_facts (l := n * (idleLoad tr).toNat) (by omega)
        have ho1 : FloatKind.f64.format.order (utilB (idleLoad tr).toNat) (utilB (idleLoad tr).toNat) = some .eq := order_self ui
        have ho2 : FloatKind.f64.format.order (utilB (n * (idleLoad tr).toNat)) (utilB (n * (idleLoad tr).toNat)) = some .eq := order_self un
        have HNO := hide2 hno
        have HND := hide2 hnd
        clear l1 l2 hno hnd ui un hnl b1 b2 ht h3 h4 hlt
        generalize utilB (idleLoad tr).toNat = u at *
        generalize utilB (n * (idleLoad tr).toNat) = un at *
        generalize fI (idleLoad tr).toNat = fl at *
        generalize ldQ tr 20000000 = lq at *
        generalize ldY tr 20000000 = ly at *
        go_wp2_with (go_at_call 20; refine (HUk.out 0 0 rfl (by omega)).mono ?_; rintro e w'' ⟨rfl, rfl⟩)
        go_loopw [10] (fun e wr => ∃ k : Nat, 1 ≤ k ∧ k ≤ n ∧ e = .int .i64 k ∧ w' = wr) (fun e _ => n - (intOf e).toNat)
        case atStart => exact ⟨1, Nat.le_refl _, h1, rfl, rfl⟩
        case round =>
          obtain ⟨k, hk1, hk, rfl, hw⟩ := hrel
          subst hw
          by_cases hlt : (k : Int) < (n : Int)
          · go_wp2_with (go_at_call 20; refine (HUk.out _ k rfl (by omega)).mono ?_; rintro e w'' ⟨rfl, rfl⟩)
            go_roundw
            case rel => exact ⟨k + 1, by omega, by omega, by go_num, by trivial⟩
            case measure => simp [intOf]; omega
          · have e : k = n := by omega
            subst e
            go_wp2_with (first | (go_at_call 20; refine HUn.out.mono ?_; rintro e w'' ⟨rfl, rfl⟩) | (go_at_call 21; refine (near_any _ _ _ HND.out HNO.out _).mono ?_; rintro e w'' ⟨rfl, rfl⟩))
            go_ret
            exact ⟨rfl, HB2.out⟩

end Go.Proofs.Qxb6612705a
