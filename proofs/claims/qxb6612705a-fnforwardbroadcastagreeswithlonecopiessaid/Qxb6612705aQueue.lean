import Derived.Test.Qxb6612705aSmall
namespace Go.Proofs.Qxb6612705a
open Go.RowKit
open Fl

set_option maxHeartbeats 800000 in
theorem bytes_any (now seq rel : Int) (tr : Nat) (a0 a1 : Option Addr) (l0 c0 l1 c1 : Nat) (m : FM) (w : World) :
    Calls Try.prog 7 #[.int .i64 now, .int .u64 seq, .int .i64 rel, .float .f64 tr, .slice a0 l0 c0, .slice a1 l1 c1, fmAgg m] w fun e w' => (e = .returned (.bool false) ∨ e = .returned (.bool true)) ∧ New w w' := by
  unfold fmAgg
  by_cases h1 : (1048576 : Int) < l0
  · go_enter Try.func7, Try.ntmps7
    go_wp2
    go_ret
    exact ⟨.inl rfl, (Kept.refl _ w).alloc _⟩
  · by_cases h2 : (1048576 : Int) < l1
    · go_enter Try.func7, Try.ntmps7
      go_wp2
      go_ret
      exact ⟨.inl rfl, (Kept.refl _ w).alloc _⟩
    · by_cases h3 : (1048576 : Int) < l0 + l1
      · go_enter Try.func7, Try.ntmps7
        go_wp2
        go_ret
        exact ⟨.inl rfl, (Kept.refl _ w).alloc _⟩
      · go_enter Try.func7, Try.ntmps7
        go_wp2
        go_ret
        exact ⟨.inr rfl, (Kept.refl _ w).alloc _⟩

theorem Try.info33 : (Try.prog.info? 33).map (fun i => (i.zero, i.size, i.bytes)) = some (some msgZero, 15, 112) := by kernel_rfl
theorem size33 (m : Msg) : (Try.prog.info? 33).map (·.size) = some (msgCells m).length := by rw [msgCells_length]; kernel_rfl

theorem made_msgs (n : Nat) : madeCells msgZero.cells (n * 15) = (flat (List.replicate n noMsg)).toArray := by
  have hz : msgZero.cells = (msgCells noMsg).toArray := by simp [msgZero, Value.cells, msgCells, noMsg]
  rw [hz]
  apply Array.ext
  · simp [madeCells, flat_length]
  · intro i h1 h2
    have hi : i < n * 15 := by simpa [madeCells] using h1
    have e := flat_get_at (List.replicate n noMsg) (i / 15) (i % 15) (by simp; omega) (by omega)
    rw [show i / 15 * 15 + i % 15 = i from by omega] at e
    have hr : (List.replicate n noMsg).getD (i / 15) noMsg = noMsg := by simp only [List.getD, List.getElem?_replicate]; split <;> rfl
    rw [hr] at e
    have h3 : i < (flat (List.replicate n noMsg)).length := by simpa using h2
    rw [List.getElem?_eq_getElem h3, List.getElem?_eq_getElem (by rw [msgCells_length]; omega)] at e
    simp only [madeCells, Array.getElem_map, Array.getElem_range, List.size_toArray, msgCells_length, List.getElem_toArray]
    rw [Option.some.inj e]
    rw [getElem!_pos _ _ (by simp [msgCells_length]; omega)]
    simp

/-- 'make([]ZZMessage, n)'. -/
theorem run_make35 (n : Nat) (hn : n ≤ 65536) (w : World) : (Instr.makeSlice 35 (.int .i64 (n : Int)) (.int .i64 (n : Int))).run Try.prog w = .ok (.slice (some ⟨w.heap.size, 0, none⟩) n n) (w.alloc (.cells (flat (List.replicate n noMsg)).toArray 33)) := by
  obtain ⟨i, hi, hz0, hz1, hz2⟩ := info_parts Try.info33
  have := run_make (P := Try.prog) w 35 33 i msgZero Try.underlying35 hi hz0 .i64 .i64 (n : Int) (n : Int) (by omega) (by omega) (by rw [hz2]; omega) (by omega)
  rw [hz1, Int.toNat_natCast, made_msgs] at this
  exact this

/-- The copies behind k rounds. -/
def outA (h : List Msg) (k : Nat) : List Msg := (List.range h.length).map fun i => if i < k then h.getD i noMsg else noMsg
theorem outA_length (h : List Msg) (k : Nat) : (outA h k).length = h.length := by simp [outA]
theorem outA_zero (h : List Msg) : outA h 0 = List.replicate h.length noMsg := by
  simp [outA, List.map_const']
theorem outA_set (h : List Msg) (k : Nat) (hk : k < h.length) : (outA h k).set k (h.getD k noMsg) = outA h (k + 1) := by
  apply List.ext_getElem?
  intro i
  simp only [outA, List.getElem?_set, List.getElem?_map, List.length_map, List.length_range]
  by_cases e : k = i
  · subst e
    rw [if_pos rfl, if_pos hk, List.getElem?_range hk, Option.map_some, if_pos (by omega)]
  · rw [if_neg e]
    by_cases hi : i < h.length
    · simp only [List.getElem?_range hi, Option.map_some]
      congr 1
      by_cases h1 : i < k
      · rw [if_pos h1, if_pos (by omega)]
      · rw [if_neg h1, if_neg (by omega)]
    · rw [List.getElem?_eq_none (by simp; omega)]; rfl
theorem outA_all (h : List Msg) : outA h h.length = h := by
  apply List.ext_getElem?
  intro i
  simp only [outA, List.getElem?_map]
  by_cases hi : i < h.length
  · rw [List.getElem?_range hi, Option.map_some, if_pos hi, List.getElem?_eq_getElem hi]; simp [List.getD, List.getElem?_eq_getElem hi]
  · rw [List.getElem?_eq_none (by simp; omega), List.getElem?_eq_none (by omega)]; rfl

set_option maxRecDepth 100000 in
set_option maxHeartbeats 1600000 in
theorem queue_any (b : Nat) (qv : Value) (h : List Msg) (w : World) (h1 : 1 ≤ h.length) (hn : h.length ≤ 65536) (h2 : w.cell? ⟨b, 2, none⟩ = some qv) (hq : w.ownsRow 0 64 15 qv h.length (flat h)) (hb : b < w.heap.size) :
    Calls Try.prog 12 #[.pointer (some ⟨b, 0, none⟩)] w fun e w' => ∃ g, e = .returned (.slice (some ⟨g, 0, none⟩) h.length h.length) ∧ w.heap.size ≤ g ∧ Blk w' g (flat h) 33 ∧ New w w' := by
  obtain ⟨g, cap, cs, hR⟩ := Row.of hq h1
  have hv := hR.val
  subst hv
  have HR := hide2 hR
  have hmk := run_make35 h.length hn
  clear hR hq
  go_enter Try.func12, Try.ntmps12
  go_wp2
  have hB0 := Blk.new w (flat (List.replicate h.length noMsg)) 33
  rw [← outA_zero] at hB0
  rw [← outA_zero]
  have hK0 : New w (w.alloc (.cells (flat (outA h 0)).toArray 33)) := (Kept.refl _ w).alloc _
  clear hmk
  go_loopw [16] (fun i wr => ∃ k : Nat, k ≤ h.length ∧ i = .int .i64 k ∧ Blk wr w.heap.size (flat (outA h k)) 33 ∧ New w wr) (fun i _ => h.length - (intOf i).toNat)
  case atStart => exact ⟨0, Nat.zero_le _, rfl, hB0, hK0⟩
  case round =>
    clear hB0 hK0
    obtain ⟨k, hk, rfl, hB, hK⟩ := hrel
    by_cases hlt : k < h.length
    · have hgw := HR.out.blk.lt
      have hR := HR.out.kept hK (fun e => e)
      have hc2 : wr.cell? ⟨b, 2, none⟩ = some (.slice (some ⟨g, 0, none⟩) h.length cap) := by
        rw [World.cell?_of_block (w := w) (hK.block b hb (fun e => e))]; exact h2
      have hbw : b < wr.heap.size := Nat.lt_of_lt_of_le hb hK.size
      have hm := fun i hi => hR.get k i hlt hi
      obtain ⟨mk, hmk⟩ : ∃ mk, mk = h.getD k noMsg := ⟨_, rfl⟩
      rw [← hmk] at hm
      have c0 : wr.cell? ⟨g, k * 15, none⟩ = some (.int .i64 mk.tat) := hm 0 (by omega)
      have c1 : wr.cell? ⟨g, k * 15 + 1, none⟩ = some (.int .i64 mk.sent) := hm 1 (by omega)
      have c2 : wr.cell? ⟨g, k * 15 + 2, none⟩ = some (.int .u64 mk.seq) := hm 2 (by omega)
      have c3 : wr.cell? ⟨g, k * 15 + 3, none⟩ = some (.int .i64 mk.src) := hm 3 (by omega)
      have c4 : wr.cell? ⟨g, k * 15 + 4, none⟩ = some (.int .i64 mk.dst) := hm 4 (by omega)
      have c5 : wr.cell? ⟨g, k * 15 + 5, none⟩ = some (.int .u8 mk.prim) := hm 5 (by omega)
      have c6 : wr.cell? ⟨g, k * 15 + 6, none⟩ = some (.int .u8 mk.kind) := hm 6 (by omega)
      have c7 : wr.cell? ⟨g, k * 15 + 7, none⟩ = some (.int .i64 mk.origin) := hm 7 (by omega)
      have c8 : wr.cell? ⟨g, k * 15 + 8, none⟩ = some (.int .i64 mk.dest) := hm 8 (by omega)
      have c9 : wr.cell? ⟨g, k * 15 + 9, none⟩ = some (.int .i64 mk.value) := hm 9 (by omega)
      have c10 : wr.cell? ⟨g, k * 15 + 10, none⟩ = some (.int .i64 mk.writer) := hm 10 (by omega)
      have c11 : wr.cell? ⟨g, k * 15 + 11, none⟩ = some (.int .i64 mk.counter) := hm 11 (by omega)
      have c12 : wr.cell? ⟨g, k * 15 + 12, none⟩ = some (.int .i64 mk.load) := hm 12 (by omega)
      have c13 : wr.cell? ⟨g, k * 15 + 13, none⟩ = some (.int .i64 mk.rord) := hm 13 (by omega)
      have c14 : wr.cell? ⟨g, k * 15 + 14, none⟩ = some (.int .i64 mk.oord) := hm 14 (by omega)
      have hkl : (k : Int) < (h.length : Int) := by omega
      have HB := hide2 hB
      have HK := hide2 hK
      have Hmk := hide2 hmk
      clear hm hR hB hK hmk
      go_wp2_with fail
      refine (fromMessage_any mk wr).mono ?_
      rintro e w' ⟨rfl, hnew⟩
      clear c0 c1 c2 c3 c4 c5 c6 c7 c8 c9 c10 c11 c12 c13 c14
      dsimp only
      rename_i hKK
      refine hKK _ _ ?_
      refine wpList_plain rfl fun K hK2 => ?_
      go_simp
      refine hK2 _ _ ?_
      clear hK2 K
      have hB1 := HB.out.kept hnew (fun e => e)
      have hth : w'.there w.heap.size (k * 15) (msgCells mk).toArray.size := by
        intro j hj
        have hj' : j < 15 := by simpa [msgCells_length] using hj
        refine ⟨?_, hB1.frozen _⟩
        rw [hB1.cell, flat_get_at _ _ _ (by rw [outA_length]; exact hlt) hj', List.getElem?_eq_getElem (by rw [msgCells_length]; exact hj')]; rfl
      refine wpList_store_mid rfl 33 (.tmp 29) (.tmp 28) rfl w.heap.size (k * 15) (msgCells mk).toArray rfl rfl hth (by simpa using size33 mk) (all_oneCell_toArray (msgCells_one mk)) ?_
      have hB2 : Blk (w'.setCells w.heap.size (k * 15) (msgCells mk)) w.heap.size (flat (outA h (k + 1))) 33 := by
        have := Blk.setCells (msgCells mk) (k * 15) w' _ hB1
        rw [flat_setFrom _ _ _ (by rw [outA_length]; exact hlt), Hmk.out, outA_set h k hlt, ← Hmk.out] at this
        exact this
      have hK2 : New w (w'.setCells w.heap.size (k * 15) (msgCells mk)) := Kept.setCells (.inr (Nat.le_refl _)) _ _ _ (HK.out.trans ((hnew.mono (fun _ _ e => e))))
      have hB3 := hide2 hB2
      have hK3 := hide2 hK2
      clear hB2 hK2 hth hB1 hnew
      rw [List.toList_toArray]
      generalize w'.setCells w.heap.size (k * 15) (msgCells mk) = w9 at *
      go_wp2_with fail
      go_roundw
      case rel => exact ⟨k + 1, by omega, by go_num, hB3.out, hK3.out⟩
      case measure => simp [intOf]; omega
    · have e : k = h.length := by omega
      subst e
      rw [outA_all] at hB
      have HB := hide2 hB
      have HK := hide2 hK
      clear hB hK
      go_wp2_with fail
      go_ret
      exact ⟨w.heap.size, rfl, Nat.le_refl _, HB.out, HK.out⟩

end Go.Proofs.Qxb6612705a
