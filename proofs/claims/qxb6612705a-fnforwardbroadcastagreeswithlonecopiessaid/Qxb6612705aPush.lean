import Derived.Test.Qxb6612705aHeap
import Derived.LoopTactic
import Derived.Deep.RegionLaw
import Derived.Deep.CutRange
import Derived.Deep.RegionHeld3
namespace Go.Proofs.Qxb6612705a
open Go.RowKit

theorem size64 (m : Msg) : (Try.prog.info? 64).map (·.size) = some (msgCells m).length := by rw [msgCells_length]; kernel_rfl

section
variable {P : Program} {ops : Array Oper} {Q : Exit → Act → World → Prop} {md : Region.Mode} {S : World → Prop}
/-- 'wpAnyH_take', the slot that is written given outright. -/
theorem take_as (i : Nat) (d : Option Nat) (v : Value) {oi : Oper} {fuel : Nat} {listed : Array Bool} {a : Act} {w : World} (hi : ops[i]? = some oi) (hd : oi.dst = d)
    (hs : Region.noSelect ops = true) (hf : Region.free md ops listed i = true) (hr : (Region.ready md ops listed).contains i = true)
    (hQ : ∀ c a w, Q (.panic c) (a.put oi.dst v) w → Q (.panic c) a w) (hy : YieldsIf P ops S oi v a) (hS : S w)
    (h : wpAnyH P md ops Q S fuel (listed.setIfInBounds i true) (a.put d v) w) : wpAnyH P md ops Q S (fuel + 1) listed a w := by
  subst hd
  exact wpAnyH_take hi hs hf hr hQ hy hS h
theorem wanted_none {o : Oper} {a : Act} (h : o.guard = none) : Region.wanted o (yielded ops a.tmps) = true := by simp [Region.wanted, h]
/-- A struct's load, the slot given outright. -/
theorem load_as {op : Oper} {a : Act} {w : World} {K : Act → World → Prop} (ty : TypeId) (x : Operand) (ho : op.op = .load ty x) (d' : Option Nat) (hd' : op.dst = d')
    (b o : Nat) (hx : a.eval x = .pointer (some ⟨b, o, none⟩)) (cs : List Value) (d : TypeDesc) (hc : w.rangeAt b o cs)
    (hu : P.underlying ty = some d) (hd : d.isRow = true) (hi : (P.info? ty).map (·.size) = some cs.length)
    (h : K (a.put d' (.agg cs.toArray)) w) : op.wp P a w K Q := by
  subst hd'
  exact wp_load_mid ty x ho b o hx cs d hc hu hd hi h
/-- A struct's store. -/
theorem store_as {op : Oper} {a : Act} {w : World} {K : Act → World → Prop} (ty : TypeId) (x y : Operand) (ho : op.op = .store ty x y) (hd' : op.dst = none)
    (b o : Nat) (cs : List Value) (hx : a.eval x = .pointer (some ⟨b, o, none⟩)) (hy : a.eval y = .agg cs.toArray)
    (ht : w.there b o cs.toArray.size) (hi : (P.info? ty).map (·.size) = some cs.length) (h1 : ∀ v ∈ cs, v.oneCell' = true)
    (h : K (a.put none undef) (w.setCells b o cs)) : op.wp P a w K Q := by
  have h' : K (a.put op.dst undef) (w.setCells b o cs.toArray.toList) := by rw [hd']; simpa using h
  exact wp_store_mid ty x y ho b o cs.toArray hx hy ht (by simpa using hi) (all_oneCell_toArray h1) h'
/-- One operation of a drawn region's step: a struct's load. -/
theorem step_load {listed : Array Bool} {fuel : Nat} {i : Nat} {op : Oper} {a : Act} {w : World} (hop : ops[i]? = some op) (hg : op.guard = none) (ty : TypeId) (x : Operand) (ho : op.op = .load ty x) (d' : Option Nat) (hd' : op.dst = d')
    (b o : Nat) (hx : a.eval x = .pointer (some ⟨b, o, none⟩)) (cs : List Value) (d : TypeDesc) (hc : w.rangeAt b o cs)
    (hu : P.underlying ty = some d) (hd : d.isRow = true) (hi : (P.info? ty).map (·.size) = some cs.length) (hS : S w)
    (h : wpAnyH P md ops Q S fuel (listed.setIfInBounds i true) (a.put d' (.agg cs.toArray)) w) (rs : List Nat) (hrs : AllReadyH P md ops Q S fuel listed a w rs) : AllReadyH P md ops Q S fuel listed a w (i :: rs) :=
  AllReadyH.cons hop (fun K' hK => by
    rw [if_pos (wanted_none hg)]
    exact load_as ty x ho d' hd' b o hx cs d hc hu hd hi (hK.out _ _ hS (fun _ => h))) hrs
/-- .. a struct's store. -/
theorem step_store {listed : Array Bool} {fuel : Nat} {i : Nat} {op : Oper} {a : Act} {w : World} (hop : ops[i]? = some op) (hg : op.guard = none) (ty : TypeId) (x y : Operand) (ho : op.op = .store ty x y) (hd' : op.dst = none)
    (b o : Nat) (cs : List Value) (hx : a.eval x = .pointer (some ⟨b, o, none⟩)) (hy : a.eval y = .agg cs.toArray)
    (ht : w.there b o cs.toArray.size) (hi : (P.info? ty).map (·.size) = some cs.length) (h1 : ∀ v ∈ cs, v.oneCell' = true) (hS : S (w.setCells b o cs))
    (h : wpAnyH P md ops Q S fuel (listed.setIfInBounds i true) a (w.setCells b o cs)) (rs : List Nat) (hrs : AllReadyH P md ops Q S fuel listed a w rs) : AllReadyH P md ops Q S fuel listed a w (i :: rs) :=
  AllReadyH.cons hop (fun K' hK => by
    rw [if_pos (wanted_none hg)]
    exact store_as ty x y ho hd' b o cs hx hy ht hi h1 (hK.out _ _ hS (fun _ => h))) hrs
end

/-- The network's block behind an append to another row. -/
theorem blk_grown {w w1 : World} {b : Nat} {cs : List Value} {t : TypeId} {row : Option Nat} {o : Obj} (h : Blk w b cs t) (hg : ((w.alloc o).drew).grownBy w1 row) (hne : row ≠ some b) : Blk w1 b cs t := by
  have h0 : Blk ((w.alloc o).drew) b cs t := (h.alloc _).drew
  unfold Blk
  rw [hg.block b h0.lt (Ne.symm hne)]; exact h0

/-- What the queue's append leaves. -/
def Appended (w w2 : World) (b : Nat) (n now : Int) (qv : Value) (s' : Int) (lv tv fv : Value) (tr : Nat) (rel : Int) (sv : Value) (h : List Msg) : Prop :=
  ∃ g cap cs, Row w2 (.slice (some ⟨g, 0, none⟩) h.length cap) g cap cs h ∧ Blk w2 b (netCells n now (.slice (some ⟨g, 0, none⟩) h.length cap) s' lv tv fv tr rel sv) 59 ∧ (qv.ownBlock = some g ∨ w.heap.size ≤ g) ∧ g ≠ b ∧ Kept (fun k => k = b ∨ qv.ownBlock = some k) w w2

theorem appended_of {w W w1 : World} {b : Nat} {n now : Int} {qv : Value} {s' : Int} {lv tv fv : Value} {tr : Nat} {rel : Int} {sv : Value} {h : List Msg} {m' : Msg} {g cap H : Nat} {o : Obj}
    (hB : Blk W b (netCells n now qv s' lv tv fv tr rel sv) 59) (hK : Kept (fun k => k = b ∨ qv.ownBlock = some k) w W) (hb : b < w.heap.size) (hH : w.heap.size ≤ H) (hne : qv.ownBlock ≠ some b)
    (hown : w1.ownsRow 0 64 15 (.slice (some ⟨g, 0, none⟩) (h.length + 1) cap) (h.length + 1) (flat h ++ msgCells m')) (hg : ((W.alloc o).drew).grownBy w1 qv.ownBlock) (hat : qv.ownBlock = some g ∨ g = H) :
    Appended w (w1.setCell ⟨b, 2, none⟩ (.slice (some ⟨g, 0, none⟩) (h.length + 1) cap)) b n now qv s' lv tv fv tr rel sv (h ++ [m']) := by
  have hB3 := blk_grown hB hg hne
  have K3 : Kept (fun k => k = b ∨ qv.ownBlock = some k) w w1 := ((hK.alloc _).drew).grown hg (fun k hk => .inl (.inr hk))
  have hgb : g ≠ b := by
    intro e
    rcases hat with hat | hat
    · exact hne (by rw [hat, e])
    · omega
  have hl : (h ++ [m']).length = h.length + 1 := by simp
  have hown2 : w1.ownsRow 0 64 15 (.slice (some ⟨g, 0, none⟩) (h.length + 1) cap) (h ++ [m']).length (flat (h ++ [m'])) := by
    rw [flat_append, flat_single, hl]; exact hown
  obtain ⟨cs, hR1⟩ : ∃ cs, Row w1 (.slice (some ⟨g, 0, none⟩) (h.length + 1) cap) g cap cs (h ++ [m']) := by
    obtain ⟨g', cap', cs, hR⟩ := Row.of hown2 (by simp)
    have hv := hR.val
    simp only [Value.slice.injEq, Option.some.injEq, Addr.mk.injEq] at hv
    obtain ⟨⟨rfl, _⟩, _, rfl⟩ := hv
    exact ⟨cs, hR⟩
  refine ⟨g, cap, cs, ?_, ?_, ?_, hgb, K3.setCell (p := ⟨b, 2, none⟩) (.inl (.inl rfl)) _⟩
  · rw [hl]; exact hR1.setOther (p := ⟨b, 2, none⟩) (Ne.symm hgb) _
  · rw [hl]; exact hB3.set 2 _
  · rcases hat with hat | hat
    · exact .inl hat
    · exact .inr (by omega)

set_option linter.unusedSimpArgs false in
set_option maxRecDepth 100000 in
set_option maxHeartbeats 6400000 in
theorem push_any (b : Nat) (n now : Int) (qv : Value) (seq : Int) (lv tv fv : Value) (tr : Nat) (rel : Int) (sv : Value) (h : List Msg) (m : Msg) (w : World)
    (hb : Blk w b (netCells n now qv seq lv tv fv tr rel sv) 59) (hq : w.ownsRow 0 64 15 qv h.length (flat h)) (hne : qv.ownBlock ≠ some b) (hlen : h.length ≤ 65536) :
    Calls Try.prog 39 #[.pointer (some ⟨b, 0, none⟩), aggOf m] w fun e w' => e = .returned (.tuple #[]) ∧ Appended w w' b n now qv (IntKind.u64.wrap (seq + 1)) lv tv fv tr rel sv (pushH h { m with seq := IntKind.u64.wrap (seq + 1) }) := by
  obtain ⟨i0, hi0, hz0, hz1, hz2⟩ := info_parts Try.info64z
  have hcb := hb.cell
  have hfb := hb.frozen
  have hbl := hb.lt
  unfold netCells at hcb
  obtain ⟨s', hs'⟩ : ∃ s', s' = IntKind.u64.wrap (seq + 1) := ⟨_, rfl⟩
  obtain ⟨m', hm'⟩ : ∃ m' : Msg, m' = { m with seq := s' } := ⟨_, rfl⟩
  have hbx : (msgCells m') = [.int .i64 m.tat, .int .i64 m.sent, .int .u64 s', .int .i64 m.src, .int .i64 m.dst, .int .u8 m.prim, .int .u8 m.kind, .int .i64 m.origin, .int .i64 m.dest, .int .i64 m.value, .int .i64 m.writer, .int .i64 m.counter, .int .i64 m.load, .int .i64 m.rord, .int .i64 m.oord] := by rw [hm']; rfl
  have hB1 : Blk (w.setCell ⟨b, 3, none⟩ (.int .u64 s')) b (netCells n now qv s' lv tv fv tr rel sv) 59 := hb.set 3 (.int .u64 s')
  have hQ1 : (w.setCell ⟨b, 3, none⟩ (.int .u64 s')).ownsRow 0 64 15 qv h.length (flat h) := by
    refine ⟨hq.1, ?_⟩
    rcases hq.2 with hn | ⟨g, cap, cur, hv, h0, hg, rest⟩
    · exact .inl hn
    · refine .inr ⟨g, cap, cur, hv, h0, ?_, rest⟩
      have : g ≠ b := fun e => hne (by rw [hv, e]; rfl)
      rw [Below.heap_setCell _ _ _ _ this]; exact hg
  have hX := Blk.new (w.setCell ⟨b, 3, none⟩ (.int .u64 s')) (msgCells m') 64
  rw [World.size_setCell] at hX
  have K1 : Kept (fun k => k = b ∨ qv.ownBlock = some k) w ((w.setCell ⟨b, 3, none⟩ (.int .u64 s')).alloc (.cells (msgCells m').toArray 64)) := ((Kept.refl _ w).setCell (.inl (.inl rfl)) _).alloc _
  have hsz : ((w.setCell ⟨b, 3, none⟩ (.int .u64 s')).alloc (.cells (msgCells m').toArray 64)).heap.size = w.heap.size + 1 := by simp
  have hB2 := hB1.alloc (.cells (msgCells m').toArray 64)
  have hQ2 := hQ1.alloc (.cells (msgCells m').toArray 64)
  have HW : Hid ((w.setCell ⟨b, 3, none⟩ (.int .u64 s')).alloc (.cells (msgCells m').toArray 64) = (w.setCell ⟨b, 3, none⟩ (.int .u64 (IntKind.u64.wrap (seq + 1)))).alloc (.cells #[.int .i64 m.tat, .int .i64 m.sent, .int .u64 (IntKind.u64.wrap (seq + 1)), .int .i64 m.src, .int .i64 m.dst, .int .u8 m.prim, .int .u8 m.kind, .int .i64 m.origin, .int .i64 m.dest, .int .i64 m.value, .int .i64 m.writer, .int .i64 m.counter, .int .i64 m.load, .int .i64 m.rord, .int .i64 m.oord] 64)) := by
    rw [hbx, hs']; rfl
  have HS : Hid (s' = IntKind.u64.wrap (seq + 1)) := hs'
  have HPost : Hid (∀ w', Appended w w' b n now qv s' lv tv fv tr rel sv (pushH h m') → Appended w w' b n now qv (IntKind.u64.wrap (seq + 1)) lv tv fv tr rel sv (pushH h { m with seq := IntKind.u64.wrap (seq + 1) })) := by
    rw [hm', hs']; exact fun _ h => h
  have HM : Hid (m' = { m with seq := s' }) := hm'
  clear hB1 hQ1 hs' hm' hbx
  unfold aggOf msgCells
  go_enter Try.func39, Try.ntmps39
  go_wp2
  rw [← HW.out]
  generalize (w.setCell ⟨b, 3, none⟩ (.int .u64 s')).alloc (.cells (msgCells m').toArray 64) = W at *
  have hbl0 := hbl
  have hqH : ∀ g, qv.ownBlock = some g → g ≠ w.heap.size := fun g hg e => by have := (hq.lt g hg).2; omega
  clear HW hcb hfb hbl hb hq
  have hc2 : W.cell? ⟨b, 2, none⟩ = some qv := by rw [hB2.cell]; rfl
  have hf2 := hB2.frozen 2
  have hcX := hX.cell
  unfold msgCells at hcX
  have hXl := hX.lt
  have hbl := hB2.lt
  have hneH : qv.ownBlock ≠ some w.heap.size := by
    intro e
    rcases hQ2.2 with ⟨hv, _⟩ | ⟨g, cap, cur, hv, _⟩
    · rw [hv] at e; cases e
    · exact hqH g (by rw [hv]; rfl) (by rw [hv] at e; exact (Option.some.inj e))
  have HB2 := hide2 hB2
  have HQ2 := hide2 hQ2
  have HK1 := hide2 K1
  have hbw : b < w.heap.size := hbl0
  clear hB2 hQ2 K1
  go_cut [] from 18 to 27 (fun w2 => Appended w w2 b n now qv s' lv tv fv tr rel sv (h ++ [m']))
  case first =>
    go_region_law ((refine step_append_lies _ (by rfl) (.tmp 22) (.tmp 24) 57 (by rfl) 0 64 i0 _ 15 112 Try.underlying57 hi0 hz0 hz1 hz2 rfl (by omega) qv h.length (flat h) (by rfl) ((HQ2.out.alloc _).drew) ⟨w.heap.size + 1, 0, none⟩ 1 1 (msgCells m') (by rfl) (by rfl) (World.news_of_block (cs := (msgCells m').toArray) (t := 64) (fr := (0, 0)) (by rw [← hsz]; exact heap_alloc_new W _)) (msgCells_one m') (by omega) (by unfold maxLen; omega) (by omega) (Nat.zero_le _) (w.heap.size + 2) (by simp [hsz]) ?_; intro g cap w1 hown1 hgrow hat hlt; have hcg := (blk_grown HB2.out hgrow hne).cell; have hfg := (blk_grown HB2.out hgrow hne).frozen; unfold netCells at hcg))
    all_goals (go_wp2_with fail; go_meet; exact appended_of HB2.out HK1.out hbw (by omega) hne hown1 hgrow hat)
  case rest =>
    clear HB2 HQ2 HK1 hsz hX hc2 hf2 hcX hXl hbl hneH hi0 hz0 hz1 hz2
    obtain ⟨g, cap, cs, hR2, hB4, hat, hgb, K4⟩ := hcut
    have hl : (h ++ [m']).length = h.length + 1 := by simp
    rw [hl] at hR2 hB4
    have hcb1 := hB4.cell
    unfold netCells at hcb1
    have HP : Hid (siftF h.length (h ++ [m']) h.length = pushH h m') := rfl
    have HL0 : Hid ((h ++ [m']).length = h.length + 1) := hl
    clear hl
    go_wp2
    generalize pushH h m' = T at *
    obtain ⟨QV, hQV⟩ : ∃ QV, QV = Value.slice (some ⟨g, 0, none⟩) (h.length + 1) cap := ⟨_, rfl⟩
    rw [← hQV] at hB4 hR2
    have HQV := hide2 hQV
    have HAT := hide2 hat
    clear hQV hcb1 hat
    have hR3 := hR2
    go_loopw [4] (fun si wr => ∃ (k f : Nat) (hk : List Msg) (cs : List Value), si = .int .i64 k ∧ k < hk.length ∧ Hid (hk.length = h.length + 1) ∧ k ≤ f ∧ Hid (siftF f hk k = T) ∧ Row wr QV g cap cs hk ∧ Blk wr b (netCells n now QV s' lv tv fv tr rel sv) 59 ∧ Kept (fun k => k = b ∨ qv.ownBlock = some k) w wr) (fun si _ => (intOf si).toNat)
    case atStart => exact ⟨h.length, h.length, h ++ [m'], cs, rfl, by simp, HL0, Nat.le_refl _, HP, hR2, hB4, K4⟩
    case round =>
      clear hR2 hR3 hB4 K4 HP cs
      obtain ⟨k, f, hk, cs, rfl, hkl, HL, hkf, HT, hR, hB, hK⟩ := hrel
      by_cases hz : k = 0
      · subst hz
        have HE : Hid (hk = T) := by have := HT.out; rw [siftF_zero] at this; exact this
        go_wp2
        go_end0
        refine ⟨rfl, HPost.out _ ?_⟩
        have hlen2 := HL.out
        rw [HE.out] at hlen2 hR
        exact ⟨g, cap, cs, by rw [hlen2, ← HQV.out]; exact hR, by rw [hlen2, ← HQV.out]; exact hB, HAT.out, hgb, hK⟩
      · obtain ⟨p, hp⟩ : ∃ p, p = (k - 1) / 2 := ⟨_, rfl⟩
        have hp1 : p < k := by omega
        obtain ⟨mk, hmk⟩ : ∃ x, x = hk.getD k noMsg := ⟨_, rfl⟩
        obtain ⟨mp, hmp⟩ : ∃ x, x = hk.getD p noMsg := ⟨_, rfl⟩
        have ck := fun j hj => hR.get k j hkl hj
        have cp := fun j hj => hR.get p j (by omega) hj
        rw [← hmk] at ck
        rw [← hmp] at cp
        have ck0 : wr.cell? ⟨g, k * 15, none⟩ = some (.int .i64 mk.tat) := ck 0 (by omega)
        have ck2 : wr.cell? ⟨g, k * 15 + 2, none⟩ = some (.int .u64 mk.seq) := ck 2 (by omega)
        have cp0 : wr.cell? ⟨g, p * 15, none⟩ = some (.int .i64 mp.tat) := cp 0 (by omega)
        have cp2 : wr.cell? ⟨g, p * 15 + 2, none⟩ = some (.int .u64 mp.seq) := cp 2 (by omega)
        have hq2 : wr.cell? ⟨b, 2, none⟩ = some (.slice (some ⟨g, 0, none⟩) (h.length + 1) cap) := by rw [hB.cell, HQV.out]; rfl
        have hpi : ((k : Int) - 1) / 2 = (p : Int) := by omega
        have hk0 : (0 : Int) < (k : Int) := by omega
        have hp0 : (0 : Int) ≤ (p : Int) := by omega
        have hkL : (k : Int) < (h.length : Int) + 1 := by have := HL.out; omega
        have hpL : (p : Int) < (h.length : Int) + 1 := by have := HL.out; omega
        have Hp := hide2 hp
        have Hmk := hide2 hmk
        have Hmp := hide2 hmp
        have Hck := hide2 ck
        have Hcp := hide2 cp
        clear hp hmk hmp ck cp
        by_cases hbf : beforeB mk.tat mk.seq mp.tat mp.seq = true
        · go_wp2
          go_quiet ((go_at_call 42; refine Calls.quiet_of (before_any g (k * 15) g (p * 15) mk.tat mk.seq mp.tat mp.seq _ ?_ ?_ ?_ ?_) <;> simp [*]))
          go_wp2
          rw [hpi]
          have hB' := hB.drewN nq
          have hR' := hR.drewN nq
          have hK' := hK.drewN nq
          generalize wr.drewN nq = wq at *
          have hq2' : wq.cell? ⟨b, 2, none⟩ = some (.slice (some ⟨g, 0, none⟩) (h.length + 1) cap) := by rw [hB'.cell, HQV.out]; rfl
          have hR'' := hR'.drew
          have hthk : wq.drew.there g (k * 15) (msgCells mp).toArray.size := hR''.there k hkl
          have hRow1 := hR''.setAll k mp hkl
          have hthp : (wq.drew.setCells g (k * 15) (msgCells mp)).there g (p * 15) (msgCells mk).toArray.size := hRow1.there p (by rw [List.length_set]; omega)
          obtain ⟨cs2, hRow2⟩ : ∃ cs2, Row ((wq.drew.setCells g (k * 15) (msgCells mp)).setCells g (p * 15) (msgCells mk)) QV g cap cs2 (swapAt hk k p) := by
            have := hRow1.setAll p mk (by rw [List.length_set]; omega)
            unfold swapAt; rw [← Hmk.out, ← Hmp.out]; exact ⟨_, this⟩
          have hBlk1 := Blk.setCellsOther hgb (msgCells mp) (k * 15) _ hB'.drew
          have hBlk2 := Blk.setCellsOther hgb (msgCells mk) (p * 15) _ hBlk1
          have hS1 : (wq.drew.setCells g (k * 15) (msgCells mp)).cell? ⟨b, 2, none⟩ = some (.slice (some ⟨g, 0, none⟩) (h.length + 1) cap) := by rw [hBlk1.cell, HQV.out]; rfl
          have hS2 : ((wq.drew.setCells g (k * 15) (msgCells mp)).setCells g (p * 15) (msgCells mk)).cell? ⟨b, 2, none⟩ = some (.slice (some ⟨g, 0, none⟩) (h.length + 1) cap) := by rw [hBlk2.cell, HQV.out]; rfl
          have hKept2 := Kept.setCells (S := fun k => k = b ∨ qv.ownBlock = some k) (a := w) (g := g) (by rcases HAT.out with h | h; exact .inl (.inr h); exact .inr h) (msgCells mk) (p * 15) _ (Kept.setCells (by rcases HAT.out with h | h; exact .inl (.inr h); exact .inr h) (msgCells mp) (k * 15) _ hK'.drew)
          go_cut [] from 34 to 79 (fun w2 => ∃ cs', Row w2 QV g cap cs' (swapAt hk k p) ∧ Blk w2 b (netCells n now QV s' lv tv fv tr rel sv) 59 ∧ Kept (fun k => k = b ∨ qv.ownBlock = some k) w w2)
          case first =>
            refine wp_region_held_drew (S := fun w' => w'.cell? ⟨b, 2, none⟩ = some (.slice (some ⟨g, 0, none⟩) (h.length + 1) cap)) (by kernel_rfl) hq2' (fun hHeld => ?_)
            refine take_as 0 (some 53) (.pointer (some ⟨b, 0, none⟩)) rfl rfl (by kernel_rfl) (by kernel_rfl) (by kernel_rfl) (fun _ _ _ h => h) (Or.inl ⟨by rfl, fun wz hSw => by (try dsimp only at hSw); go_simp⟩) (by assumption) ?_
            try simp only [Act.put, List.setIfInBounds_toArray, List.set_cons_zero, List.set_cons_succ]
            refine take_as 1 (some 54) (.pointer (some ⟨b, 0, none⟩)) rfl rfl (by kernel_rfl) (by kernel_rfl) (by kernel_rfl) (fun _ _ _ h => h) (Or.inl ⟨by rfl, fun wz hSw => by (try dsimp only at hSw); go_simp⟩) (by assumption) ?_
            try simp only [Act.put, List.setIfInBounds_toArray, List.set_cons_zero, List.set_cons_succ]
            refine take_as 2 (some 55) (.pointer (some ⟨b, 2, none⟩)) rfl rfl (by kernel_rfl) (by kernel_rfl) (by kernel_rfl) (fun _ _ _ h => h) (Or.inl ⟨by rfl, fun wz hSw => by (try dsimp only at hSw); go_simp⟩) (by assumption) ?_
            try simp only [Act.put, List.setIfInBounds_toArray, List.set_cons_zero, List.set_cons_succ]
            refine take_as 3 (some 56) (.slice (some ⟨g, 0, none⟩) (h.length + 1) cap) rfl rfl (by kernel_rfl) (by kernel_rfl) (by kernel_rfl) (fun _ _ _ h => h) (Or.inl ⟨by rfl, fun wz hSw => by (try dsimp only at hSw); go_simp⟩) (by assumption) ?_
            try simp only [Act.put, List.setIfInBounds_toArray, List.set_cons_zero, List.set_cons_succ]
            refine take_as 4 (some 57) (.int .i64 k) rfl rfl (by kernel_rfl) (by kernel_rfl) (by kernel_rfl) (fun _ _ _ h => h) (Or.inl ⟨by rfl, fun wz hSw => by (try dsimp only at hSw); go_simp⟩) (by assumption) ?_
            try simp only [Act.put, List.setIfInBounds_toArray, List.set_cons_zero, List.set_cons_succ]
            refine take_as 5 (some 58) (.pointer (some ⟨b, 0, none⟩)) rfl rfl (by kernel_rfl) (by kernel_rfl) (by kernel_rfl) (fun _ _ _ h => h) (Or.inl ⟨by rfl, fun wz hSw => by (try dsimp only at hSw); go_simp⟩) (by assumption) ?_
            try simp only [Act.put, List.setIfInBounds_toArray, List.set_cons_zero, List.set_cons_succ]
            refine take_as 6 (some 59) (.pointer (some ⟨b, 0, none⟩)) rfl rfl (by kernel_rfl) (by kernel_rfl) (by kernel_rfl) (fun _ _ _ h => h) (Or.inl ⟨by rfl, fun wz hSw => by (try dsimp only at hSw); go_simp⟩) (by assumption) ?_
            try simp only [Act.put, List.setIfInBounds_toArray, List.set_cons_zero, List.set_cons_succ]
            refine take_as 7 (some 60) (.pointer (some ⟨b, 2, none⟩)) rfl rfl (by kernel_rfl) (by kernel_rfl) (by kernel_rfl) (fun _ _ _ h => h) (Or.inl ⟨by rfl, fun wz hSw => by (try dsimp only at hSw); go_simp⟩) (by assumption) ?_
            try simp only [Act.put, List.setIfInBounds_toArray, List.set_cons_zero, List.set_cons_succ]
            refine take_as 8 (some 61) (.slice (some ⟨g, 0, none⟩) (h.length + 1) cap) rfl rfl (by kernel_rfl) (by kernel_rfl) (by kernel_rfl) (fun _ _ _ h => h) (Or.inl ⟨by rfl, fun wz hSw => by (try dsimp only at hSw); go_simp⟩) (by assumption) ?_
            try simp only [Act.put, List.setIfInBounds_toArray, List.set_cons_zero, List.set_cons_succ]
            refine take_as 9 (some 62) (.int .i64 p) rfl rfl (by kernel_rfl) (by kernel_rfl) (by kernel_rfl) (fun _ _ _ h => h) (Or.inl ⟨by rfl, fun wz hSw => by (try dsimp only at hSw); go_simp⟩) (by assumption) ?_
            try simp only [Act.put, List.setIfInBounds_toArray, List.set_cons_zero, List.set_cons_succ]
            refine take_as 10 (some 63) (.pointer (some ⟨b, 0, none⟩)) rfl rfl (by kernel_rfl) (by kernel_rfl) (by kernel_rfl) (fun _ _ _ h => h) (Or.inl ⟨by rfl, fun wz hSw => by (try dsimp only at hSw); go_simp⟩) (by assumption) ?_
            try simp only [Act.put, List.setIfInBounds_toArray, List.set_cons_zero, List.set_cons_succ]
            refine take_as 11 (some 64) (.pointer (some ⟨b, 0, none⟩)) rfl rfl (by kernel_rfl) (by kernel_rfl) (by kernel_rfl) (fun _ _ _ h => h) (Or.inl ⟨by rfl, fun wz hSw => by (try dsimp only at hSw); go_simp⟩) (by assumption) ?_
            try simp only [Act.put, List.setIfInBounds_toArray, List.set_cons_zero, List.set_cons_succ]
            refine take_as 12 (some 65) (.pointer (some ⟨b, 2, none⟩)) rfl rfl (by kernel_rfl) (by kernel_rfl) (by kernel_rfl) (fun _ _ _ h => h) (Or.inl ⟨by rfl, fun wz hSw => by (try dsimp only at hSw); go_simp⟩) (by assumption) ?_
            try simp only [Act.put, List.setIfInBounds_toArray, List.set_cons_zero, List.set_cons_succ]
            refine take_as 13 (some 66) (.slice (some ⟨g, 0, none⟩) (h.length + 1) cap) rfl rfl (by kernel_rfl) (by kernel_rfl) (by kernel_rfl) (fun _ _ _ h => h) (Or.inl ⟨by rfl, fun wz hSw => by (try dsimp only at hSw); go_simp⟩) (by assumption) ?_
            try simp only [Act.put, List.setIfInBounds_toArray, List.set_cons_zero, List.set_cons_succ]
            refine take_as 14 (some 67) (.int .i64 p) rfl rfl (by kernel_rfl) (by kernel_rfl) (by kernel_rfl) (fun _ _ _ h => h) (Or.inl ⟨by rfl, fun wz hSw => by (try dsimp only at hSw); go_simp⟩) (by assumption) ?_
            try simp only [Act.put, List.setIfInBounds_toArray, List.set_cons_zero, List.set_cons_succ]
            refine take_as 15 (some 68) (.pointer (some ⟨g, p * 15, none⟩)) rfl rfl (by kernel_rfl) (by kernel_rfl) (by kernel_rfl) (fun _ _ _ h => h) (Or.inl ⟨by rfl, fun wz hSw => by (try dsimp only at hSw); go_simp⟩) (by assumption) ?_
            try simp only [Act.put, List.setIfInBounds_toArray, List.set_cons_zero, List.set_cons_succ]
            refine take_as 17 (some 70) (.pointer (some ⟨b, 0, none⟩)) rfl rfl (by kernel_rfl) (by kernel_rfl) (by kernel_rfl) (fun _ _ _ h => h) (Or.inl ⟨by rfl, fun wz hSw => by (try dsimp only at hSw); go_simp⟩) (by assumption) ?_
            try simp only [Act.put, List.setIfInBounds_toArray, List.set_cons_zero, List.set_cons_succ]
            refine take_as 18 (some 71) (.pointer (some ⟨b, 0, none⟩)) rfl rfl (by kernel_rfl) (by kernel_rfl) (by kernel_rfl) (fun _ _ _ h => h) (Or.inl ⟨by rfl, fun wz hSw => by (try dsimp only at hSw); go_simp⟩) (by assumption) ?_
            try simp only [Act.put, List.setIfInBounds_toArray, List.set_cons_zero, List.set_cons_succ]
            refine take_as 19 (some 72) (.pointer (some ⟨b, 2, none⟩)) rfl rfl (by kernel_rfl) (by kernel_rfl) (by kernel_rfl) (fun _ _ _ h => h) (Or.inl ⟨by rfl, fun wz hSw => by (try dsimp only at hSw); go_simp⟩) (by assumption) ?_
            try simp only [Act.put, List.setIfInBounds_toArray, List.set_cons_zero, List.set_cons_succ]
            refine take_as 20 (some 73) (.slice (some ⟨g, 0, none⟩) (h.length + 1) cap) rfl rfl (by kernel_rfl) (by kernel_rfl) (by kernel_rfl) (fun _ _ _ h => h) (Or.inl ⟨by rfl, fun wz hSw => by (try dsimp only at hSw); go_simp⟩) (by assumption) ?_
            try simp only [Act.put, List.setIfInBounds_toArray, List.set_cons_zero, List.set_cons_succ]
            refine take_as 21 (some 74) (.int .i64 k) rfl rfl (by kernel_rfl) (by kernel_rfl) (by kernel_rfl) (fun _ _ _ h => h) (Or.inl ⟨by rfl, fun wz hSw => by (try dsimp only at hSw); go_simp⟩) (by assumption) ?_
            try simp only [Act.put, List.setIfInBounds_toArray, List.set_cons_zero, List.set_cons_succ]
            refine take_as 22 (some 75) (.pointer (some ⟨g, k * 15, none⟩)) rfl rfl (by kernel_rfl) (by kernel_rfl) (by kernel_rfl) (fun _ _ _ h => h) (Or.inl ⟨by rfl, fun wz hSw => by (try dsimp only at hSw); go_simp⟩) (by assumption) ?_
            try simp only [Act.put, List.setIfInBounds_toArray, List.set_cons_zero, List.set_cons_succ]
            have hrk := Row.range hR'' k hkl
            have hrp := Row.range hR'' p (by omega)
            rw [← Hmk.out] at hrk
            rw [← Hmp.out] at hrp
            refine wpAnyH_ready (rs := [16, 23]) (by kernel_rfl) (by simp) (step_load (i := 16) rfl rfl 64 (.tmp 68) rfl (some 69) rfl g (p * 15) rfl (msgCells mp) _ hrp Try.underlying64 rfl (size64 mp) hHeld ?_ [23] (step_load (i := 23) rfl rfl 64 (.tmp 75) rfl (some 76) rfl g (k * 15) rfl (msgCells mk) _ hrk Try.underlying64 rfl (size64 mk) hHeld ?_ [] AllReadyH.nil))
            · simp only [Act.put, List.setIfInBounds_toArray, List.set_cons_zero, List.set_cons_succ]
              refine wpAnyH_ready (rs := [23]) (by kernel_rfl) (by simp) (step_load (i := 23) rfl rfl 64 (.tmp 75) rfl (some 76) rfl g (k * 15) rfl (msgCells mk) _ hrk Try.underlying64 rfl (size64 mk) hHeld ?_ [] AllReadyH.nil)
              simp only [Act.put, List.setIfInBounds_toArray, List.set_cons_zero, List.set_cons_succ]
              refine take_as 24 (some 77) (.pointer (some ⟨g, k * 15, none⟩)) rfl rfl (by kernel_rfl) (by kernel_rfl) (by kernel_rfl) (fun _ _ _ h => h) (Or.inl ⟨by rfl, fun wz hSw => by (try dsimp only at hSw); go_simp⟩) (by assumption) ?_
              try simp only [Act.put, List.setIfInBounds_toArray, List.set_cons_zero, List.set_cons_succ]
              refine wpAnyH_ready (rs := [25]) (by kernel_rfl) (by simp) (step_store (i := 25) rfl rfl 64 (.tmp 77) (.tmp 69) rfl rfl g (k * 15) (msgCells mp) rfl rfl hthk (size64 mp) (msgCells_one mp) hS1 ?_ [] AllReadyH.nil)
              have hHeld := hS1
              refine take_as 26 (some 78) (.pointer (some ⟨g, p * 15, none⟩)) rfl rfl (by kernel_rfl) (by kernel_rfl) (by kernel_rfl) (fun _ _ _ h => h) (Or.inl ⟨by rfl, fun wz hSw => by (try dsimp only at hSw); go_simp⟩) (by assumption) ?_
              try simp only [Act.put, List.setIfInBounds_toArray, List.set_cons_zero, List.set_cons_succ]
              refine wpAnyH_ready (rs := [27]) (by kernel_rfl) (by simp) (step_store (i := 27) rfl rfl 64 (.tmp 78) (.tmp 76) rfl rfl g (p * 15) (msgCells mk) rfl rfl hthp (size64 mk) (msgCells_one mk) hS2 ?_ [] AllReadyH.nil)
              have hHeld := hS2
              refine wpAnyH_done (by kernel_rfl) ?_ _
              go_wp2_with fail
              go_meet
              exact ⟨_, hRow2, hBlk2, hKept2⟩
            · simp only [Act.put, List.setIfInBounds_toArray, List.set_cons_zero, List.set_cons_succ]
              refine wpAnyH_ready (rs := [16]) (by kernel_rfl) (by simp) (step_load (i := 16) rfl rfl 64 (.tmp 68) rfl (some 69) rfl g (p * 15) rfl (msgCells mp) _ hrp Try.underlying64 rfl (size64 mp) hHeld ?_ [] AllReadyH.nil)
              simp only [Act.put, List.setIfInBounds_toArray, List.set_cons_zero, List.set_cons_succ]
              refine take_as 24 (some 77) (.pointer (some ⟨g, k * 15, none⟩)) rfl rfl (by kernel_rfl) (by kernel_rfl) (by kernel_rfl) (fun _ _ _ h => h) (Or.inl ⟨by rfl, fun wz hSw => by (try dsimp only at hSw); go_simp⟩) (by assumption) ?_
              try simp only [Act.put, List.setIfInBounds_toArray, List.set_cons_zero, List.set_cons_succ]
              refine wpAnyH_ready (rs := [25]) (by kernel_rfl) (by simp) (step_store (i := 25) rfl rfl 64 (.tmp 77) (.tmp 69) rfl rfl g (k * 15) (msgCells mp) rfl rfl hthk (size64 mp) (msgCells_one mp) hS1 ?_ [] AllReadyH.nil)
              have hHeld := hS1
              refine take_as 26 (some 78) (.pointer (some ⟨g, p * 15, none⟩)) rfl rfl (by kernel_rfl) (by kernel_rfl) (by kernel_rfl) (fun _ _ _ h => h) (Or.inl ⟨by rfl, fun wz hSw => by (try dsimp only at hSw); go_simp⟩) (by assumption) ?_
              try simp only [Act.put, List.setIfInBounds_toArray, List.set_cons_zero, List.set_cons_succ]
              refine wpAnyH_ready (rs := [27]) (by kernel_rfl) (by simp) (step_store (i := 27) rfl rfl 64 (.tmp 78) (.tmp 76) rfl rfl g (p * 15) (msgCells mk) rfl rfl hthp (size64 mk) (msgCells_one mk) hS2 ?_ [] AllReadyH.nil)
              have hHeld := hS2
              refine wpAnyH_done (by kernel_rfl) ?_ _
              go_wp2_with fail
              go_meet
              exact ⟨_, hRow2, hBlk2, hKept2⟩
          case rest =>
            obtain ⟨cs', hR3, hB3, hK3⟩ := hcut
            obtain ⟨f', hf', hT'⟩ := siftF_step f hk k (by omega) hkf (by unfold beforeM; rw [← Hp.out, ← Hmk.out, ← Hmp.out]; exact hbf)
            rw [← Hp.out] at hf' hT'
            have HT' := hide2 (hT'.symm.trans HT.out)
            have HL' : Hid ((swapAt hk k p).length = h.length + 1) := by unfold Hid; rw [swapAt_length]; exact HL.out
            clear hT' hS1 hS2 hBlk1 hBlk2 hRow1 hRow2 hthk hthp hKept2 hB' hR' hR'' hK' hB hR hK hq2' hq2 ck0 ck2 cp0 cp2
            go_wp2
            go_roundw
            case rel => exact ⟨p, f', swapAt hk k p, cs', rfl, by rw [swapAt_length]; omega, HL', hf', HT', hR3, hB3, hK3⟩
            case measure => simp [intOf]; omega
        · have hbf' : beforeB mk.tat mk.seq mp.tat mp.seq = false := by simpa using hbf
          have HE : Hid (hk = T) := by
            have := HT.out
            rw [siftF_stop f hk k (by unfold beforeM; rw [← Hp.out, ← Hmk.out, ← Hmp.out]; exact hbf')] at this
            exact this
          clear hbf
          go_wp2
          go_quiet ((go_at_call 42; refine Calls.quiet_of (before_any g (k * 15) g (p * 15) mk.tat mk.seq mp.tat mp.seq _ ?_ ?_ ?_ ?_) <;> simp [*]))
          go_wp2
          go_end0
          refine ⟨rfl, HPost.out _ ?_⟩
          have hlen2 := HL.out
          rw [HE.out] at hlen2 hR
          exact ⟨g, cap, cs, by rw [hlen2, ← HQV.out]; exact hR.drewN _, by rw [hlen2, ← HQV.out]; exact hB.drewN _, HAT.out, hgb, hK.drewN _⟩

end Go.Proofs.Qxb6612705a
