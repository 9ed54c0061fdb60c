import Derived.Test.Qxb6612705aEnv
namespace Go.Proofs.Qxb6612705a
open Go.RowKit
open Fl

/-! ### The second loop's plain functions -/
def seqA (s : Int) : Nat → Int
  | 0 => s
  | k + 1 => IntKind.u64.wrap (seqA s k + 1)
/-- The relay's load behind k messages. -/
def Cx.sumA (c : Cx) (d0 : Nat) : Nat → Int
  | 0 => c.loads.getD c.n 0
  | k + 1 => wrap64 (c.sumA d0 k + c.load (d0 + k))
/-- A process's load behind its message. -/
def Cx.lnew (c : Cx) (j : Nat) : Int := wrap64 (c.loads.getD j 0 + c.load j)
def Cx.loadsA (c : Cx) (d0 k : Nat) : List Int := (List.range (c.n + 1)).map fun j => if j = c.n then c.sumA d0 k else if d0 ≤ j ∧ j < d0 + k then c.lnew j else c.loads.getD j 0
/-- The queue behind k messages. -/
def Cx.heapA (c : Cx) (d0 : Nat) (s : Int) : Nat → List Msg
  | 0 => []
  | k + 1 => pushH (c.heapA d0 s k) { c.msg (d0 + k) with seq := seqA s (k + 1) }

theorem Cx.heapA_length (c : Cx) (d0 : Nat) (s : Int) : ∀ k, (c.heapA d0 s k).length = k
  | 0 => rfl
  | k + 1 => by rw [Cx.heapA, pushH_length, Cx.heapA_length c d0 s k]
theorem Cx.loadsA_length (c : Cx) (d0 k : Nat) : (c.loadsA d0 k).length = c.n + 1 := by simp [Cx.loadsA]
theorem Cx.loadsA_get (c : Cx) (d0 k j : Nat) (hj : j < c.n + 1) : (c.loadsA d0 k).getD j 0 = if j = c.n then c.sumA d0 k else if d0 ≤ j ∧ j < d0 + k then c.lnew j else c.loads.getD j 0 := by
  simp [Cx.loadsA, List.getD, hj]
theorem Cx.loadsA_zero (c : Cx) (d0 : Nat) (h : c.loads.length = c.n + 1) : c.loadsA d0 0 = c.loads := by
  apply List.ext_getElem?
  intro i
  simp only [Cx.loadsA, List.getElem?_map]
  by_cases hi : i < c.n + 1
  · rw [List.getElem?_range hi, Option.map_some, List.getElem?_eq_getElem (show i < c.loads.length by omega)]
    by_cases h1 : i = c.n
    · rw [if_pos h1]; subst h1; simp [Cx.sumA, List.getD, List.getElem?_eq_getElem (show c.n < c.loads.length by omega)]
    · rw [if_neg h1, if_neg (by omega)]; simp [List.getD, List.getElem?_eq_getElem (show i < c.loads.length by omega)]
  · rw [List.getElem?_eq_none (by simp; omega), List.getElem?_eq_none (by omega)]; rfl
theorem Cx.loadsA_set (c : Cx) (d0 k : Nat) (hk : d0 + k < c.n) :
    ((c.loadsA d0 k).set c.n (wrap64 (c.sumA d0 k + c.load (d0 + k)))).set (d0 + k) (c.lnew (d0 + k)) = c.loadsA d0 (k + 1) := by
  apply List.ext_getElem?
  intro i
  simp only [Cx.loadsA, List.getElem?_set, List.getElem?_map, List.length_set, List.length_map, List.length_range]
  by_cases h : d0 + k = i
  · subst h
    rw [if_pos rfl, if_pos (by omega), List.getElem?_range (by omega), Option.map_some, if_neg (by omega), if_pos (by omega)]
  · rw [if_neg h]
    by_cases h2 : c.n = i
    · rw [if_pos h2, if_pos (by omega), ← h2, List.getElem?_range (by omega), Option.map_some, if_pos rfl]; rfl
    · rw [if_neg h2]
      by_cases hi : i < c.n + 1
      · simp only [List.getElem?_range hi, Option.map_some]
        congr 1
        have h3 : ¬ i = c.n := by omega
        rw [if_neg h3, if_neg h3]
        by_cases h1 : d0 ≤ i ∧ i < d0 + k
        · rw [if_pos h1, if_pos (show d0 ≤ i ∧ i < d0 + (k + 1) by omega)]
        · rw [if_neg h1, if_neg (show ¬ (d0 ≤ i ∧ i < d0 + (k + 1)) by omega)]
      · rw [List.getElem?_eq_none (by simp; omega)]; rfl

/-- The state within the second loop. -/
structure St2 (E : Env) (w0 w : World) (lds fr : List Int) (ms : List Msg) (qv : Value) (seq : Int) (h : List Msg) : Prop where
  net : Blk w E.b (netCells E.c.n E.c.now qv seq E.lv E.tv E.fv E.c.tr E.rel E.sv) 59
  lds : Blk w E.gl (ints lds) 2
  frs : Blk w E.gf (ints fr) 54
  row : ∃ cs, Row w (.slice (some ⟨E.gb, 0, none⟩) ms.length E.capb) E.gb E.capb cs ms
  que : w.ownsRow 0 64 15 qv h.length (flat h)
  fresh : ∀ g, qv.ownBlock = some g → w0.heap.size ≤ g
  kept : Kept E.S w0 w

structure Env.In (E : Env) (w0 : World) : Prop where
  b : E.b < w0.heap.size
  l : E.gl < w0.heap.size
  f : E.gf < w0.heap.size
  m : E.gb < w0.heap.size

section
variable {E : Env} {w0 w : World} {lds fr : List Int} {ms : List Msg} {qv : Value} {seq : Int} {h : List Msg}
theorem St2.of (s : St E w0 w fr ms) (hq : E.qv = .slice none 0 0) : St2 E w0 w E.c.loads fr ms E.qv E.seq [] :=
  ⟨s.net, s.lds, s.frs, s.row, by rw [hq]; exact World.ownsRow_nil w 0 64 15, fun g hg => (by rw [hq] at hg; cases hg), s.kept⟩
theorem ownsRow_drewN {w : World} {v : Value} {n : Nat} {xs : List Value} (h : w.ownsRow 0 64 15 v n xs) (q : Nat) : (w.drewN q).ownsRow 0 64 15 v n xs := h
theorem ownsRow_set {w : World} {v : Value} {n : Nat} {xs : List Value} (h : w.ownsRow 0 64 15 v n xs) {p : Addr} (hne : v.ownBlock ≠ some p.block) (u : Value) : (w.setCell p u).ownsRow 0 64 15 v n xs := by
  refine ⟨h.1, ?_⟩
  rcases h.2 with hn | ⟨g, cap, cur, hv, h0, hg, rest⟩
  · exact .inl hn
  · refine .inr ⟨g, cap, cur, hv, h0, ?_, rest⟩
    rw [Below.heap_setCell _ _ _ _ (fun e => hne (by rw [hv, e]; rfl))]; exact hg
theorem St2.drew (s : St2 E w0 w lds fr ms qv seq h) : St2 E w0 w.drew lds fr ms qv seq h := by
  obtain ⟨cs, hr⟩ := s.row
  exact ⟨s.net.drew, s.lds.drew, s.frs.drew, ⟨cs, hr.drew⟩, s.que, s.fresh, s.kept.drew⟩
theorem St2.alloc (s : St2 E w0 w lds fr ms qv seq h) (o : Obj) : St2 E w0 (w.alloc o) lds fr ms qv seq h := by
  obtain ⟨cs, hr⟩ := s.row
  exact ⟨s.net.alloc o, s.lds.alloc o, s.frs.alloc o, ⟨cs, hr.alloc o⟩, s.que.alloc o, s.fresh, s.kept.alloc o⟩
theorem St2.setLoad (s : St2 E w0 w lds fr ms qv seq h) (ha : E.Apart) (hi : E.In w0) (j : Nat) (x : Int) : St2 E w0 (w.setCell ⟨E.gl, j, none⟩ (.int .i64 x)) (lds.set j x) fr ms qv seq h := by
  obtain ⟨cs, hr⟩ := s.row
  refine ⟨s.net.setOther (Ne.symm ha.bl) _, ?_, s.frs.setOther ha.lf _, ⟨cs, hr.setOther ha.lb _⟩, ownsRow_set s.que (fun e => ?_) _, s.fresh, s.kept.setCell (.inl (.inr (.inl rfl))) _⟩
  · rw [← ints_set]; exact s.lds.set j _
  · have h3 : w0.heap.size ≤ E.gl := s.fresh _ e
    have := hi.l; omega
theorem St2.push (s : St2 E w0 w lds fr ms qv seq h) (ha : E.Apart) (hi : E.In w0) {w' : World} {s' : Int} {h' : List Msg}
    (hp : Appended w w' E.b E.c.n E.c.now qv s' E.lv E.tv E.fv E.c.tr E.rel E.sv h') : ∃ qv', St2 E w0 w' lds fr ms qv' s' h' := by
  obtain ⟨g, cap, cs, hR, hB, hat, hgb, hK⟩ := hp
  obtain ⟨cs0, hr⟩ := s.row
  have hfr : w0.heap.size ≤ g := by
    rcases hat with hat | hat
    · exact s.fresh g hat
    · exact Nat.le_trans s.kept.size hat
  have hS : ∀ k, k < w0.heap.size → k ≠ E.b → ¬ (k = E.b ∨ qv.ownBlock = some k) := fun k hk hne hh => by
    rcases hh with hh | hh
    · exact hne hh
    · have := s.fresh k hh; omega
  refine ⟨_, hB, s.lds.kept hK (hS _ hi.l (Ne.symm ha.bl)), s.frs.kept hK (hS _ hi.f (Ne.symm ha.bf)), ⟨cs0, hr.kept hK (hS _ hi.m (Ne.symm ha.bb))⟩, hR.owns, fun g' hg' => ?_, ?_⟩
  · simp [Value.ownBlock] at hg'; omega
  · refine ⟨hK.os.trans s.kept.os, hK.tape.trans s.kept.tape, hK.output.trans s.kept.output, Nat.le_trans s.kept.size hK.size, fun k hk hn => ?_⟩
    rw [hK.block k (Nat.lt_of_lt_of_le hk s.kept.size) (hS k hk (fun e => hn (.inl e)))]
    exact s.kept.block k hk hn
end

end Go.Proofs.Qxb6612705a
