import Derived.Test.Qxb6612705aLink
namespace Go.Proofs.Qxb6612705a
open Go.RowKit
open Fl

/-! ### The plain functions of a batch -/
/-- What a batch is reckoned from. -/
structure Cx where
  n : Nat
  now : Int
  tr : Nat
  loads : List Int
  fr : List Int
  m : Msg

def Cx.ld0 (c : Cx) (j : Nat) : Nat := (c.loads.getD j 0).toNat
def Cx.fr0 (c : Cx) (j : Nat) : Int := c.fr.getD j 0
def Cx.del (c : Cx) (j : Nat) : Nat := delI (max (utilB (c.ld0 c.n)) (utilB (c.ld0 j)))
/-- When the copy to j arrives. -/
def Cx.arr (c : Cx) (j : Nat) : Int := if c.fr0 j > c.now + c.del j then c.fr0 j else c.now + c.del j
/-- Its load. -/
def Cx.load (c : Cx) (j : Nat) : Int := ldI c.tr (c.arr j - c.now).toNat
/-- The copy to j before, and behind, the first loop. -/
def Cx.raw (c : Cx) (j : Nat) : Msg := { c.m with dst := j }
def Cx.msg (c : Cx) (j : Nat) : Msg := { c.m with dst := j, sent := c.now, tat := c.arr j, load := c.load j }

structure Cx.Ok (c : Cx) : Prop where
  n1 : 1 ≤ c.n
  n2 : c.n ≤ 65536
  now0 : 0 ≤ c.now
  now1 : c.now ≤ 4611686018427387904
  tr : TrOk c.tr
  ll : c.loads.length = c.n + 1
  lf : c.fr.length = c.n
  lpos : ∀ j, 0 ≤ c.loads.getD j 0 ∧ c.loads.getD j 0 < 9223372036854775808
  fpos : ∀ j, c.fr.getD j 0 < 9223372036854775808
  src : c.m.src = c.n

theorem Cx.Ok.ld0_lt {c : Cx} (h : c.Ok) (j : Nat) : c.ld0 j < 2 ^ 63 := by
  have := h.lpos j
  unfold Cx.ld0; omega
theorem Cx.Ok.ld0_eq {c : Cx} (h : c.Ok) (j : Nat) : ((c.ld0 j : Nat) : Int) = c.loads.getD j 0 := by
  have := h.lpos j
  unfold Cx.ld0; omega
theorem Cx.Ok.util_lt {c : Cx} (h : c.Ok) (j : Nat) : utilB (c.ld0 j) < Ieee.double.infRung := (util_facts (h.ld0_lt j)).2.2
theorem Cx.Ok.max_lt {c : Cx} (h : c.Ok) (i j : Nat) : max (utilB (c.ld0 i)) (utilB (c.ld0 j)) < Ieee.double.infRung := by
  have h1 := h.util_lt i
  have h2 := h.util_lt j
  omega
theorem Cx.Ok.del_bd (c : Cx) (j : Nat) : 20000000 ≤ c.del j ∧ c.del j ≤ 3000000000 := by
  obtain ⟨_, _, h1, h2⟩ := delay_facts (max (utilB (c.ld0 c.n)) (utilB (c.ld0 j)))
  exact ⟨h1, h2⟩
theorem Cx.Ok.arr_bd {c : Cx} (h : c.Ok) (j : Nat) : c.now + 20000000 ≤ c.arr j ∧ c.arr j < 9223372036854775808 ∧ c.fr0 j ≤ c.arr j := by
  have h1 := Cx.Ok.del_bd c j
  have h2 := h.fpos j
  have h3 := h.now0
  have h4 := h.now1
  unfold Cx.arr Cx.fr0
  split <;> omega
theorem Cx.Ok.dt_bd {c : Cx} (h : c.Ok) (j : Nat) : 20000000 ≤ (c.arr j - c.now).toNat ∧ (c.arr j - c.now).toNat < 2 ^ 63 ∧ (((c.arr j - c.now).toNat : Nat) : Int) = c.arr j - c.now := by
  have h1 := h.arr_bd j
  have h3 := h.now0
  omega
theorem Cx.Ok.load_bd {c : Cx} (h : c.Ok) (j : Nat) : 0 ≤ c.load j ∧ c.load j ≤ 54975581388800 := by
  obtain ⟨d1, d2, _⟩ := h.dt_bd j
  obtain ⟨_, _, _, h4, h5, _⟩ := load_facts h.tr d1 d2
  exact ⟨h4, h5⟩

/-- The batch behind k rounds of the first loop. -/
def Cx.ms (c : Cx) (d0 L k : Nat) : List Msg := (List.range L).map fun i => if i < k then c.msg (d0 + i) else c.raw (d0 + i)
/-- The links behind k rounds. -/
def Cx.frA (c : Cx) (d0 k : Nat) : List Int := (List.range c.n).map fun j => if d0 ≤ j ∧ j < d0 + k then c.arr j else c.fr0 j

theorem Cx.ms_length (c : Cx) (d0 L k : Nat) : (c.ms d0 L k).length = L := by simp [Cx.ms]
theorem Cx.ms_get (c : Cx) (d0 L k i : Nat) (hi : i < L) : (c.ms d0 L k).getD i noMsg = if i < k then c.msg (d0 + i) else c.raw (d0 + i) := by
  simp [Cx.ms, List.getD, hi]
theorem Cx.ms_set (c : Cx) (d0 L k : Nat) (hk : k < L) : (c.ms d0 L k).set k (c.msg (d0 + k)) = c.ms d0 L (k + 1) := by
  apply List.ext_getElem?
  intro i
  simp only [Cx.ms, List.getElem?_set, List.getElem?_map, List.length_map, List.length_range]
  by_cases h : k = i
  · subst h
    simp [hk]
  · rw [if_neg h]
    by_cases hi : i < L
    · simp only [List.getElem?_range hi, Option.map_some]
      congr 1
      by_cases h1 : i < k
      · rw [if_pos h1, if_pos (by omega)]
      · rw [if_neg h1, if_neg (by omega)]
    · rw [List.getElem?_eq_none (by simp; omega)]; rfl
theorem Cx.frA_length (c : Cx) (d0 k : Nat) : (c.frA d0 k).length = c.n := by simp [Cx.frA]
theorem Cx.frA_zero (c : Cx) (d0 : Nat) (h : c.fr.length = c.n) : c.frA d0 0 = c.fr := by
  apply List.ext_getElem?
  intro i
  simp only [Cx.frA, List.getElem?_map]
  by_cases hi : i < c.n
  · rw [List.getElem?_range hi, Option.map_some, if_neg (by omega), List.getElem?_eq_getElem (by omega)]
    simp [Cx.fr0, List.getD, List.getElem?_eq_getElem (show i < c.fr.length by omega)]
  · rw [List.getElem?_eq_none (by simp; omega), List.getElem?_eq_none (by omega)]; rfl
theorem Cx.frA_get (c : Cx) (d0 k j : Nat) (hj : j < c.n) : (c.frA d0 k).getD j 0 = if d0 ≤ j ∧ j < d0 + k then c.arr j else c.fr0 j := by
  simp [Cx.frA, List.getD, hj]
theorem Cx.frA_set (c : Cx) (d0 k : Nat) (hk : d0 + k < c.n) : (c.frA d0 k).set (d0 + k) (c.arr (d0 + k)) = c.frA d0 (k + 1) := by
  apply List.ext_getElem?
  intro i
  simp only [Cx.frA, List.getElem?_set, List.getElem?_map, List.length_map, List.length_range]
  by_cases h : d0 + k = i
  · subst h
    rw [if_pos rfl, if_pos hk, List.getElem?_range hk, Option.map_some, if_pos (by omega)]
  · rw [if_neg h]
    by_cases hi : i < c.n
    · simp only [List.getElem?_range hi, Option.map_some]
      congr 1
      by_cases h1 : d0 ≤ i ∧ i < d0 + k
      · rw [if_pos h1, if_pos (by omega)]
      · rw [if_neg h1, if_neg (by omega)]
    · rw [List.getElem?_eq_none (by simp; omega)]; rfl

/-! ### Where things lie -/
structure Env where
  b : Nat
  gl : Nat
  gf : Nat
  gb : Nat
  cl : Nat
  cf : Nat
  capb : Nat
  seq : Int
  rel : Int
  qv : Value
  tv : Value
  sv : Value
  c : Cx

def Env.lv (E : Env) : Value := .slice (some ⟨E.gl, 0, none⟩) (E.c.n + 1) E.cl
def Env.fv (E : Env) : Value := .slice (some ⟨E.gf, 0, none⟩) E.c.n E.cf
def Env.netc (E : Env) : List Value := netCells E.c.n E.c.now E.qv E.seq E.lv E.tv E.fv E.c.tr E.rel E.sv
def Env.S (E : Env) : Nat → Prop := fun k => k = E.b ∨ k = E.gl ∨ k = E.gf ∨ k = E.gb

structure Env.Apart (E : Env) : Prop where
  bl : E.b ≠ E.gl
  bf : E.b ≠ E.gf
  bb : E.b ≠ E.gb
  lf : E.gl ≠ E.gf
  lb : E.gl ≠ E.gb
  fb : E.gf ≠ E.gb

/-- The state within the first loop. -/
structure St (E : Env) (w0 w : World) (fr : List Int) (ms : List Msg) : Prop where
  net : Blk w E.b E.netc 59
  lds : Blk w E.gl (ints E.c.loads) 2
  frs : Blk w E.gf (ints fr) 54
  row : ∃ cs, Row w (.slice (some ⟨E.gb, 0, none⟩) ms.length E.capb) E.gb E.capb cs ms
  kept : Kept E.S w0 w

section
variable {E : Env} {w0 w : World} {fr : List Int} {ms : List Msg}
theorem St.drewN (h : St E w0 w fr ms) (q : Nat) : St E w0 (w.drewN q) fr ms := by
  obtain ⟨cs, hr⟩ := h.row
  exact ⟨h.net.drewN q, h.lds.drewN q, h.frs.drewN q, ⟨cs, hr.drewN q⟩, h.kept.drewN q⟩
theorem St.drew (h : St E w0 w fr ms) : St E w0 w.drew fr ms := by
  obtain ⟨cs, hr⟩ := h.row
  exact ⟨h.net.drew, h.lds.drew, h.frs.drew, ⟨cs, hr.drew⟩, h.kept.drew⟩
/-- A cell of message k is written. -/
theorem St.setMsg (h : St E w0 w fr ms) (ha : E.Apart) (k j : Nat) (u : Value) (m' : Msg) (hk : k < ms.length) (hj : j < 15) (hm : (msgCells (ms.getD k noMsg)).set j u = msgCells m') :
    St E w0 (w.setCell ⟨E.gb, k * 15 + j, none⟩ u) fr (ms.set k m') := by
  obtain ⟨cs, hr⟩ := h.row
  have hs := hr.set k j u m' hk hj hm
  exact ⟨h.net.setOther (Ne.symm ha.bb) _, h.lds.setOther (Ne.symm ha.lb) _, h.frs.setOther (Ne.symm ha.fb) _, ⟨_, by rw [List.length_set]; exact hs⟩, h.kept.setCell (.inl (.inr (.inr (.inr rfl)))) _⟩
/-- A link's last arrival is written. -/
theorem St.setFr (h : St E w0 w fr ms) (ha : E.Apart) (d : Nat) (x : Int) : St E w0 (w.setCell ⟨E.gf, d, none⟩ (.int .i64 x)) (fr.set d x) ms := by
  obtain ⟨cs, hr⟩ := h.row
  refine ⟨h.net.setOther (Ne.symm ha.bf) _, h.lds.setOther (Ne.symm ha.lf) _, ?_, ⟨cs, hr.setOther ha.fb _⟩, h.kept.setCell (.inl (.inr (.inr (.inl rfl)))) _⟩
  rw [← ints_set]; exact h.frs.set d _
/-- What the walk reads. -/
theorem St.m (h : St E w0 w fr ms) (k j : Nat) (hk : k < ms.length) (hj : j < 15) : w.cell? ⟨E.gb, k * 15 + j, none⟩ = (msgCells (ms.getD k noMsg))[j]? := by
  obtain ⟨cs, hr⟩ := h.row
  exact hr.get k j hk hj
theorem St.mf (h : St E w0 w fr ms) (i : Nat) : w.frozen? ⟨E.gb, i, none⟩ = false := by
  obtain ⟨cs, hr⟩ := h.row
  exact hr.blk.frozen i
theorem St.n (h : St E w0 w fr ms) (i : Nat) : w.cell? ⟨E.b, i, none⟩ = E.netc[i]? := h.net.cell i
theorem St.l (h : St E w0 w fr ms) (j : Nat) (hj : j < E.c.loads.length) : w.cell? ⟨E.gl, j, none⟩ = some (.int .i64 (E.c.loads.getD j 0)) := by rw [h.lds.cell, ints_get _ _ hj]
theorem St.f (h : St E w0 w fr ms) (j : Nat) (hj : j < fr.length) : w.cell? ⟨E.gf, j, none⟩ = some (.int .i64 (fr.getD j 0)) := by rw [h.frs.cell, ints_get _ _ hj]
theorem St.ff (h : St E w0 w fr ms) (i : Nat) : w.frozen? ⟨E.gf, i, none⟩ = false := h.frs.frozen i
end

end Go.Proofs.Qxb6612705a
