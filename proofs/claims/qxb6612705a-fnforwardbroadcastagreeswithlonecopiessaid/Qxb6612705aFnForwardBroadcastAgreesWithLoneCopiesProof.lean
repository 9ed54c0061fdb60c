/-
  A proof of FnForwardBroadcastAgreesWithLoneCopiesSaid, over the given shell.
-/
import Derived.Test.Qxb6612705aRows
import Derived.Test.Qxb6612705aLawMain
import Derived.Test.Qxb6612705aOpen8
import Derived.WalkKit
import Derived.ProofKit
import Derived.OpenShut
import Derived.ShutString
import Derived.ChangeOld
import Derived.Below
import Derived.Laws.Cover2
namespace Go.Proofs.Qxb6612705a.fnForwardBroadcastAgreesWithLoneCopies
open Go.ChangeShapes Go.WideShapes Go.ChangeAt Go.RowKit
set_option linter.unusedVariables false

theorem own : ownKnob Try.prog.godebug = none := by kernel_rfl
theorem laidOut : laidOutB Try.prog = true := by kernel_rfl

/-- What the walk is told of a slice of integers that came in: it is nil; or it leads to a row of 'cap' cells, the numbers 'zs'. -/
def IsRow (k : IntKind) (w : World) (a : Option Addr) (len cap : Nat) (zs : List Int) : Prop :=
  (a = none ∧ len = 0 ∧ cap = 0 ∧ zs = []) ∨
  ∃ x, a = some x ∧ len ≤ cap ∧ cap ≤ maxLen ∧ zs.length = cap ∧ (∀ i, i < zs.length → w.cell? (x.add i) = some (.int k (zs.getD i 0))) ∧ ∀ n ∈ zs, (Lit.int k n).wf = true

/-- A row of at least one element, as the walk takes it: the block, the offset, the elements alone. -/
theorem row_at {w : World} {a : Option Addr} {len cap : Nat} {zs : List Int} (h : IsRow .i64 w a len cap zs) (hl : 1 ≤ len) :
    ∃ (b o : Nat) (l : List Int), a = some ⟨b, o, none⟩ ∧ l.length = len ∧ (∀ j, l.getD j 0 < 9223372036854775808) ∧ b < w.heap.size ∧ ∀ i, i < len → w.cell? ⟨b, o + i, none⟩ = some (.int .i64 (l.getD i 0)) := by
  rcases h with ⟨rfl, rfl, rfl, rfl⟩ | ⟨x, rfl, hlc, hm, hz, hcell, hwz⟩
  · exact absurd hl (by omega)
  · obtain ⟨b, off, spot⟩ := x
    have hc := hcell 0 (by omega)
    have hspot : spot = none := by simpa [Addr.add] using World.cell?_spot hc
    subst hspot
    refine ⟨b, off, zs.take len, rfl, by rw [List.length_take]; omega, fun j => ?_, ?_, fun i hi => ?_⟩
    · rcases Nat.lt_or_ge j (zs.take len).length with h | h
      · have e : (zs.take len).getD j 0 = (zs.take len)[j] := by simp [List.getD, List.getElem?_eq_getElem h]
        have hmem : (zs.take len)[j] ∈ zs := List.mem_of_mem_take (List.getElem_mem h)
        have hw := hwz _ hmem
        have hmax : IntKind.i64.max = 9223372036854775807 := by decide
        simp only [Lit.wf, Bool.and_eq_true, decide_eq_true_eq] at hw
        rw [e]; omega
      · rw [List.getD, List.getElem?_eq_none h]; decide
    · exact World.block_lt_of_cell? w ⟨b, off + 0, none⟩ (by simpa [Addr.add] using hc)
    · have h1 := hcell i (by omega)
      have e : (zs.take len).getD i 0 = zs.getD i 0 := by simp [List.getD, hi]
      have ea : (⟨b, off, none⟩ : Addr).add i = ⟨b, off + i, none⟩ := by by_cases h0 : i = 0 <;> simp [Addr.add, h0]
      rw [e, ← ea]; exact h1

/-! ### STEP 1: THE WALK -/
theorem walk (a0 a1 a2 : Int) (a3 : Nat) (a4 : Option Addr) (len4 cap4 : Nat) (z4 : List Int) (a5 : Option Addr) (len5 cap5 : Nat) (z5 : List Int) (m : FM) (w : World)
    (w1 : (Lit.int .u64 a1).wf = true) (w3 : (Lit.float .f64 a3).wf = true) (w4 : IsRow .i64 w a4 len4 cap4 z4) (w5 : IsRow .i64 w a5 len5 cap5 z5) (hm : 0 ≤ m.prim) :
    Calls Try.prog 3 #[.int .i64 a0, .int .u64 a1, .int .i64 a2, .float .f64 a3, .slice a4 len4 cap4, .slice a5 len5 cap5, fmAgg m] w fun e w' => e = .returned (.bool true) ∧ Below w.heap.size w w' := by
  by_cases hh : (513 : Int) < len4 ∨ (512 : Int) < len5 ∨ (len4 : Int) < 2 ∨ ¬ (len5 : Int) = len4 - 1 ∨ a0 < 0 ∨ 4611686018427387904 < a0 ∨ (FloatKind.f64.format.order a3 0 == some .gt || FloatKind.f64.format.order a3 0 == some .eq) = false ∨ (FloatKind.f64.format.order a3 4607182418800017408 == some .lt || FloatKind.f64.format.order a3 4607182418800017408 == some .eq) = false ∨ 1 < m.prim
  · exact law_head a0 a1 a2 a3 a4 a5 len4 cap4 len5 cap5 m w hh
  · simp only [not_or, Bool.not_eq_false, Classical.not_not] at hh
    obtain ⟨g1, g2, g3, g4, g5, g6, g7, g8, g9⟩ := hh
    have hx : a3 < 2 ^ 64 := of_decide_eq_true w3
    have hs := w1
    have hmin : IntKind.u64.min = 0 := by decide
    have hmax : IntKind.u64.max = 18446744073709551615 := by decide
    simp only [Lit.wf, Bool.and_eq_true, decide_eq_true_eq] at hs
    obtain ⟨bl, ol, ll, rfl, hl, hlb, hlw, hcl⟩ := row_at w4 (by omega)
    obtain ⟨bf, of, lf, rfl, hf, hfb, hfw, hcf⟩ := row_at w5 (by omega)
    obtain rfl : len4 = len5 + 1 := by omega
    exact law_main len5 a0 a1 a2 a3 bl ol cap4 bf of cap5 ll lf m w (by omega) (by omega) (by omega) (by omega) g7 g8 (Fl.trOk_of hx g7 g8) hm (by omega) (by omega) (by omega) hl hf hlb hfb hlw hfw hcl hcf

/-! ### THE ROW's STEP: WRITTEN OUT: LEAVE IT -/
set_option maxRecDepth 100000 in
theorem lifted (os : Os) (started : os.Started) (H : Type) (enc : TypeId × Value → H) :
    ReturnsInHanded {} Try.checked os 3 .any (Rows.fnForwardBroadcastAgreesWithLoneCopiesSpec.pre6 enc Try.prog Try.f3 Rows.fnForwardBroadcastAgreesWithLoneCopiesRow.domain false) (Rows.fnForwardBroadcastAgreesWithLoneCopiesSpec.post enc Try.prog Try.f3 false true false false) := by
  refine returnsInHanded_of_change (C := Try.checked) own started (by kernel_rfl) Try.func3
    (ChangeSpec.witness6 (enc := enc) (C := Try.checked) false ⟨#[], #[.int .i64 0, .int .u64 0, .int .i64 0, .float .f64 0, .slice none 0 0, .slice none 0 0, .agg #[.int .u8 0, .int .u8 0, .int .i64 0, .int .i64 0, .int .i64 0, .int .i64 0, .int .i64 0, .int .i64 0]], []⟩ 8 (by kernel_rfl) (by kernel_rfl) (by kernel_rfl) (by kernel_rfl)) ?_
  intro W base args ds gs before hval0 hW hcnd _
  have hval : ∀ (j : Nat) t v, Try.f3.params[j]? = some t → args[j]? = some v → Value.okWide Try.prog W .any base t v := hval0
  have hW' := hW
  obtain ⟨p, q, hA0, hV, rfl, hfz, hnd⟩ := hW
  have hA : DataW.TrodAll enc Try.prog W 0 (fun _ => true) true Try.f3.params.toList args.toList ds p := hA0
  rw [Try.params3] at hA hval
  obtain ⟨v0, vs0, d0, ds0, p0, q0, hargs, rfl, rfl, h0, r0⟩ := trodAll_cons hA
  obtain ⟨v1, vs1, d1, ds1, p1, q1, rfl, rfl, rfl, h1, r1⟩ := trodAll_cons r0
  obtain ⟨v2, vs2, d2, ds2, p2, q2, rfl, rfl, rfl, h2, r2⟩ := trodAll_cons r1
  obtain ⟨v3, vs3, d3, ds3, p3, q3, rfl, rfl, rfl, h3, r3⟩ := trodAll_cons r2
  obtain ⟨v4, vs4, d4, ds4, p4, q4, rfl, rfl, rfl, h4, r4⟩ := trodAll_cons r3
  obtain ⟨v5, vs5, d5, ds5, p5, q5, rfl, rfl, rfl, h5, r5⟩ := trodAll_cons r4
  obtain ⟨v6, vs6, d6, ds6, p6, q6, rfl, rfl, rfl, h6, r6⟩ := trodAll_cons r5
  obtain ⟨rfl, rfl, rfl⟩ := trodAll_nil r6
  obtain rfl : args = #[v0, v1, v2, v3, v4, v5, v6] := by cases args; simp_all
  obtain ⟨rfl, rfl⟩ := trodVars_none hV
  obtain ⟨a0, rfl, rfl, rfl, w0⟩ := open_int Try.underlying2 (hval 0 2 v0 rfl rfl) h0
  obtain ⟨a1, rfl, rfl, rfl, w1⟩ := open_int Try.underlying22 (hval 1 22 v1 rfl rfl) h1
  obtain ⟨a2, rfl, rfl, rfl, w2⟩ := open_int Try.underlying2 (hval 2 2 v2 rfl rfl) h2
  obtain ⟨a3, rfl, rfl, rfl, w3⟩ := open_float Try.underlying23 (hval 3 23 v3 rfl rfl) h3
  obtain ⟨a4, len4, cap4, rfl⟩ := okWide_slice Try.underlying24 (hval 4 24 v4 rfl rfl)
  have k4 := h4
  have lt4 : ∀ x ∈ p4, x.block < W.heap.size := by obtain ⟨m, hm⟩ := k4; exact DataW.trod_lt m _ _ _ hm
  obtain ⟨z4, w4⟩ : ∃ zs, IsRow .i64 W a4 len4 cap4 zs := by
    obtain ⟨fuel, hf⟩ := h4
    rcases open_ints Try.underlying24 Try.underlying2 (by kernel_rfl) hf with ⟨hcs, _⟩ | ⟨x, l, c, zs, hcs, _, hl, hm, hz, _, hcell, hwz⟩
    · simp [Value.cells] at hcs
      obtain ⟨rfl, rfl, rfl⟩ := hcs
      exact ⟨[], .inl ⟨rfl, rfl, rfl, rfl⟩⟩
    · simp [Value.cells] at hcs
      obtain ⟨rfl, rfl, rfl⟩ := hcs
      exact ⟨zs, .inr ⟨_, rfl, hl, hm, by simpa using hz, hcell, hwz⟩⟩
  obtain ⟨a5, len5, cap5, rfl⟩ := okWide_slice Try.underlying24 (hval 5 24 v5 rfl rfl)
  have k5 := h5
  have lt5 : ∀ x ∈ p5, x.block < W.heap.size := by obtain ⟨m, hm⟩ := k5; exact DataW.trod_lt m _ _ _ hm
  obtain ⟨z5, w5⟩ : ∃ zs, IsRow .i64 W a5 len5 cap5 zs := by
    obtain ⟨fuel, hf⟩ := h5
    rcases open_ints Try.underlying24 Try.underlying2 (by kernel_rfl) hf with ⟨hcs, _⟩ | ⟨x, l, c, zs, hcs, _, hl, hm, hz, _, hcell, hwz⟩
    · simp [Value.cells] at hcs
      obtain ⟨rfl, rfl, rfl⟩ := hcs
      exact ⟨[], .inl ⟨rfl, rfl, rfl, rfl⟩⟩
    · simp [Value.cells] at hcs
      obtain ⟨rfl, rfl, rfl⟩ := hcs
      exact ⟨zs, .inr ⟨_, rfl, hl, hm, by simpa using hz, hcell, hwz⟩⟩
  have k6 := h6
  have lt6 : ∀ x ∈ p6, x.block < W.heap.size := by obtain ⟨m, hm⟩ := k6; exact DataW.trod_lt m _ _ _ hm
  obtain ⟨m, rfl, hm⟩ := open_fm (hval 6 26 v6 rfl rfl) h6
  clear hA0 hval0
  refine (walk a0 a1 a2 a3 a4 len4 cap4 z4 a5 len5 cap5 z5 m W w1 w3 w4 w5 hm).mono fun e W' ⟨he, bel⟩ => ?_
  subst he
  exact ⟨_, rfl, _, _, _, [], _, [], hW', trodAll_mk1 (shut_bool Try.underlying4 _), (trodAll_cons_mk (shut_int Try.underlying2 w0) (trodAll_cons_mk (shut_int Try.underlying22 w1) (trodAll_cons_mk (shut_int Try.underlying2 w2) (trodAll_cons_mk (shut_float Try.underlying23 w3)
    (trodAll_cons_mk (Below.trod laidOut (by kernel_rfl) (of_decide_eq_true (by kernel_rfl)) k4 bel lt4) (trodAll_cons_mk (Below.trod laidOut (by kernel_rfl) (of_decide_eq_true (by kernel_rfl)) k5 bel lt5) (trodAll_cons_mk (Below.trod laidOut (by kernel_rfl) (of_decide_eq_true (by kernel_rfl)) k6 bel lt6) trodAll_mk0))))))), rfl, bel.frame _, fun h => by cases h⟩

theorem over : Rows.fnForwardBroadcastAgreesWithLoneCopiesRow.holds Try.pinned (OpenSpec.ofChange Rows.fnForwardBroadcastAgreesWithLoneCopiesSpec) :=
  OpenClaim.holds_of_wide 3 Try.f3 rfl rfl rfl rfl rfl rfl rfl ⟨rfl, rfl, rfl, rfl, rfl⟩ rfl rfl rfl rfl rfl (by kernel_rfl) Try.func3 (by kernel_rfl)
    (of_decide_eq_true (by kernel_rfl)) (by unfold Func.isWrapper; first | (rw [if_pos (by decide +kernel)]; kernel_rfl) | (rw [if_neg (by decide +kernel)]; exact ⟨rfl, rfl⟩))
    (fun os started H enc _ => lifted os started H enc)

/-- ████ THE STATEMENT ████ -/
theorem proved : Rows.FnForwardBroadcastAgreesWithLoneCopiesSaid :=
  over
end Go.Proofs.Qxb6612705a.fnForwardBroadcastAgreesWithLoneCopies
