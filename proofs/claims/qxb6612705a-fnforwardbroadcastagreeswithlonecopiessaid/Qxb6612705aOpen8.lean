/-
  A struct of eight one-cell integer fields (type 26, the law's own message), handed over by value: what it is.
-/
import Derived.Test.Qxb6612705aRows
import Derived.Test.Qxb6612705aLawHead
import Derived.WalkKit
import Derived.ProofKit
import Derived.OpenShut
import Derived.ChangeOld
import Derived.Deep.Fields
namespace Go.Proofs.Qxb6612705a
open Go.ChangeShapes Go.WideShapes Go.ChangeAt Go.RowKit Go.Deep

theorem array8 {α : Type} {cs : Array α} (h : cs.size = 8) : ∃ c0 c1 c2 c3 c4 c5 c6 c7, cs = #[c0, c1, c2, c3, c4, c5, c6, c7] := by
  obtain ⟨l⟩ := cs
  match l, h with
  | [c0, c1, c2, c3, c4, c5, c6, c7], _ => exact ⟨c0, c1, c2, c3, c4, c5, c6, c7, rfl⟩

theorem some_at {α : Type} {xs : List α} {k n : Nat} (h : xs.length = n) (hk : k < n) : ∃ y, xs[k]? = some y := ⟨xs[k]'(by omega), List.getElem?_eq_getElem _⟩

/-- Eight fields of one cell each: each field's cell with its reading. -/
theorem open_agg8 {H : Type} {enc : TypeId × Value → H} {P : Program} {w : World} {base : Nat} {spare : Nat → Bool} {held : Bool} {r : Reach} {b0 : Nat} {t : TypeId} {f0 f1 f2 f3 f4 f5 f6 f7 : Field} {v : Value} {d : DataW H} {p : List MemPlace}
    (hs : P.underlying t = some (.struct #[f0, f1, f2, f3, f4, f5, f6, f7])) (hone : oneCellFields P #[f0, f1, f2, f3, f4, f5, f6, f7] = true) (hC : P.cellsOf t = 8)
    (hv : Value.okWide P w r b0 t v) (h : DataW.Trod enc P w base spare held t v d p) :
    ∃ (v0 v1 v2 v3 v4 v5 v6 v7 : Value) (n : Nat), v = .agg #[v0, v1, v2, v3, v4, v5, v6, v7] ∧ (∃ y, DataW.trod enc P w base spare held n f0.type [v0] = some y) ∧ (∃ y, DataW.trod enc P w base spare held n f1.type [v1] = some y) ∧ (∃ y, DataW.trod enc P w base spare held n f2.type [v2] = some y) ∧ (∃ y, DataW.trod enc P w base spare held n f3.type [v3] = some y) ∧ (∃ y, DataW.trod enc P w base spare held n f4.type [v4] = some y) ∧ (∃ y, DataW.trod enc P w base spare held n f5.type [v5] = some y) ∧ (∃ y, DataW.trod enc P w base spare held n f6.type [v6] = some y) ∧ (∃ y, DataW.trod enc P w base spare held n f7.type [v7] = some y) := by
  obtain ⟨cs, rfl, hsz⟩ := okWide_struct hs hv
  obtain ⟨c0, c1, c2, c3, c4, c5, c6, c7, rfl⟩ := array8 (hsz.trans hC)
  obtain ⟨fuel, hf0⟩ := h
  obtain ⟨xs, n, _, -, hl, hlen, hf⟩ := DataW.trod_struct hs hf0
  have hlen8 : xs.length = 8 := hlen
  obtain ⟨o0, k0⟩ := hone_of hone 0 f0 rfl
  obtain ⟨y0, e0⟩ := some_at hlen8 (k := 0) (by omega)
  have t0 := hf 0 f0 rfl
  rw [o0, k0, e0] at t0
  obtain ⟨o1, k1⟩ := hone_of hone 1 f1 rfl
  obtain ⟨y1, e1⟩ := some_at hlen8 (k := 1) (by omega)
  have t1 := hf 1 f1 rfl
  rw [o1, k1, e1] at t1
  obtain ⟨o2, k2⟩ := hone_of hone 2 f2 rfl
  obtain ⟨y2, e2⟩ := some_at hlen8 (k := 2) (by omega)
  have t2 := hf 2 f2 rfl
  rw [o2, k2, e2] at t2
  obtain ⟨o3, k3⟩ := hone_of hone 3 f3 rfl
  obtain ⟨y3, e3⟩ := some_at hlen8 (k := 3) (by omega)
  have t3 := hf 3 f3 rfl
  rw [o3, k3, e3] at t3
  obtain ⟨o4, k4⟩ := hone_of hone 4 f4 rfl
  obtain ⟨y4, e4⟩ := some_at hlen8 (k := 4) (by omega)
  have t4 := hf 4 f4 rfl
  rw [o4, k4, e4] at t4
  obtain ⟨o5, k5⟩ := hone_of hone 5 f5 rfl
  obtain ⟨y5, e5⟩ := some_at hlen8 (k := 5) (by omega)
  have t5 := hf 5 f5 rfl
  rw [o5, k5, e5] at t5
  obtain ⟨o6, k6⟩ := hone_of hone 6 f6 rfl
  obtain ⟨y6, e6⟩ := some_at hlen8 (k := 6) (by omega)
  have t6 := hf 6 f6 rfl
  rw [o6, k6, e6] at t6
  obtain ⟨o7, k7⟩ := hone_of hone 7 f7 rfl
  obtain ⟨y7, e7⟩ := some_at hlen8 (k := 7) (by omega)
  have t7 := hf 7 f7 rfl
  rw [o7, k7, e7] at t7
  exact ⟨c0, c1, c2, c3, c4, c5, c6, c7, n, rfl, ⟨y0, by simpa [Value.cells] using t0⟩, ⟨y1, by simpa [Value.cells] using t1⟩, ⟨y2, by simpa [Value.cells] using t2⟩, ⟨y3, by simpa [Value.cells] using t3⟩, ⟨y4, by simpa [Value.cells] using t4⟩, ⟨y5, by simpa [Value.cells] using t5⟩, ⟨y6, by simpa [Value.cells] using t6⟩, ⟨y7, by simpa [Value.cells] using t7⟩⟩

theorem cells26 : Try.prog.cellsOf 26 = 8 := by kernel_rfl

theorem open_fm {H : Type} {enc : TypeId × Value → H} {w : World} {base : Nat} {spare : Nat → Bool} {held : Bool} {r : Reach} {b0 : Nat} {v : Value} {d : DataW H} {p : List MemPlace}
    (hv : Value.okWide Try.prog w r b0 26 v) (h : DataW.Trod enc Try.prog w base spare held 26 v d p) : ∃ m : FM, v = fmAgg m ∧ 0 ≤ m.prim := by
  obtain ⟨v0, v1, v2, v3, v4, v5, v6, v7, n, rfl, ⟨y0, t0⟩, ⟨y1, t1⟩, ⟨y2, t2⟩, ⟨y3, t3⟩, ⟨y4, t4⟩, ⟨y5, t5⟩, ⟨y6, t6⟩, ⟨y7, t7⟩⟩ := open_agg8 Try.underlying26 (by kernel_rfl) cells26 hv h
  obtain ⟨a0, e0, -, w0⟩ := DataW.trod_int Try.underlying5 t0
  obtain ⟨a1, e1, -, w1⟩ := DataW.trod_int Try.underlying5 t1
  obtain ⟨a2, e2, -, w2⟩ := DataW.trod_int Try.underlying3 t2
  obtain ⟨a3, e3, -, w3⟩ := DataW.trod_int Try.underlying3 t3
  obtain ⟨a4, e4, -, w4⟩ := DataW.trod_int Try.underlying2 t4
  obtain ⟨a5, e5, -, w5⟩ := DataW.trod_int Try.underlying3 t5
  obtain ⟨a6, e6, -, w6⟩ := DataW.trod_int Try.underlying2 t6
  obtain ⟨a7, e7, -, w7⟩ := DataW.trod_int Try.underlying2 t7
  obtain rfl : v0 = _ := by injection e0
  obtain rfl : v1 = _ := by injection e1
  obtain rfl : v2 = _ := by injection e2
  obtain rfl : v3 = _ := by injection e3
  obtain rfl : v4 = _ := by injection e4
  obtain rfl : v5 = _ := by injection e5
  obtain rfl : v6 = _ := by injection e6
  obtain rfl : v7 = _ := by injection e7
  have hw := w0
  simp [Lit.wf] at hw
  exact ⟨⟨a0, a1, a2, a3, a4, a5, a6, a7⟩, rfl, by have := hw.1; simp [IntKind.min] at this; exact this⟩
end Go.Proofs.Qxb6612705a
