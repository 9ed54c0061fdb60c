import Derived.Test.Qxb6612705aProcWalks
import Derived.OpenShut
namespace Go.Proofs.Qxb6612705a
open Go.RowKit

/-- A process's block, as far as it is looked at. -/
structure ProcAt (w : World) (b : Nat) (a wr : Int) : Prop where
  c0 : w.cell? ⟨b, 0, none⟩ = some (.int .i64 a)
  c3 : w.cell? ⟨b, 3, none⟩ = some (.int .i64 wr)
  f3 : w.frozen? ⟨b, 3, none⟩ = false
  lt : b < w.heap.size

theorem ProcAt.new (w : World) (a wr : Int) : ProcAt (w.alloc (procObj a wr)) w.heap.size a wr := by
  unfold procObj
  exact ⟨by simp, by simp, by rw [World.frozen?_alloc_at _ _ _ _ rfl], by simp⟩

theorem ProcAt.later {w : World} {b : Nat} {a wr : Int} (h : ProcAt w b a wr) (o : Obj) : ProcAt (w.alloc o) b a wr :=
  ⟨by rw [World.cell?_alloc_past _ _ _ h.lt]; exact h.c0, by rw [World.cell?_alloc_past _ _ _ h.lt]; exact h.c3, by rw [World.frozen?_alloc_past _ _ _ h.lt]; exact h.f3, by have := h.lt; simp; omega⟩

theorem ProcAt.set {w : World} {b : Nat} {a wr : Int} (h : ProcAt w b a wr) (x : Int) (nq : Nat) : ProcAt ((w.setCell ⟨b, 3, none⟩ (.int .i64 x)).drewN nq) b a x :=
  ⟨by rw [World.cell?_drewN, World.cell?_setCell_other _ _ _ _ (by simp)]; exact h.c0, by rw [World.cell?_drewN]; exact World.cell?_setCell_same _ _ _ h.c3,
   by rw [World.frozen?_drewN, World.frozen?_setCell]; exact h.f3, by have := h.lt; simpa [World.setCell] using this⟩

theorem ProcAt.other {w : World} {b c : Nat} {a wr : Int} (h : ProcAt w b a wr) (x : Value) (nq : Nat) (hne : c ≠ b) : ProcAt ((w.setCell ⟨c, 3, none⟩ x).drewN nq) b a wr :=
  ⟨by rw [World.cell?_drewN, World.cell?_setCell_other _ _ _ _ (fun h => hne (congrArg Addr.block h))]; exact h.c0, by rw [World.cell?_drewN, World.cell?_setCell_other _ _ _ _ (fun h => hne (congrArg Addr.block h))]; exact h.c3,
   by rw [World.frozen?_drewN, World.frozen?_setCell]; exact h.f3, by have := h.lt; simpa [World.setCell] using this⟩

theorem hide {p : Prop} (h : p) : Hid p := h
theorem unhide {p : Prop} (h : Hid p) : p := h
theorem grown_drewN {W w : World} (h : Grown W w) (n : Nat) : Grown W (w.drewN n) := h

end Go.Proofs.Qxb6612705a
