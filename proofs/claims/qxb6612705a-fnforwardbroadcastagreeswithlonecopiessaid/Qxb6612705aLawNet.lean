import Derived.Test.Qxb6612705aQueue
import Derived.Test.Qxb6612705aLone2
import Derived.Test.Qxb6612705aBatchLaw
import Derived.Deep.RegionWith
namespace Go.Proofs.Qxb6612705a
open Go.RowKit
open Fl

/-- A network made anew of clones: its pointer v, in world w2. -/
def NetAt (n : Nat) (now seq rel : Int) (tr : Nat) (ll lf : List Int) (w w2 : World) (v : Value) : Prop :=
  ∃ b gl gt gf, v = .pointer (some ⟨b, 0, none⟩) ∧ Blk w2 b (netCells n now (.slice none 0 0) seq (.slice (some ⟨gl, 0, none⟩) (n + 1) (n + 1)) (.slice (some ⟨gt, 0, none⟩) n n) (.slice (some ⟨gf, 0, none⟩) n n) tr rel (.slice none 0 0)) 59 ∧
    Blk w2 gl (ints ll) 2 ∧ Blk w2 gt (ints (List.replicate n 0)) 54 ∧ Blk w2 gf (ints lf) 54 ∧ b ≠ gl ∧ b ≠ gf ∧ gl ≠ gf ∧ gt ≠ b ∧ gt ≠ gl ∧ gt ≠ gf ∧ w.heap.size ≤ b ∧ w.heap.size ≤ gl ∧ w.heap.size ≤ gt ∧ w.heap.size ≤ gf ∧ New w w2

theorem blk_eq {w : World} {g g' : Nat} {cs : List Value} {t : TypeId} (h : Blk w g cs t) (e : g' = g) : Blk w g' cs t := e ▸ h
theorem tri0 (w : World) (cs : List Value) (t : TypeId) (o1 o2 : Obj) : Blk (((w.alloc (.cells cs.toArray t)).alloc o1).alloc o2).drew w.heap.size cs t := (((Blk.new w cs t).alloc o1).alloc o2).drew
theorem tri1 (w : World) (cs : List Value) (t : TypeId) (o1 o2 : Obj) : Blk (((w.alloc o1).alloc (.cells cs.toArray t)).alloc o2).drew (w.heap.size + 1) cs t := (blk_eq (Blk.new (w.alloc o1) cs t) (by simp)).alloc o2
theorem tri2 (w : World) (cs : List Value) (t : TypeId) (o1 o2 : Obj) : Blk (((w.alloc o1).alloc o2).alloc (.cells cs.toArray t)).drew (w.heap.size + 1 + 1) cs t := blk_eq (Blk.new ((w.alloc o1).alloc o2) cs t) (by simp)
theorem tri_new (w : World) (o1 o2 o3 : Obj) : New w (((w.alloc o1).alloc o2).alloc o3).drew := ((((Kept.refl _ w).alloc _).alloc _).alloc _).drew

theorem newNetwork_at (n : Nat) (now seq rel : Int) (tr : Nat) (ll lf : List Int) (bl bt bf : Nat) (w W : World) (h1 : 1 ≤ n) (h2 : n ≤ 65536) (hlf : lf.length = n)
    (hl : Blk W bl (ints ll) 2) (ht : Blk W bt (ints (List.replicate n 0)) 2) (hf : Blk W bf (ints lf) 2) (hw : w.heap.size ≤ bl) (hB : New w W) :
    Calls Try.prog 9 #[.int .i64 n, .int .i64 now, .int .u64 seq, .slice (some ⟨bl, 0, none⟩) (n + 1) (n + 1), .slice (some ⟨bt, 0, none⟩) n n, .slice (some ⟨bf, 0, none⟩) n n, .float .f64 tr, .int .i64 rel] W fun e w' =>
      ∃ v, e = .returned v ∧ NetAt n now seq rel tr ll lf w w' v := by
  have hb := hl.lt
  have hs := hB.size
  refine (newNetwork_any n now seq _ bt 0 n bf 0 n (List.replicate n 0) lf tr rel W h1 (by omega) (by simp) hlf ht.lt hf.lt _ _ _ rfl (fun i hi => by rw [ht.cell, Nat.zero_add, ints_get _ _ (by simpa using hi)]) (fun i hi => by rw [hf.cell, Nat.zero_add, ints_get _ _ (by omega)])).mono ?_
  rintro e w' ⟨rfl, rfl⟩
  refine ⟨_, rfl, W.heap.size + 2, bl, W.heap.size, W.heap.size + 1, rfl, blk_eq (Blk.new _ _ _) (by simp), ((hl.alloc _).alloc _).alloc _, ((Blk.new _ _ _).alloc _).alloc _, (blk_eq (Blk.new _ _ _) (by simp)).alloc _, by omega, by omega, by omega, by omega, by omega, by omega, by omega, by omega, by omega, by omega, ?_⟩
  exact ((hB.alloc _).alloc _).alloc _

/-- The clone of a row that lies in a world before this one. -/
theorem clone_later (g n : Nat) (l : List Int) (w W : World) (hl : l.length = n) (h1 : 1 ≤ n) (hn : n ≤ 1048576) (hg : Blk w g (ints l) 2) (hK : New w W) :
    Calls Try.prog 8 #[.slice (some ⟨g, 0, none⟩) n n] W fun e w' => e = .returned (.slice (some ⟨W.heap.size, 0, none⟩) n n) ∧ w' = W.alloc (.cells (ints l).toArray 2) := by
  have h := hg.kept hK (fun e => e)
  exact clone_any g 0 n n l W hl h1 hn h.lt (fun i hi => by rw [h.cell, Nat.zero_add, ints_get _ _ (by omega)])

end Go.Proofs.Qxb6612705a
