import Derived.Test.Qxb6612705aBefore
import Derived.Deep.AppendLies
namespace Go.Proofs.Qxb6612705a
open Go.RowKit

/-- A message. -/
structure Msg where
  tat : Int
  sent : Int
  seq : Int
  src : Int
  dst : Int
  prim : Int
  kind : Int
  origin : Int
  dest : Int
  value : Int
  writer : Int
  counter : Int
  load : Int
  rord : Int
  oord : Int

def msgCells (m : Msg) : List Value :=
  [.int .i64 m.tat, .int .i64 m.sent, .int .u64 m.seq, .int .i64 m.src, .int .i64 m.dst, .int .u8 m.prim, .int .u8 m.kind, .int .i64 m.origin, .int .i64 m.dest, .int .i64 m.value,
   .int .i64 m.writer, .int .i64 m.counter, .int .i64 m.load, .int .i64 m.rord, .int .i64 m.oord]
theorem msgCells_length (m : Msg) : (msgCells m).length = 15 := rfl
theorem msgCells_one (m : Msg) : ∀ v ∈ msgCells m, v.oneCell' = true := by
  intro v hv
  simp only [msgCells, List.mem_cons, List.not_mem_nil, or_false] at hv
  rcases hv with h | h | h | h | h | h | h | h | h | h | h | h | h | h | h <;> subst h <;> rfl

def noMsg : Msg := ⟨0, 0, 0, 0, 0, 0, 0, 0, 0, 0, 0, 0, 0, 0, 0⟩

/-- The cells of a row of messages. -/
def flat (ms : List Msg) : List Value := ms.flatMap msgCells
theorem flat_nil : flat [] = [] := rfl
theorem flat_cons (m : Msg) (ms : List Msg) : flat (m :: ms) = msgCells m ++ flat ms := rfl
theorem flat_append (a b : List Msg) : flat (a ++ b) = flat a ++ flat b := by simp [flat]
theorem flat_single (m : Msg) : flat [m] = msgCells m := by simp [flat]
theorem flat_length : ∀ ms : List Msg, (flat ms).length = ms.length * 15
  | [] => rfl
  | m :: ms => by rw [flat_cons, List.length_append, flat_length ms, msgCells_length]; simp; omega
theorem flat_one (ms : List Msg) : ∀ v ∈ flat ms, v.oneCell' = true := by
  intro v hv
  obtain ⟨m, _, hm⟩ := List.mem_flatMap.1 hv
  exact msgCells_one m v hm
theorem flat_get : ∀ (ms : List Msg) (k j : Nat), j < 15 → (flat ms)[k * 15 + j]? = (ms[k]?).bind fun m => (msgCells m)[j]?
  | [], k, j, _ => by simp [flat_nil]
  | m :: ms, 0, j, hj => by
    rw [flat_cons, List.getElem?_append_left (by rw [msgCells_length]; omega)]; simp
  | m :: ms, k + 1, j, hj => by
    rw [flat_cons, List.getElem?_append_right (by rw [msgCells_length]; omega), msgCells_length, show (k + 1) * 15 + j - 15 = k * 15 + j from by omega, flat_get ms k j hj]
    simp

theorem flat_get_at (ms : List Msg) (k j : Nat) (hk : k < ms.length) (hj : j < 15) : (flat ms)[k * 15 + j]? = (msgCells (ms.getD k noMsg))[j]? := by
  rw [flat_get ms k j hj, List.getElem?_eq_getElem hk, Option.bind_some, List.getD, List.getElem?_eq_getElem hk]; rfl

/-- A row of messages with one written anew. -/
theorem flat_setFrom (ms : List Msg) (k : Nat) (m : Msg) (hk : k < ms.length) : setFrom (flat ms) (k * 15) (msgCells m) = flat (ms.set k m) := by
  apply List.ext_getElem?
  intro i
  have hl := flat_length ms
  rw [setFrom_get _ _ _ _ (by rw [hl, msgCells_length]; omega), msgCells_length]
  obtain ⟨a, c, rfl, hc⟩ : ∃ a c, i = a * 15 + c ∧ c < 15 := ⟨i / 15, i % 15, by omega, by omega⟩
  rw [flat_get _ _ _ hc, flat_get _ _ _ hc, List.getElem?_set]
  by_cases h : k = a
  · subst h
    rw [if_pos (by omega), if_pos rfl, if_pos hk, show k * 15 + c - k * 15 = c from by omega]; rfl
  · rw [if_neg (by omega), if_neg h]

/-- One cell of one message written anew: message k is then m', whose cells but for the j-th are as they were. -/
theorem flat_set (ms : List Msg) (k j : Nat) (v : Value) (m' : Msg) (hk : k < ms.length) (hj : j < 15) (hm : (msgCells (ms.getD k noMsg)).set j v = msgCells m') : (flat ms).set (k * 15 + j) v = flat (ms.set k m') := by
  apply List.ext_getElem?
  intro i
  obtain ⟨a, c, rfl, hc⟩ : ∃ a c, i = a * 15 + c ∧ c < 15 := ⟨i / 15, i % 15, by omega, by omega⟩
  have hl := flat_length ms
  rw [List.getElem?_set, flat_get _ _ _ hc, flat_get _ _ _ hc, List.getElem?_set]
  by_cases h : k = a
  · subst h
    rw [if_pos (rfl : k = k), if_pos hk, Option.bind_some, ← hm, List.getElem?_set, msgCells_length]
    by_cases h2 : j = c
    · subst h2
      rw [if_pos rfl, if_pos (by omega), if_pos rfl, if_pos hj]
    · rw [if_neg (by omega), if_neg h2, List.getElem?_eq_getElem hk, Option.bind_some, List.getD, List.getElem?_eq_getElem hk]; rfl
  · rw [if_neg (by omega), if_neg h]

theorem take_set {α : Type} (cs : List α) (n i : Nat) (v : α) : (cs.set i v).take n = (cs.take n).set i v := by
  apply List.ext_getElem?
  intro j
  simp only [List.getElem?_take, List.getElem?_set, List.length_take]
  by_cases h1 : j < n
  · rw [if_pos h1, if_pos h1]
    by_cases h2 : i = j
    · subst h2
      rw [if_pos rfl, if_pos rfl]
      by_cases h3 : i < cs.length
      · rw [if_pos h3, if_pos (by omega)]
      · rw [if_neg h3, if_neg (by omega)]
    · rw [if_neg h2, if_neg h2]
  · rw [if_neg h1, if_neg h1]
    by_cases h2 : i = j
    · subst h2; rw [if_pos rfl, if_neg (by omega)]
    · rw [if_neg h2]

theorem take_setFrom (n : Nat) : ∀ (vs cs : List Value) (o : Nat), (setFrom cs o vs).take n = setFrom (cs.take n) o vs
  | [], _, _ => rfl
  | v :: r, cs, o => by rw [setFrom, setFrom, take_setFrom n r, take_set]

/-! ### A slice of messages that the call owns -/
/-- v is a slice at the head of block g whose elements are ms. -/
structure Row (w : World) (v : Value) (g cap : Nat) (cs : List Value) (ms : List Msg) : Prop where
  val : v = .slice (some ⟨g, 0, none⟩) ms.length cap
  blk : Blk w g cs 64
  le : ms.length ≤ cap
  max : cap ≤ maxLen
  len : cs.length = cap * 15
  take : cs.take (ms.length * 15) = flat ms

theorem Row.owns {w : World} {v : Value} {g cap : Nat} {cs : List Value} {ms : List Msg} (h : Row w v g cap cs ms) : w.ownsRow 0 64 15 v ms.length (flat ms) :=
  ⟨flat_length ms, .inr ⟨g, cap, cs.toArray, h.val, Nat.zero_le _, h.blk, h.le, h.max, by simpa using h.len, by simpa using h.take⟩⟩

theorem Row.of {w : World} {v : Value} {ms : List Msg} (h : w.ownsRow 0 64 15 v ms.length (flat ms)) (h0 : 0 < ms.length) : ∃ g cap cs, Row w v g cap cs ms := by
  rcases h.2 with ⟨_, hz⟩ | ⟨g, cap, cur, hv, _, hg, hle, hmax, hsz, htk⟩
  · omega
  · exact ⟨g, cap, cur.toList, hv, by unfold Blk; rw [hg], hle, hmax, by simpa using hsz, by simpa using htk⟩

section
variable {w : World} {v : Value} {g cap : Nat} {cs : List Value} {ms : List Msg}

theorem Row.get (h : Row w v g cap cs ms) (k j : Nat) (hk : k < ms.length) (hj : j < 15) : w.cell? ⟨g, k * 15 + j, none⟩ = (msgCells (ms.getD k noMsg))[j]? := by
  rw [h.blk.cell, ← flat_get_at ms k j hk hj, ← h.take, List.getElem?_take, if_pos (by omega)]

theorem Row.range (h : Row w v g cap cs ms) (k : Nat) (hk : k < ms.length) : w.rangeAt g (k * 15) (msgCells (ms.getD k noMsg)) := by
  intro j u hu
  have hj : j < 15 := by have := (List.getElem?_eq_some_iff.1 hu).1; rwa [msgCells_length] at this
  rw [h.get k j hk hj, hu]

theorem Row.there (h : Row w v g cap cs ms) (k : Nat) (hk : k < ms.length) : w.there g (k * 15) 15 := by
  intro j hj
  refine ⟨?_, h.blk.frozen _⟩
  rw [h.get k j hk hj, List.getElem?_eq_getElem (by rw [msgCells_length]; exact hj)]; rfl

theorem Row.kept {S : Nat → Prop} {w' : World} (h : Row w v g cap cs ms) (k : Kept S w w') (hs : ¬ S g) : Row w' v g cap cs ms := ⟨h.val, h.blk.kept k hs, h.le, h.max, h.len, h.take⟩
theorem Row.drewN (h : Row w v g cap cs ms) (n : Nat) : Row (w.drewN n) v g cap cs ms := ⟨h.val, h.blk, h.le, h.max, h.len, h.take⟩
theorem Row.drew (h : Row w v g cap cs ms) : Row w.drew v g cap cs ms := ⟨h.val, h.blk, h.le, h.max, h.len, h.take⟩
theorem Row.alloc (h : Row w v g cap cs ms) (o : Obj) : Row (w.alloc o) v g cap cs ms := ⟨h.val, h.blk.alloc o, h.le, h.max, h.len, h.take⟩
theorem Row.setOther (h : Row w v g cap cs ms) {p : Addr} (hne : p.block ≠ g) (u : Value) : Row (w.setCell p u) v g cap cs ms := ⟨h.val, h.blk.setOther hne u, h.le, h.max, h.len, h.take⟩

/-- One cell of message k is written. -/
theorem Row.set (h : Row w v g cap cs ms) (k j : Nat) (u : Value) (m' : Msg) (hk : k < ms.length) (hj : j < 15) (hm : (msgCells (ms.getD k noMsg)).set j u = msgCells m') :
    Row (w.setCell ⟨g, k * 15 + j, none⟩ u) v g cap (cs.set (k * 15 + j) u) (ms.set k m') :=
  ⟨by rw [List.length_set]; exact h.val, h.blk.set _ _, by rw [List.length_set]; exact h.le, h.max, by rw [List.length_set]; exact h.len, by
    rw [List.length_set, take_set, h.take, flat_set ms k j u m' hk hj hm]⟩

/-- Message k is written whole. -/
theorem Row.setAll (h : Row w v g cap cs ms) (k : Nat) (m' : Msg) (hk : k < ms.length) :
    Row (w.setCells g (k * 15) (msgCells m')) v g cap (setFrom cs (k * 15) (msgCells m')) (ms.set k m') :=
  ⟨by rw [List.length_set]; exact h.val, Blk.setCells _ _ _ _ h.blk, by rw [List.length_set]; exact h.le, h.max, by rw [setFrom_length]; exact h.len, by
    rw [List.length_set, take_setFrom, h.take, flat_setFrom ms k m' hk]⟩
end

theorem Try.info64 : (Try.prog.info? 64).map (fun i => (i.size, i.bytes)) = some (15, 112) := by kernel_rfl

end Go.Proofs.Qxb6612705a
