import Derived.Test.Qxb6612705aMsg
namespace Go.Proofs.Qxb6612705a
open Go.RowKit

def beforeM (a b : Msg) : Bool := beforeB a.tat a.seq b.tat b.seq
/-- Messages i and p exchanged. -/
def swapAt (h : List Msg) (i p : Nat) : List Msg := (h.set i (h.getD p noMsg)).set p (h.getD i noMsg)
/-- Sifting up from place k (the first number: fuel, at least k). -/
def siftF : Nat → List Msg → Nat → List Msg
  | 0, h, _ => h
  | f + 1, h, k => if k = 0 then h else if beforeM (h.getD k noMsg) (h.getD ((k - 1) / 2) noMsg) = true then siftF f (swapAt h k ((k - 1) / 2)) ((k - 1) / 2) else h
def pushH (h : List Msg) (m : Msg) : List Msg := siftF h.length (h ++ [m]) h.length

theorem swapAt_length (h : List Msg) (i p : Nat) : (swapAt h i p).length = h.length := by simp [swapAt]
theorem siftF_zero (f : Nat) (h : List Msg) : siftF f h 0 = h := by cases f <;> simp [siftF]
theorem siftF_stop (f : Nat) (h : List Msg) (k : Nat) (hb : beforeM (h.getD k noMsg) (h.getD ((k - 1) / 2) noMsg) = false) : siftF f h k = h := by
  cases f with
  | zero => rfl
  | succ f => rw [siftF, hb]; simp
theorem siftF_step (f : Nat) (h : List Msg) (k : Nat) (hk : 0 < k) (hf : k ≤ f) (hb : beforeM (h.getD k noMsg) (h.getD ((k - 1) / 2) noMsg) = true) : ∃ f', (k - 1) / 2 ≤ f' ∧ siftF f h k = siftF f' (swapAt h k ((k - 1) / 2)) ((k - 1) / 2) := by
  cases f with
  | zero => omega
  | succ f => exact ⟨f, by omega, by rw [siftF, if_neg (by omega), if_pos hb]⟩

theorem siftF_length : ∀ (f : Nat) (h : List Msg) (k : Nat), (siftF f h k).length = h.length
  | 0, _, _ => rfl
  | f + 1, h, k => by
    rw [siftF]
    split
    · rfl
    · split
      · rw [siftF_length f, swapAt_length]
      · rfl
theorem pushH_length (h : List Msg) (m : Msg) : (pushH h m).length = h.length + 1 := by rw [pushH, siftF_length]; simp

def msgZero : Value := .agg #[.int .i64 0, .int .i64 0, .int .u64 0, .int .i64 0, .int .i64 0, .int .u8 0, .int .u8 0, .int .i64 0, .int .i64 0, .int .i64 0, .int .i64 0, .int .i64 0, .int .i64 0, .int .i64 0, .int .i64 0]
theorem Try.info64z : (Try.prog.info? 64).map (fun i => (i.zero, i.size, i.bytes)) = some (some msgZero, 15, 112) := by kernel_rfl

def aggOf (m : Msg) : Value := .agg (msgCells m).toArray

end Go.Proofs.Qxb6612705a
