import Derived.Test.YbulkuvqMoney
import Derived.BigRegion
namespace Go.Proofs.Ybulkuvq
open Go Go.RowKit
set_option linter.unusedVariables false

/-! ### a block of cells, none of them frozen -/
section
variable {w u : World} {b i : Nat} {cs : Array Value} {T : TypeId} {v : Value}
theorem blk_cell (h : w.heap[b]? = some (.cells cs T (0, 0))) (hv : cs[i]? = some v) : w.cell? ⟨b, i, none⟩ = some v := by
  simp [World.cell?, h, hv]
theorem blk_frozen (h : w.heap[b]? = some (.cells cs T (0, 0))) : w.frozen? ⟨b, i, none⟩ = false := by
  simp [World.frozen?, h]
theorem blk_set (h : w.heap[b]? = some (.cells cs T (0, 0))) (v : Value) : (w.setCell ⟨b, i, none⟩ v).heap[b]? = some (.cells (cs.setIfInBounds i v) T (0, 0)) := by
  simp [World.setCell, Array.getElem?_modify, h]
theorem cell_of (h : w.heap[b]? = u.heap[b]?) : w.cell? ⟨b, i, none⟩ = u.cell? ⟨b, i, none⟩ := by
  simp [World.cell?, h]
end

/-- Block x (of type T) holds cs; every other block that was there in w0 is as it was. -/
structure Bb (x : Nat) (T : TypeId) (w0 w : World) (cs : Array Value) : Prop where
  os : w.os = w0.os
  tape : w.tape = w0.tape
  output : w.output = w0.output
  size : w0.heap.size ≤ w.heap.size
  lt : x < w0.heap.size
  hb : w.heap[x]? = some (.cells cs T (0, 0))
  block : ∀ k, k < w0.heap.size → k ≠ x → w.heap[k]? = w0.heap[k]?

section
variable {x : Nat} {T : TypeId} {w0 w : World} {cs : Array Value}
theorem Bb.start (h : w0.heap[x]? = some (.cells cs T (0, 0))) : Bb x T w0 w0 cs :=
  ⟨rfl, rfl, rfl, Nat.le_refl _, (Array.getElem?_eq_some_iff.1 h).1, h, fun _ _ _ => rfl⟩
theorem Bb.drew (h : Bb x T w0 w cs) : Bb x T w0 w.drew cs := ⟨h.os, h.tape, h.output, h.size, h.lt, h.hb, h.block⟩
theorem Bb.set (h : Bb x T w0 w cs) (i : Nat) (v : Value) : Bb x T w0 (w.setCell ⟨x, i, none⟩ v) (cs.setIfInBounds i v) :=
  ⟨h.os, h.tape, h.output, by simpa using h.size, h.lt, blk_set h.hb v, fun k hk hn => by rw [Below.heap_setCell _ _ _ _ (by simpa using hn)]; exact h.block k hk hn⟩
theorem Bb.alloc (h : Bb x T w0 w cs) (o : Obj) : Bb x T w0 (w.alloc o) cs :=
  ⟨h.os, h.tape, h.output, by have := h.size; simp; omega, h.lt, by rw [Below.heap_alloc _ _ _ (Nat.lt_of_lt_of_le h.lt h.size)]; exact h.hb,
   fun k hk hn => by rw [Below.heap_alloc _ _ _ (Nat.lt_of_lt_of_le hk h.size)]; exact h.block k hk hn⟩
theorem Bb.below {w' : World} (h : Bb x T w0 w cs) (hb : Below w.heap.size w w') : Bb x T w0 w' cs :=
  ⟨hb.os.trans h.os, hb.tape.trans h.tape, hb.output.trans h.output, Nat.le_trans h.size hb.size, h.lt, by rw [hb.block x (Nat.lt_of_lt_of_le h.lt h.size)]; exact h.hb,
   fun k hk hn => by rw [hb.block k (Nat.lt_of_lt_of_le hk h.size)]; exact h.block k hk hn⟩
theorem Bb.cell (h : Bb x T w0 w cs) {b : Nat} (hb : b < w0.heap.size) (hn : b ≠ x) (i : Nat) : w.cell? ⟨b, i, none⟩ = w0.cell? ⟨b, i, none⟩ := cell_of (h.block b hb hn)
end

theorem ix58_0 (a b : Value) (w : World) : (Instr.index 58 (.agg #[a, b]) (.int .i64 0)).run Yba.prog w = .ok a w := by kernel_rfl
theorem ix58_1 (a b : Value) (w : World) : (Instr.index 58 (.agg #[a, b]) (.int .i64 1)).run Yba.prog w = .ok b w := by kernel_rfl
theorem ix30 (cs : Array Value) (k : Nat) (v : Value) (hk : k < 12) (hv : cs[k]? = some v) (w : World) : (Instr.index 30 (.agg cs) (.int .i64 k)).run Yba.prog w = .ok v w := by
  have hz : (sizeOf 29).run Yba.prog w = .ok 1 w := by kernel_rfl
  have ha : (isAgg 29).run Yba.prog w = .ok false w := by kernel_rfl
  have h1 : ((0 : Int) ≤ (k : Int) ∧ (k : Int) < ((12 : Nat) : Int)) := by omega
  simp only [Instr.index, asIntOf, Sem.run_bind, Sem.run_pure, run_underlying Yba.underlying30, Result.andThen_ok, if_pos h1, hz, part, ha, Nat.mul_one, Int.toNat_natCast, hv, Bool.false_eq_true, if_false]

/-- twelve numbers -/
abbrev A12 (f : Nat → Int) : Array Value :=
  #[.int .i64 (f 0), .int .i64 (f 1), .int .i64 (f 2), .int .i64 (f 3), .int .i64 (f 4), .int .i64 (f 5), .int .i64 (f 6), .int .i64 (f 7), .int .i64 (f 8), .int .i64 (f 9), .int .i64 (f 10), .int .i64 (f 11)]
theorem A12_at (f : Nat → Int) (k : Nat) (hk : k < 12) : (A12 f)[k]? = some (.int .i64 (f k)) := by
  match k, hk with
  | 0, _ | 1, _ | 2, _ | 3, _ | 4, _ | 5, _ | 6, _ | 7, _ | 8, _ | 9, _ | 10, _ | 11, _ => rfl

/-- the months counted, of the first k -/
def cnt (h c : Nat → Int) : Nat → Int
  | 0 => 0
  | k + 1 => cnt h c k + if h k ≠ 0 ∧ c k = 0 then 1 else 0
theorem cnt_bd (h c : Nat → Int) (k : Nat) : 0 ≤ cnt h c k ∧ cnt h c k ≤ k := by
  induction k with
  | zero => simp [cnt]
  | succ k ih => simp only [cnt]; split <;> omega
theorem cnt_yes (h c : Nat → Int) (k : Nat) (h1 : h k ≠ 0) (h2 : c k = 0) : cnt h c (k + 1) = cnt h c k + 1 := by simp [cnt, h1, h2]
theorem cnt_no (h c : Nat → Int) (k : Nat) (hn : ¬ (h k ≠ 0 ∧ c k = 0)) : cnt h c (k + 1) = cnt h c k := by
  simp only [cnt, if_neg hn]; omega
end Go.Proofs.Ybulkuvq
