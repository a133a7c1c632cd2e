import Derived.Test.YbulkuskPost
import Derived.Below
import Derived.LoopN
import Derived.Laws.NewBlocks
namespace Go.Proofs.Ybulkusk
open Go Go.RowKit

/-! ### a block of cells, none of them frozen -/
section
variable {w : World} {b i : Nat} {cs : Array Value} {T : TypeId} {v : Value}
theorem blk_cell (h : w.heap[b]? = some (.cells cs T (0, 0))) (hv : cs[i]? = some v) : w.cell? ⟨b, i, none⟩ = some v := by
  simp [World.cell?, h, hv]
theorem blk_frozen (h : w.heap[b]? = some (.cells cs T (0, 0))) : w.frozen? ⟨b, i, none⟩ = false := by
  simp [World.frozen?, h]
theorem blk_shape (h : w.heap[b]? = some (.cells cs T (0, 0))) : w.shape? b = some (T, cs.size) := by
  simp [World.shape?, h]
theorem blk_set (h : w.heap[b]? = some (.cells cs T (0, 0))) (v : Value) : (w.setCell ⟨b, i, none⟩ v).heap[b]? = some (.cells (cs.setIfInBounds i v) T (0, 0)) := by
  simp [World.setCell, Array.getElem?_modify, h]
theorem blk_set_other {c : Nat} {o : Option Obj} (h : w.heap[b]? = o) (hn : b ≠ c) (v : Value) : (w.setCell ⟨c, i, none⟩ v).heap[b]? = o := by
  rw [Below.heap_setCell _ _ _ _ hn]; exact h
end

/-- The mutex's block (number B), the channel's, the waiter's, the list of arrivals' (B + 1, B + 2, B + 3); below B all is as it was in w0. -/
structure St (B : Nat) (w0 w : World) (mc : Array Value) (ch : Obj) (xc lc : Array Value) : Prop where
  gr : Below B w0 w
  hm : w.heap[B]? = some (.cells mc 41 (0, 0))
  hc : w.heap[B + 1]? = some ch
  hx : w.heap[B + 2]? = some (.cells xc 56 (0, 0))
  hl : w.heap[B + 3]? = some (.cells lc 64 (0, 0))

section
variable {B : Nat} {w0 w : World} {mc xc lc : Array Value} {ch : Obj}
theorem St.drew (h : St B w0 w mc ch xc lc) : St B w0 w.drew mc ch xc lc := ⟨h.gr.drew, h.hm, h.hc, h.hx, h.hl⟩
theorem St.setM (h : St B w0 w mc ch xc lc) (i : Nat) (v : Value) : St B w0 (w.setCell ⟨B, i, none⟩ v) (mc.setIfInBounds i v) ch xc lc :=
  ⟨h.gr.setCell (Nat.le_refl _) v, blk_set h.hm v, blk_set_other h.hc (by omega) v, blk_set_other h.hx (by omega) v, blk_set_other h.hl (by omega) v⟩
theorem St.setX (h : St B w0 w mc ch xc lc) (i : Nat) (v : Value) : St B w0 (w.setCell ⟨B + 2, i, none⟩ v) mc ch (xc.setIfInBounds i v) lc :=
  ⟨h.gr.setCell (by show B ≤ B + 2; omega) v, blk_set_other h.hm (by omega) v, blk_set_other h.hc (by omega) v, blk_set h.hx v, blk_set_other h.hl (by omega) v⟩
theorem St.setL (h : St B w0 w mc ch xc lc) (i : Nat) (v : Value) : St B w0 (w.setCell ⟨B + 3, i, none⟩ v) mc ch xc (lc.setIfInBounds i v) :=
  ⟨h.gr.setCell (by show B ≤ B + 3; omega) v, blk_set_other h.hm (by omega) v, blk_set_other h.hc (by omega) v, blk_set_other h.hx (by omega) v, blk_set h.hl v⟩
end

/-! ### the mutex's word -/
def lk (s : Int) : Int := wrap32 (s / 2147483648)
def wtc (s : Int) : Int := wrap32 (bits .and .i64 s 2147483647) / 2
theorem locks_any (s : Int) (w : World) : Calls Yba.prog 21 #[.int .i64 s] w fun e w' => e = .returned (.int .i32 (lk s)) ∧ w' = w := by
  go_enter Yba.func21, Yba.ntmps21
  go_wp2
  go_ret
  exact ⟨rfl, rfl⟩
theorem waiters_any (s : Int) (w : World) : Calls Yba.prog 24 #[.int .i64 s] w fun e w' => e = .returned (.int .i32 (wtc s)) ∧ w' = w := by
  go_enter Yba.func24, Yba.ntmps24
  go_wp2
  go_ret
  exact ⟨rfl, rfl⟩
theorem locked_any (s : Int) (w : World) : Calls Yba.prog 25 #[.int .i64 s] w fun e w' => e = .returned (.bool (lk s != 0)) ∧ w' = w := by
  go_enter Yba.func25, Yba.ntmps25
  go_wp2_with (go_at_call 21; refine (locks_any _ _).mono ?_; rintro e w' ⟨rfl, rfl⟩)
  go_ret
  exact ⟨rfl, rfl⟩
theorem mload (b : Nat) (x : Int) (w : World) (hc : w.cell? ⟨b, 0, none⟩ = some (.int .i64 x)) :
    Calls Yba.prog 11 #[.pointer (some ⟨b, 0, none⟩)] w fun e w' => e = .returned (.int .i64 x) ∧ w' = w := by
  go_enter Yba.func11, Yba.ntmps11
  go_wp2_with (go_at_call 14; refine (i64_load _ _ _ _ hc).mono ?_; rintro e w' ⟨rfl, rfl⟩)
  go_ret
  exact ⟨rfl, rfl⟩
theorem mcas (b : Nat) (x y : Int) (w : World) (hc : w.cell? ⟨b, 0, none⟩ = some (.int .i64 x)) (hz : w.frozen? ⟨b, 0, none⟩ = false) :
    Calls Yba.prog 26 #[.pointer (some ⟨b, 0, none⟩), .int .i64 x, .int .i64 y] w fun e w' => e = .returned (.bool true) ∧ w' = w.setCell ⟨b, 0, none⟩ (.int .i64 y) := by
  go_enter Yba.func26, Yba.ntmps26
  go_wp2_with (go_at_call 43; refine (i64_cas _ _ _ _ _ hc hz).mono ?_; rintro e w' ⟨rfl, rfl⟩)
  go_ret
  exact ⟨rfl, rfl⟩
end Go.Proofs.Ybulkusk
