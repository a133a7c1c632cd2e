import Derived.Test.YbulkuskSt
import Derived.Conc.LoneCalls
namespace Go.Proofs.Ybulkusk
open Go Go.RowKit
open Go.Conc (run_makeChan)

theorem bytes28 : ∃ i, Yba.prog.info? 28 = some i ∧ i.bytes = 0 := by
  have h : (Yba.prog.info? 28).map (·.bytes) = some 0 := by kernel_rfl
  obtain ⟨i, hi, hb⟩ := Option.map_eq_some_iff.1 h
  exact ⟨i, hi, hb⟩
theorem mkch (w : World) : (Instr.makeChan 54 (.int .i64 1)).run Yba.prog w = .ok (.chan (some w.heap.size)) (w.alloc (.chan 1 #[] false 0 0 false)) := by
  obtain ⟨i, hi, hb⟩ := bytes28
  simpa using run_makeChan (P := Yba.prog) (w := w) Yba.underlying54 hi .i64 1 (by omega) (by rw [hb]; omega)

theorem new_waiter (w : World) : Calls Yba.prog 8 #[] w fun e w' => e = .returned (.pointer (some ⟨w.heap.size + 1, 0, none⟩)) ∧
    w' = (w.alloc (.chan 1 #[] false 0 0 false)).alloc (.cells #[.int .i64 0, .int .u32 0, .chan (some w.heap.size), .pointer none, .pointer none, .int .i64 0, .int .i64 0] 56) := by
  have hm := mkch w
  go_enter Yba.func8, Yba.ntmps8
  go_wp2
  go_ret
  exact ⟨rfl, rfl⟩

/-- as 'St', before the list of arrivals is made. -/
structure St3 (B : Nat) (w0 w : World) (mc : Array Value) (ch : Obj) (xc : Array Value) : Prop where
  gr : Below B w0 w
  hs : w.heap.size = B + 3
  hm : w.heap[B]? = some (.cells mc 41 (0, 0))
  hc : w.heap[B + 1]? = some ch
  hx : w.heap[B + 2]? = some (.cells xc 56 (0, 0))
section
variable {B : Nat} {w0 w : World} {mc xc lc : Array Value} {ch : Obj}
theorem St3.setM (h : St3 B w0 w mc ch xc) (i : Nat) (v : Value) : St3 B w0 (w.setCell ⟨B, i, none⟩ v) (mc.setIfInBounds i v) ch xc :=
  ⟨h.gr.setCell (Nat.le_refl _) v, by simpa using h.hs, blk_set h.hm v, blk_set_other h.hc (by omega) v, blk_set_other h.hx (by omega) v⟩
theorem St3.setX (h : St3 B w0 w mc ch xc) (i : Nat) (v : Value) : St3 B w0 (w.setCell ⟨B + 2, i, none⟩ v) mc ch (xc.setIfInBounds i v) :=
  ⟨h.gr.setCell (by show B ≤ B + 2; omega) v, by simpa using h.hs, blk_set_other h.hm (by omega) v, blk_set_other h.hc (by omega) v, blk_set h.hx v⟩
theorem St3.alloc (h : St3 B w0 w mc ch xc) (lc : Array Value) : St B w0 (w.alloc (.cells lc 64)) mc ch xc lc :=
  ⟨h.gr.alloc (by rw [h.hs]; omega) _, by rw [Below.heap_alloc _ _ _ (by rw [h.hs]; omega)]; exact h.hm, by rw [Below.heap_alloc _ _ _ (by rw [h.hs]; omega)]; exact h.hc, by rw [Below.heap_alloc _ _ _ (by rw [h.hs]; omega)]; exact h.hx,
   by have := heap_alloc_new w (.cells lc 64); rw [h.hs] at this; exact this⟩
end

/-- the list of arrivals is made. -/
theorem make_list {B : Nat} {w0 w : World} {ch : Obj} {xc : Array Value} (s g : Int) (hd tl ar gr : Value) (sn : Int)
    (h : St3 B w0 w #[.int .i64 s, .int .u32 g, .int .u32 0, hd, tl, .int .i64 sn, ar, gr] ch xc) :
    Calls Yba.prog 18 #[.pointer (some ⟨B, 1, none⟩)] w fun e w' => e = .returned (.tuple #[]) ∧
      St B w0 w' #[.int .i64 s, .int .u32 g, .int .u32 2, hd, tl, .int .i64 sn, .pointer (some ⟨B + 3, 0, none⟩), gr] ch xc #[.pointer none] := by
  have hA := h.alloc #[.pointer none]
  have hB := (((h.setM 2 (.int .u32 1)).setM 6 (.pointer (some ⟨B + 3, 0, none⟩))).alloc #[.pointer none])
  have hs := h.hs
  have a2 := blk_cell (v := .int .u32 0) hA.hm (i := 2) rfl
  have a6 := blk_cell (v := ar) hA.hm (i := 6) rfl
  have z2 := blk_frozen hA.hm (i := 2)
  have z6 := blk_frozen hA.hm (i := 6)
  have b2 := blk_cell (v := .int .u32 0) h.hm (i := 2) rfl
  have b6 := blk_cell (v := ar) h.hm (i := 6) rfl
  have y2 := blk_frozen h.hm (i := 2)
  have y6 := blk_frozen h.hm (i := 6)
  clear h hA
  go_enter Yba.func18, Yba.ntmps18
  go_wp2_with (go_at_call 35; refine (u32_cas _ _ _ _ _ a2 z2).mono ?_; rintro e w' ⟨rfl, rfl⟩)
  refine (u32_store B 2 _ _ _ (blk_cell hB.hm rfl) (blk_frozen hB.hm)).mono ?_
  rintro e w' ⟨rfl, hw⟩
  have hE : St B w0 w' #[.int .i64 s, .int .u32 g, .int .u32 2, hd, tl, .int .i64 sn, .pointer (some ⟨B + 3, 0, none⟩), gr] ch xc #[.pointer none] := by
    rw [hw]; simpa using hB.setM 2 (.int .u32 2)
  clear hw
  go_wp2
  refine bodyPost_ret (results_none rfl _ _ _) rfl ?_
  exact ⟨rfl, hE⟩

/-- Arrive: the one waiter, stamp 1. -/
theorem arrive {B : Nat} {w0 w : World} {ch : Obj} (s g : Int) (hd tl ar gr cv pv nx : Value) (a0 po sn s5 s6 : Int)
    (h : St3 B w0 w #[.int .i64 s, .int .u32 g, .int .u32 0, hd, tl, .int .i64 sn, ar, gr] ch #[.int .i64 a0, .int .u32 po, cv, pv, nx, .int .i64 s5, .int .i64 s6]) :
    Calls Yba.prog 9 #[.pointer (some ⟨B, 1, none⟩), .pointer (some ⟨B + 2, 0, none⟩), .int .i64 1] w fun e w' => e = .returned (.tuple #[]) ∧
      St B w0 w' #[.int .i64 s, .int .u32 g, .int .u32 2, hd, tl, .int .i64 sn, .pointer (some ⟨B + 3, 0, none⟩), gr] ch
        #[.int .i64 a0, .int .u32 po, cv, pv, .pointer none, .int .i64 1, .int .i64 1] #[.pointer (some ⟨B + 2, 0, none⟩)] := by
  have b5 := blk_cell (v := .int .i64 s5) h.hx (i := 5) rfl
  have y5 := blk_frozen h.hx (i := 5)
  have hA := h.setX 5 (.int .i64 1)
  go_enter Yba.func9, Yba.ntmps9
  go_wp2_with fail
  refine (u32_load B 2 0 _ (blk_cell hA.hm rfl)).mono ?_
  rintro e w' ⟨rfl, hw⟩
  subst hw
  go_wp2_with fail
  refine (make_list s g hd tl ar gr sn hA).mono ?_
  rintro e w1 ⟨rfl, h1⟩
  have b6 := blk_cell (v := .pointer (some ⟨B + 3, 0, none⟩)) h1.hm (i := 6) rfl
  clear hA b5 y5 h
  have c4 := blk_cell (v := nx) h1.hx (i := 4) rfl
  have c5 := blk_cell (v := .int .i64 1) h1.hx (i := 5) rfl
  have c6 := blk_cell (v := .int .i64 s6) h1.hx (i := 6) rfl
  have f4 := blk_frozen h1.hx (i := 4)
  have f6 := blk_frozen h1.hx (i := 6)
  have h2 := (h1.setX 4 (.pointer none)).setX 6 (.int .i64 1)
  go_wp2_with fail
  refine wp_loop_once ?_
  go_wp2_with fail
  refine (ptr_load_nil (B + 3) 0 _ (blk_cell h1.hl rfl)).mono ?_
  rintro e w' ⟨rfl, hw⟩
  subst hw
  go_wp2_with fail
  refine (ptr_cas_in (B + 3) 0 (B + 2) _ (blk_cell h2.hl rfl) (blk_frozen h2.hl) (blk_shape h2.hx)).mono ?_
  rintro e w2 ⟨rfl, hw⟩
  have h3 : St B w0 w2 #[.int .i64 s, .int .u32 g, .int .u32 2, hd, tl, .int .i64 sn, .pointer (some ⟨B + 3, 0, none⟩), gr] ch
        #[.int .i64 a0, .int .u32 po, cv, pv, .pointer none, .int .i64 1, .int .i64 1] #[.pointer (some ⟨B + 2, 0, none⟩)] := by
    rw [hw]; simpa using h2.setL 0 (.pointer (some ⟨B + 2, 0, none⟩))
  clear hw h2 c4 c5 c6 f4 f6
  go_wp2
  refine bodyPost_ret (results_none rfl _ _ _) rfl ?_
  exact ⟨rfl, h3⟩
end Go.Proofs.Ybulkusk
