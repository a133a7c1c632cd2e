import Derived.Test.YbulkuskNotify
namespace Go.Proofs.Ybulkusk
open Go Go.RowKit

theorem wake_a (b : Nat) (s : Int) (w : World) (h1 : (wtc s == 0) = true) :
    Calls Yba.prog 13 #[.pointer (some ⟨b, 0, none⟩), .int .i64 s] w fun e w' => e = .returned (.tuple #[]) ∧ w' = w := by
  go_enter Yba.func13, Yba.ntmps13
  go_wp2_with fail
  refine wp_loop_once ?_
  go_wp2_with (go_at_call 24; refine (waiters_any _ _).mono ?_; rintro e w' ⟨rfl, rfl⟩)
  refine bodyPost_ret (results_none rfl _ _ _) rfl ?_
  exact ⟨rfl, rfl⟩
theorem wake_b (b : Nat) (s : Int) (w : World) (h1 : (wtc s == 0) = false) (h2 : (lk s != 0) = true) :
    Calls Yba.prog 13 #[.pointer (some ⟨b, 0, none⟩), .int .i64 s] w fun e w' => e = .returned (.tuple #[]) ∧ w' = w := by
  go_enter Yba.func13, Yba.ntmps13
  go_wp2_with fail
  refine wp_loop_once ?_
  go_wp2_with (first | (go_at_call 24; refine (waiters_any _ _).mono ?_; rintro e w' ⟨rfl, rfl⟩) | (go_at_call 25; refine (locked_any _ _).mono ?_; rintro e w' ⟨rfl, rfl⟩))
  refine bodyPost_ret (results_none rfl _ _ _) rfl ?_
  exact ⟨rfl, rfl⟩
theorem wake_c (b : Nat) (s : Int) (w : World) (h1 : (wtc s == 0) = false) (h2 : (lk s != 0) = false) (h3 : (bits .and .i64 s 1 != 0) = true) :
    Calls Yba.prog 13 #[.pointer (some ⟨b, 0, none⟩), .int .i64 s] w fun e w' => e = .returned (.tuple #[]) ∧ w' = w := by
  go_enter Yba.func13, Yba.ntmps13
  go_wp2_with fail
  refine wp_loop_once ?_
  go_wp2_with (first | (go_at_call 24; refine (waiters_any _ _).mono ?_; rintro e w' ⟨rfl, rfl⟩) | (go_at_call 25; refine (locked_any _ _).mono ?_; rintro e w' ⟨rfl, rfl⟩))
  refine bodyPost_ret (results_none rfl _ _ _) rfl ?_
  exact ⟨rfl, rfl⟩

/-- A mutex whose queue nobody has come to: one block. -/
structure NoW (B : Nat) (w0 w : World) (s g : Int) : Prop where
  gr : Below B w0 w
  hm : w.heap[B]? = some (.cells #[.int .i64 s, .int .u32 g, .int .u32 0, .pointer none, .pointer none, .int .i64 0, .pointer none, .pointer none] 41 (0, 0))

theorem NoW.drew {B : Nat} {w0 w : World} {s g : Int} (h : NoW B w0 w s g) : NoW B w0 w.drew s g := ⟨h.gr.drew, h.hm⟩
theorem NoW.st {B : Nat} {w0 w : World} {s g : Int} (h : NoW B w0 w s g) (x : Int) : NoW B w0 (w.setCell ⟨B, 0, none⟩ (.int .i64 x)) x g :=
  ⟨h.gr.setCell (Nat.le_refl _) _, by simpa using blk_set h.hm (i := 0) (.int .i64 x)⟩
theorem NoW.gd {B : Nat} {w0 w : World} {s g : Int} (h : NoW B w0 w s g) (x : Int) : NoW B w0 (w.setCell ⟨B, 1, none⟩ (.int .u32 x)) s x :=
  ⟨h.gr.setCell (Nat.le_refl _) _, by simpa using blk_set h.hm (i := 1) (.int .u32 x)⟩
theorem NoW.gt {B : Nat} {w0 w : World} {s g : Int} (h : NoW B w0 w s g) : NoW B w0 (w.setCell ⟨B, 7, none⟩ (.pointer none)) s g :=
  ⟨h.gr.setCell (Nat.le_refl _) _, by simpa using blk_set h.hm (i := 7) (.pointer none)⟩

theorem wake_none {B : Nat} {w0 w : World} {s : Int} (s1 : Int) (hs1 : bits .or .i64 s 1 = s1) (h : NoW B w0 w s 0) (h1 : (wtc s == 0) = false) (h2 : (lk s != 0) = false) (h3 : (bits .and .i64 s 1 != 0) = false) (h4 : (lk s1 != 0) = false) :
    Calls Yba.prog 13 #[.pointer (some ⟨B, 0, none⟩), .int .i64 s] w fun e w' => e = .returned (.tuple #[]) ∧ NoW B w0 w' (bits .andNot .i64 s1 1) 0 := by
  go_enter Yba.func13, Yba.ntmps13
  go_wp2_with fail
  refine wp_loop_once ?_
  go_wp2_with (first | (go_at_call 24; refine (waiters_any _ _).mono ?_; rintro e w' ⟨rfl, rfl⟩) | (go_at_call 25; refine (locked_any _ _).mono ?_; rintro e w' ⟨rfl, rfl⟩))
  clear h1 h2 h3
  refine (mcas B s _ _ (blk_cell h.hm rfl) (blk_frozen h.hm)).mono ?_
  rintro e w1 ⟨rfl, hw⟩
  have k1 : NoW B w0 w1 s1 0 := by rw [hw]; exact h.st _
  clear hw h
  go_wp2_with fail
  refine (lock_none B _ (blk_cell k1.hm rfl) (blk_cell k1.hm rfl) (blk_frozen k1.hm)).mono ?_
  rintro e w2 ⟨rfl, hw⟩
  have k2 : NoW B w0 w2 s1 1 := by rw [hw]; exact (k1.gd _).drew
  clear hw k1
  go_wp2_with fail
  refine (pass_none B s1 _ h4 (blk_cell k2.hm rfl) (blk_frozen k2.hm) (blk_cell k2.hm rfl) (blk_cell k2.hm rfl)).mono ?_
  rintro e w3 ⟨rfl, hw⟩
  have k3 : NoW B w0 w3 (bits .andNot .i64 s1 1) 1 := by rw [hw]; exact k2.st _
  clear hw k2
  go_wp2_with fail
  refine (unlock_any B _ _ (blk_cell k3.hm rfl) (blk_frozen k3.hm) (blk_cell k3.hm rfl) (blk_frozen k3.hm)).mono ?_
  rintro e w4 ⟨rfl, hw⟩
  have k4 : NoW B w0 w4 (bits .andNot .i64 s1 1) 0 := by
    rw [hw]; exact (k3.gt.gd _).drew
  clear hw k3
  go_wp2_with fail
  go_end0
  exact ⟨rfl, k4⟩

theorem St.setC {B : Nat} {w0 w : World} {mc xc lc : Array Value} {ch : Obj} (h : St B w0 w mc ch xc lc) (cap : Nat) (buf : Array Value) (cl : Bool) (s r : Nat) (tm : Bool) :
    St B w0 (w.setChan (B + 1) cap buf cl s r tm) mc (.chan cap buf cl s r tm) xc lc := by
  have hsz : B + 1 < w.heap.size := (Array.getElem?_eq_some_iff.1 h.hc).1
  refine ⟨Conc.below_setChan h.gr (by omega) _ _ _ _ _ _, ?_, Conc.heap_setChan _ _ _ _ _ _ _ _ hsz, ?_, ?_⟩
  · simp only [World.setChan]; rw [Array.getElem?_setIfInBounds_ne (by omega)]; exact h.hm
  · simp only [World.setChan]; rw [Array.getElem?_setIfInBounds_ne (by omega)]; exact h.hx
  · simp only [World.setChan]; rw [Array.getElem?_setIfInBounds_ne (by omega)]; exact h.hl

theorem wake_some {B : Nat} {w0 w : World} {s : Int} (s1 : Int) (hs1 : bits .or .i64 s 1 = s1) (h : Arrived B w0 w s 0 0) (h1 : (wtc s == 0) = false) (h2 : (lk s != 0) = false) (h3 : (bits .and .i64 s 1 != 0) = false) (h4 : (lk s1 != 0) = false) :
    Calls Yba.prog 13 #[.pointer (some ⟨B, 0, none⟩), .int .i64 s] w fun e w' => e = .returned (.tuple #[]) ∧ Settled B w0 w' s1 0 1 (.chan 1 #[.agg #[]] false 1 0 false) := by
  go_enter Yba.func13, Yba.ntmps13
  go_wp2_with fail
  refine wp_loop_once ?_
  go_wp2_with (first | (go_at_call 24; refine (waiters_any _ _).mono ?_; rintro e w' ⟨rfl, rfl⟩) | (go_at_call 25; refine (locked_any _ _).mono ?_; rintro e w' ⟨rfl, rfl⟩))
  clear h1 h2 h3
  refine (mcas B s _ _ (blk_cell h.hm rfl) (blk_frozen h.hm)).mono ?_
  rintro e w1 ⟨rfl, hw⟩
  have k1 : Arrived B w0 w1 s1 0 0 := by rw [hw]; simpa [Arrived] using St.setM h 0 (.int .i64 s1)
  clear hw h
  go_wp2_with fail
  refine (lock_arrived k1).mono ?_
  rintro e w2 ⟨rfl, k2⟩
  clear k1
  go_wp2_with fail
  refine (pass_some k2 h4).mono ?_
  rintro e w3 ⟨rfl, k3⟩
  clear k2
  go_wp2_with fail
  refine (unlock_any B _ _ (blk_cell k3.hm rfl) (blk_frozen k3.hm) (blk_cell k3.hm rfl) (blk_frozen k3.hm)).mono ?_
  rintro e w4 ⟨rfl, hw⟩
  have k4 : Settled B w0 w4 s1 0 1 (.chan 1 #[] false 0 0 false) := by rw [hw]; simpa [Settled] using ((St.setM k3 7 (.pointer none)).setM 1 (.int .u32 0)).drew
  clear hw k3
  go_wp2_with fail
  refine (notify_room (B + 2) (B + 1) _ (blk_cell k4.hx rfl) k4.hc).mono ?_
  rintro e w5 ⟨rfl, hw⟩
  have k5 : Settled B w0 w5 s1 0 1 (.chan 1 #[.agg #[]] false 1 0 false) := by rw [hw]; exact St.setC k4 _ _ _ _ _ _
  clear hw k4
  go_wp2_with fail
  go_end0
  exact ⟨rfl, k5⟩
end Go.Proofs.Ybulkusk
