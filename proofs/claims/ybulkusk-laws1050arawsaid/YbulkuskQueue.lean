import Derived.Test.YbulkuskSlow
namespace Go.Proofs.Ybulkusk
open Go Go.RowKit

/-- The queue holds the one waiter, still among the arrivals. -/
def Arrived (B : Nat) (w0 w : World) (s g po : Int) : Prop :=
  St B w0 w #[.int .i64 s, .int .u32 g, .int .u32 2, .pointer none, .pointer none, .int .i64 0, .pointer (some ⟨B + 3, 0, none⟩), .pointer none] (.chan 1 #[] false 0 0 false)
    #[.int .i64 0, .int .u32 po, .chan (some (B + 1)), .pointer none, .pointer none, .int .i64 1, .int .i64 1] #[.pointer (some ⟨B + 2, 0, none⟩)]
/-- The waiter has been moved in. -/
def Settled (B : Nat) (w0 w : World) (s g po : Int) (ch : Obj) : Prop :=
  St B w0 w #[.int .i64 s, .int .u32 g, .int .u32 2, .pointer (some ⟨B + 2, 0, none⟩), .pointer (some ⟨B + 2, 0, none⟩), .int .i64 1, .pointer (some ⟨B + 3, 0, none⟩), .pointer none] ch
    #[.int .i64 0, .int .u32 po, .chan (some (B + 1)), .pointer none, .pointer none, .int .i64 1, .int .i64 1] #[.pointer none]

theorem move_arrived {B : Nat} {w0 w : World} {s g po : Int} (h : Arrived B w0 w s g po) :
    Calls Yba.prog 23 #[.pointer (some ⟨B, 1, none⟩)] w fun e w' => e = .returned (.tuple #[]) ∧ Settled B w0 w' s g po (.chan 1 #[] false 0 0 false) := by
  unfold Arrived at h
  go_enter Yba.func23, Yba.ntmps23
  go_wp2_with fail
  refine (newest_some B (B + 3) (B + 2) w (blk_cell h.hm rfl) (blk_cell h.hm rfl) (blk_cell h.hl rfl) (blk_shape h.hx)).mono ?_
  rintro e w' ⟨rfl, rfl⟩
  go_wp2_with fail
  refine (slow_one s g po _ _ _ _ h).mono ?_
  rintro e w1 ⟨rfl, h1⟩
  go_wp2_with fail
  go_end0
  exact ⟨rfl, h1⟩
theorem move_settled {B : Nat} {w0 w : World} {s g po : Int} {ch : Obj} (h : Settled B w0 w s g po ch) :
    Calls Yba.prog 23 #[.pointer (some ⟨B, 1, none⟩)] w fun e w' => e = .returned (.tuple #[]) ∧ w' = w :=
  move_nil B (B + 3) w (blk_cell h.hm rfl) (blk_cell h.hm rfl) (blk_cell h.hl rfl)

theorem front_settled {B : Nat} {w0 w : World} {s g po : Int} {ch : Obj} (h : Settled B w0 w s g po ch) :
    Calls Yba.prog 12 #[.pointer (some ⟨B, 1, none⟩)] w fun e w' => e = .returned (.pointer (some ⟨B + 2, 0, none⟩)) ∧ w' = w := by
  have m3 := blk_cell (v := .pointer (some ⟨B + 2, 0, none⟩)) h.hm (i := 3) rfl
  go_enter Yba.func12, Yba.ntmps12
  go_wp2_with fail
  refine (move_settled h).mono ?_
  rintro e w' ⟨rfl, rfl⟩
  go_wp2_with fail
  go_ret
  exact ⟨rfl, rfl⟩
theorem front_arrived {B : Nat} {w0 w : World} {s g po : Int} (h : Arrived B w0 w s g po) :
    Calls Yba.prog 12 #[.pointer (some ⟨B, 1, none⟩)] w fun e w' => e = .returned (.pointer (some ⟨B + 2, 0, none⟩)) ∧ Settled B w0 w' s g po (.chan 1 #[] false 0 0 false) := by
  go_enter Yba.func12, Yba.ntmps12
  go_wp2_with fail
  refine (move_arrived h).mono ?_
  rintro e w' ⟨rfl, h1⟩
  have m3 := blk_cell (v := .pointer (some ⟨B + 2, 0, none⟩)) h1.hm (i := 3) rfl
  go_wp2_with fail
  go_ret
  exact ⟨rfl, h1⟩
theorem empty_settled {B : Nat} {w0 w : World} {s g po : Int} {ch : Obj} (h : Settled B w0 w s g po ch) :
    Calls Yba.prog 45 #[.pointer (some ⟨B, 1, none⟩)] w fun e w' => e = .returned (.bool false) ∧ w' = w := by
  have m3 := blk_cell (v := .pointer (some ⟨B + 2, 0, none⟩)) h.hm (i := 3) rfl
  go_enter Yba.func45, Yba.ntmps45
  go_wp2_with fail
  refine (move_settled h).mono ?_
  rintro e w' ⟨rfl, rfl⟩
  go_wp2_with fail
  go_ret
  exact ⟨rfl, rfl⟩
theorem empty_none (b : Nat) (w : World) (hc : w.cell? ⟨b, 2, none⟩ = some (.int .u32 0)) (h3 : w.cell? ⟨b, 3, none⟩ = some (.pointer none)) :
    Calls Yba.prog 45 #[.pointer (some ⟨b, 1, none⟩)] w fun e w' => e = .returned (.bool true) ∧ w' = w := by
  go_enter Yba.func45, Yba.ntmps45
  go_wp2_with (go_at_call 23; refine (move_none _ _ hc).mono ?_; rintro e w' ⟨rfl, rfl⟩)
  go_ret
  exact ⟨rfl, rfl⟩

theorem lock_arrived {B : Nat} {w0 w : World} {s po : Int} (h : Arrived B w0 w s 0 po) :
    Calls Yba.prog 27 #[.pointer (some ⟨B, 1, none⟩)] w fun e w' => e = .returned (.tuple #[]) ∧ Settled B w0 w' s 1 po (.chan 1 #[] false 0 0 false) := by
  go_enter Yba.func27, Yba.ntmps27
  go_wp2_with fail
  refine wp_loop_once ?_
  go_wp2_with fail
  refine (bool_cas B 1 w (blk_cell h.hm rfl) (blk_frozen h.hm)).mono ?_
  rintro e w1 ⟨rfl, hw⟩
  have h1 : Arrived B w0 w1 s 1 po := by rw [hw]; simpa [Arrived] using (St.setM h 1 (.int .u32 1)).drew
  clear hw h
  go_wp2_with fail
  refine (move_arrived h1).mono ?_
  rintro e w' ⟨rfl, h2⟩
  go_wp2_with fail
  go_end0
  exact ⟨rfl, h2⟩
theorem lock_none (b : Nat) (w : World) (hc : w.cell? ⟨b, 2, none⟩ = some (.int .u32 0)) (h1 : w.cell? ⟨b, 1, none⟩ = some (.int .u32 0)) (z1 : w.frozen? ⟨b, 1, none⟩ = false) :
    Calls Yba.prog 27 #[.pointer (some ⟨b, 1, none⟩)] w fun e w' => e = .returned (.tuple #[]) ∧ w' = (w.setCell ⟨b, 1, none⟩ (.int .u32 1)).drew := by
  have hc' : (w.setCell ⟨b, 1, none⟩ (.int .u32 1)).drew.cell? ⟨b, 2, none⟩ = some (.int .u32 0) := (World.cell?_setCell_other _ _ _ _ (by simp)).trans hc
  go_enter Yba.func27, Yba.ntmps27
  go_wp2_with fail
  refine wp_loop_once ?_
  go_wp2_with fail
  refine (bool_cas b 1 w h1 z1).mono ?_
  rintro e w1 ⟨rfl, rfl⟩
  go_wp2_with fail
  refine (move_none _ _ hc').mono ?_
  rintro e w' ⟨rfl, rfl⟩
  go_wp2_with fail
  go_end0
  exact ⟨rfl, rfl⟩
theorem unlock_any (b : Nat) (u : Value) (w : World) (h7 : w.cell? ⟨b, 7, none⟩ = some (.pointer none)) (z7 : w.frozen? ⟨b, 7, none⟩ = false) (h1 : w.cell? ⟨b, 1, none⟩ = some u) (z1 : w.frozen? ⟨b, 1, none⟩ = false) :
    Calls Yba.prog 29 #[.pointer (some ⟨b, 1, none⟩)] w fun e w' => e = .returned (.tuple #[]) ∧ w' = ((w.setCell ⟨b, 7, none⟩ (.pointer none)).setCell ⟨b, 1, none⟩ (.int .u32 0)).drew := by
  go_enter Yba.func29, Yba.ntmps29
  go_wp2_with fail
  refine (bool_store b 1 u _ ((World.cell?_setCell_other _ _ _ _ (by simp)).trans h1) ((World.frozen?_setCell _ _ _ _).trans z1)).mono ?_
  rintro e w1 ⟨rfl, rfl⟩
  go_wp2_with fail
  go_end0
  exact ⟨rfl, rfl⟩
end Go.Proofs.Ybulkusk
