import Derived.Test.YbulkuskMove
import Derived.Deep.RegionWith
namespace Go.Proofs.Ybulkusk
open Go Go.RowKit

set_option maxHeartbeats 400000 in
/-- 'link' into an empty queue. -/
theorem link_one (b x : Nat) (hne : ¬ b = x) (w : World) (u3 : Value) (u4 : Value) (h4 : w.cell? ⟨b, 4, none⟩ = some (.pointer none)) (h3 : w.cell? ⟨b, 3, none⟩ = some (.pointer none))
    (x3 : w.cell? ⟨x, 3, none⟩ = some u3) (x4 : w.cell? ⟨x, 4, none⟩ = some u4)
    (z4 : w.frozen? ⟨b, 4, none⟩ = false) (z3 : w.frozen? ⟨b, 3, none⟩ = false) (y3 : w.frozen? ⟨x, 3, none⟩ = false) (y4 : w.frozen? ⟨x, 4, none⟩ = false) :
    Calls Yba.prog 53 #[.pointer (some ⟨b, 1, none⟩), .pointer (some ⟨x, 0, none⟩)] w fun e w' => e = .returned (.tuple #[]) ∧
      w' = ((((w.setCell ⟨x, 3, none⟩ (.pointer none)).setCell ⟨x, 4, none⟩ (.pointer none)).setCell ⟨b, 3, none⟩ (.pointer (some ⟨x, 0, none⟩))).setCell ⟨b, 4, none⟩ (.pointer (some ⟨x, 0, none⟩))).drew := by
  have hne' : ¬ x = b := fun h => hne h.symm
  go_enter Yba.func53, Yba.ntmps53
  go_wp2
  refine wp_loop_once ?_
  go_wp2
  go_region
  go_wp2
  go_end0
  exact ⟨rfl, rfl⟩

set_option maxHeartbeats 400000 in
theorem slow_one {B : Nat} {w0 w : World} {ch : Obj} (s g po : Int) (gr cv pv : Value) (a0 : Int)
    (h : St B w0 w #[.int .i64 s, .int .u32 g, .int .u32 2, .pointer none, .pointer none, .int .i64 0, .pointer (some ⟨B + 3, 0, none⟩), gr] ch
        #[.int .i64 a0, .int .u32 po, cv, pv, .pointer none, .int .i64 1, .int .i64 1] #[.pointer (some ⟨B + 2, 0, none⟩)]) :
    Calls Yba.prog 42 #[.pointer (some ⟨B, 1, none⟩)] w fun e w' => e = .returned (.tuple #[]) ∧
      St B w0 w' #[.int .i64 s, .int .u32 g, .int .u32 2, .pointer (some ⟨B + 2, 0, none⟩), .pointer (some ⟨B + 2, 0, none⟩), .int .i64 1, .pointer (some ⟨B + 3, 0, none⟩), gr] ch
        #[.int .i64 a0, .int .u32 po, cv, .pointer none, .pointer none, .int .i64 1, .int .i64 1] #[.pointer none] := by
  have m5 := blk_cell (v := .int .i64 0) h.hm (i := 5) rfl
  have m6 := blk_cell (v := .pointer (some ⟨B + 3, 0, none⟩)) h.hm (i := 6) rfl
  have n5 := blk_frozen h.hm (i := 5)
  have x6 := blk_cell (v := .int .i64 1) h.hx (i := 6) rfl
  have h1 := (h.setM 5 (.int .i64 1)).drew
  go_enter Yba.func42, Yba.ntmps42
  go_wp2_with fail
  refine (ptr_load (B + 3) 0 (B + 2) _ (blk_cell h.hl rfl) (blk_shape h.hx)).mono ?_
  rintro e w' ⟨rfl, hw⟩
  subst hw
  go_wp2_with fail
  refine wp_loop_once ?_
  go_wp2_with fail
  refine (i64_load B 5 0 _ m5).mono ?_
  rintro e w' ⟨rfl, hw⟩
  subst hw
  go_wp2_with fail
  go_region_with (go_at_call 7; refine (i64_store B 5 1 (.int .i64 0) _ (by exact m5) (by exact n5)).mono ?_; rintro e w' ⟨rfl, rfl⟩)
  go_wp2_with fail
  refine (ptr_cas_out (B + 3) 0 (B + 2) _ (blk_cell h1.hl rfl) (blk_frozen h1.hl) (blk_shape h1.hx)).mono ?_
  rintro e w1 ⟨rfl, hw⟩
  have h2 : St B w0 w1 #[.int .i64 s, .int .u32 g, .int .u32 2, .pointer none, .pointer none, .int .i64 1, .pointer (some ⟨B + 3, 0, none⟩), gr] ch
        #[.int .i64 a0, .int .u32 po, cv, pv, .pointer none, .int .i64 1, .int .i64 1] #[.pointer none] := by
    rw [hw]; simpa using h1.setL 0 (.pointer none)
  clear hw h1 m5 m6 n5 x6 h
  go_wp2_with fail
  refine (reverse_one (B + 2) _ (blk_cell h2.hx rfl) (blk_frozen h2.hx)).mono ?_
  rintro e w2 ⟨rfl, hw⟩
  have h3 : St B w0 w2 #[.int .i64 s, .int .u32 g, .int .u32 2, .pointer none, .pointer none, .int .i64 1, .pointer (some ⟨B + 3, 0, none⟩), gr] ch
        #[.int .i64 a0, .int .u32 po, cv, pv, .pointer none, .int .i64 1, .int .i64 1] #[.pointer none] := by
    rw [hw]; simpa using h2.setX 4 (.pointer none)
  clear hw h2
  have x4 := blk_cell (v := .pointer none) h3.hx (i := 4) rfl
  have y4 := blk_frozen h3.hx (i := 4)
  have h4 := h3.setX 4 (.pointer none)
  go_wp2_with fail
  refine wp_loop_rounds 2 ?_
  rw [rounds_succ]
  go_wp2_with fail
  refine (link_one B (B + 2) (by omega) _ _ _ (blk_cell h4.hm rfl) (blk_cell h4.hm rfl) (blk_cell h4.hx rfl) (blk_cell h4.hx rfl) (blk_frozen h4.hm) (blk_frozen h4.hm) (blk_frozen h4.hx) (blk_frozen h4.hx)).mono ?_
  rintro e w3 ⟨rfl, hw⟩
  have h5 : St B w0 w3 #[.int .i64 s, .int .u32 g, .int .u32 2, .pointer (some ⟨B + 2, 0, none⟩), .pointer (some ⟨B + 2, 0, none⟩), .int .i64 1, .pointer (some ⟨B + 3, 0, none⟩), gr] ch
        #[.int .i64 a0, .int .u32 po, cv, .pointer none, .pointer none, .int .i64 1, .int .i64 1] #[.pointer none] := by
    rw [hw]; simpa using ((((h4.setX 3 (.pointer none)).setX 4 (.pointer none)).setM 3 (.pointer (some ⟨B + 2, 0, none⟩))).setM 4 (.pointer (some ⟨B + 2, 0, none⟩))).drew
  clear hw h3 h4 x4 y4
  go_wp2_with fail
  rw [rounds_succ]
  go_wp2_with fail
  go_end0
  exact ⟨rfl, h5⟩
end Go.Proofs.Ybulkusk
