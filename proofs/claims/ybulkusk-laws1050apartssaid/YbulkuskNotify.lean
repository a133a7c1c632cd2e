import Derived.Test.YbulkuskQueue
import Derived.Conc.LoneSelect
namespace Go.Proofs.Ybulkusk
open Go Go.RowKit

theorem pass_some {B : Nat} {w0 w : World} {s : Int} {ch : Obj} (h : Settled B w0 w s 1 0 ch) (hlk : (lk s != 0) = false) :
    Calls Yba.prog 28 #[.pointer (some ⟨B, 0, none⟩)] w fun e w' => e = .returned (.pointer (some ⟨B + 2, 0, none⟩)) ∧ Settled B w0 w' s 1 1 ch := by
  go_enter Yba.func28, Yba.ntmps28
  go_wp2_with fail
  refine wp_loop_once ?_
  go_wp2_with fail
  refine (mload B s w (blk_cell h.hm rfl)).mono ?_
  rintro e w' ⟨rfl, rfl⟩
  go_wp2_with fail
  refine (locked_any s _).mono ?_
  rintro e w' ⟨rfl, rfl⟩
  go_wp2_with fail
  refine (empty_settled h).mono ?_
  rintro e w' ⟨rfl, rfl⟩
  go_wp2_with fail
  refine (front_settled h).mono ?_
  rintro e w' ⟨rfl, rfl⟩
  go_wp2_with fail
  refine (post_wake (B + 2) _ (blk_cell h.hx rfl) (blk_frozen h.hx)).mono ?_
  rintro e w1 ⟨rfl, hw⟩
  have h1 : Settled B w0 w1 s 1 1 ch := by rw [hw]; simpa [Settled] using (St.setX h 1 (.int .u32 1)).drew
  clear hw h
  go_wp2_with fail
  go_ret
  exact ⟨rfl, h1⟩

theorem pass_none (b : Nat) (s : Int) (w : World) (hlk : (lk s != 0) = false) (h0 : w.cell? ⟨b, 0, none⟩ = some (.int .i64 s)) (z0 : w.frozen? ⟨b, 0, none⟩ = false)
    (hc : w.cell? ⟨b, 2, none⟩ = some (.int .u32 0)) (h3 : w.cell? ⟨b, 3, none⟩ = some (.pointer none)) :
    Calls Yba.prog 28 #[.pointer (some ⟨b, 0, none⟩)] w fun e w' => e = .returned (.pointer none) ∧ w' = w.setCell ⟨b, 0, none⟩ (.int .i64 (bits .andNot .i64 s 1)) := by
  go_enter Yba.func28, Yba.ntmps28
  go_wp2_with fail
  refine wp_loop_once ?_
  go_wp2_with fail
  refine (mload b s w h0).mono ?_
  rintro e w' ⟨rfl, rfl⟩
  go_wp2_with fail
  refine (locked_any s _).mono ?_
  rintro e w' ⟨rfl, rfl⟩
  go_wp2_with fail
  refine (empty_none b _ hc h3).mono ?_
  rintro e w' ⟨rfl, rfl⟩
  go_wp2_with fail
  refine (mcas b s _ _ h0 z0).mono ?_
  rintro e w1 ⟨rfl, rfl⟩
  go_wp2_with fail
  go_ret
  exact ⟨rfl, rfl⟩

open Go.Conc in
set_option maxRecDepth 100000 in
theorem notify_room (x c : Nat) (w : World) (hx : w.cell? ⟨x, 2, none⟩ = some (.chan (some c))) (hc : w.heap[c]? = some (.chan 1 #[] false 0 0 false)) :
    Calls Yba.prog 30 #[.pointer (some ⟨x, 0, none⟩)] w fun e w' => e = .returned (.tuple #[]) ∧ w' = w.setChan c 1 #[.agg #[]] false 1 0 false := by
  refine calls_of_loneTo fun cs => ?_
  have e : Frame.enter Yba.prog 30 #[.pointer (some ⟨x, 0, none⟩)] .normal = (base 30).at ⟨#[.pointer (some ⟨x, 0, none⟩), undef, undef, undef, undef, undef, undef, undef, undef, undef], []⟩ [.code (Yba.f30.body.getD .skip)] := by
    simp [Frame.enter, Frame.at, Yba.func30, base, Yba.f30]
  rw [e]
  refine LoneTo.goes (n := 40) ?_
  simp only [Yba.f30, Option.getD_some]
  s_c stepG_seq
  s_c stepG_seq
  s_reg
  s_op
  s_op
  s_op
  s_op
  s_c stepG_region_end
  s_reg
  s_op
  s_c stepG_region_end
  s_c stepG_seq
  s_reg
  s_stop
  refine LoneTo.step (step_lone_select_send_room (c := c) (v := .agg #[]) (z' := .agg #[]) (cap := 1) (buf := #[]) (s := 0) (r := 0) (tm := false)
    (stepG_comm (cases := #[scase c (.agg #[]) (.agg #[])]) (blocking := false) (shape := .select) (w' := w) rfl rfl (by decide) (by simp [go_sem, execOp, scase, Act.eval])) hc (by simp)) ?_
  rw [Frame.finish_at]
  walk_nrm
  refine LoneTo.goes (n := 40) ?_
  s_op
  s_op
  s_c stepG_region_end
  s_c stepG_block
  s_cond true
  s_c stepG_skip
  s_c stepG_inBlock
  s_c stepG_end
  s_stop
  refine LoneTo.done ⟨.returned (.tuple #[]), _, rfl, ⟨rfl, rfl⟩, rfl, rfl, rfl, rfl, _, Yba.func30, by simp [results, Yba.f30, Frame.at]⟩
end Go.Proofs.Ybulkusk
