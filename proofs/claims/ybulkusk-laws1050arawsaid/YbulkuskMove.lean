import Derived.Test.YbulkuskArrive
namespace Go.Proofs.Ybulkusk
open Go Go.RowKit

theorem newest_none (b : Nat) (w : World) (hc : w.cell? ⟨b, 2, none⟩ = some (.int .u32 0)) :
    Calls Yba.prog 41 #[.pointer (some ⟨b, 1, none⟩)] w fun e w' => e = .returned (.pointer none) ∧ w' = w := by
  go_enter Yba.func41, Yba.ntmps41
  go_wp2_with (go_at_call 17; refine (u32_load _ _ _ _ hc).mono ?_; rintro e w' ⟨rfl, rfl⟩)
  go_ret
  exact ⟨rfl, rfl⟩
theorem newest_nil (b l : Nat) (w : World) (hc : w.cell? ⟨b, 2, none⟩ = some (.int .u32 2)) (h6 : w.cell? ⟨b, 6, none⟩ = some (.pointer (some ⟨l, 0, none⟩))) (hl : w.cell? ⟨l, 0, none⟩ = some (.pointer none)) :
    Calls Yba.prog 41 #[.pointer (some ⟨b, 1, none⟩)] w fun e w' => e = .returned (.pointer none) ∧ w' = w := by
  go_enter Yba.func41, Yba.ntmps41
  go_wp2_with (first | (go_at_call 17; refine (u32_load _ _ _ _ hc).mono ?_; rintro e w' ⟨rfl, rfl⟩) | (go_at_call 19; refine (ptr_load_nil _ _ _ hl).mono ?_; rintro e w' ⟨rfl, rfl⟩))
  go_ret
  exact ⟨rfl, rfl⟩
theorem newest_some (b l x : Nat) (w : World) (hc : w.cell? ⟨b, 2, none⟩ = some (.int .u32 2)) (h6 : w.cell? ⟨b, 6, none⟩ = some (.pointer (some ⟨l, 0, none⟩))) (hl : w.cell? ⟨l, 0, none⟩ = some (.pointer (some ⟨x, 0, none⟩))) (hsh : w.shape? x = some (56, 7)) :
    Calls Yba.prog 41 #[.pointer (some ⟨b, 1, none⟩)] w fun e w' => e = .returned (.pointer (some ⟨x, 0, none⟩)) ∧ w' = w := by
  go_enter Yba.func41, Yba.ntmps41
  go_wp2_with (first | (go_at_call 17; refine (u32_load _ _ _ _ hc).mono ?_; rintro e w' ⟨rfl, rfl⟩) | (go_at_call 19; refine (ptr_load _ _ _ _ hl hsh).mono ?_; rintro e w' ⟨rfl, rfl⟩))
  go_ret
  exact ⟨rfl, rfl⟩
theorem move_none (b : Nat) (w : World) (hc : w.cell? ⟨b, 2, none⟩ = some (.int .u32 0)) :
    Calls Yba.prog 23 #[.pointer (some ⟨b, 1, none⟩)] w fun e w' => e = .returned (.tuple #[]) ∧ w' = w := by
  go_enter Yba.func23, Yba.ntmps23
  go_wp2_with (go_at_call 41; refine (newest_none _ _ hc).mono ?_; rintro e w' ⟨rfl, rfl⟩)
  go_end0
  exact ⟨rfl, rfl⟩
theorem move_nil (b l : Nat) (w : World) (hc : w.cell? ⟨b, 2, none⟩ = some (.int .u32 2)) (h6 : w.cell? ⟨b, 6, none⟩ = some (.pointer (some ⟨l, 0, none⟩))) (hl : w.cell? ⟨l, 0, none⟩ = some (.pointer none)) :
    Calls Yba.prog 23 #[.pointer (some ⟨b, 1, none⟩)] w fun e w' => e = .returned (.tuple #[]) ∧ w' = w := by
  go_enter Yba.func23, Yba.ntmps23
  go_wp2_with (go_at_call 41; refine (newest_nil _ _ _ hc h6 hl).mono ?_; rintro e w' ⟨rfl, rfl⟩)
  go_end0
  exact ⟨rfl, rfl⟩

/-- 'reverse' of a list of one. -/
theorem reverse_one (x : Nat) (w : World) (hc : w.cell? ⟨x, 4, none⟩ = some (.pointer none)) (hz : w.frozen? ⟨x, 4, none⟩ = false) :
    Calls Yba.prog 52 #[.pointer (some ⟨x, 0, none⟩)] w fun e w' => e = .returned (.pointer (some ⟨x, 0, none⟩)) ∧ w' = w.setCell ⟨x, 4, none⟩ (.pointer none) := by
  go_enter Yba.func52, Yba.ntmps52
  go_wp2
  refine wp_loop_rounds 2 ?_
  rw [rounds_succ]
  go_wp2
  rw [rounds_succ]
  go_wp2
  go_ret
  exact ⟨rfl, rfl⟩
end Go.Proofs.Ybulkusk
