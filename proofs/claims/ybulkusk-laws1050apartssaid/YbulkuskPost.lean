import Derived.Test.YbulkuskLeaf
import Derived.Deep.RegionWith
namespace Go.Proofs.Ybulkusk
open Go Go.RowKit
set_option maxHeartbeats 400000 in
theorem post_wake (x : Nat) (w : World) (hc : w.cell? ⟨x, 1, none⟩ = some (.int .u32 0)) (hz : w.frozen? ⟨x, 1, none⟩ = false) :
    Calls Yba.prog 46 #[.pointer (some ⟨x, 0, none⟩)] w fun e w' => e = .returned (.tuple #[]) ∧ w' = (w.setCell ⟨x, 1, none⟩ (.int .u32 1)).drew := by
  have hl := Law.run_call_update (P := Yba.prog) Yba.func58 (by kernel_rfl) (by kernel_rfl) (by kernel_rfl) .u32 (Op.intBits .or) (by kernel_rfl) (w := w.drew) (y := 1) (s := 1) hc hz rfl
  go_enter Yba.func46, Yba.ntmps46
  go_wp2
  go_region_calls
  go_end0
  exact ⟨rfl, rfl⟩
set_option maxHeartbeats 400000 in
theorem take_wake1 (x : Nat) (w : World) (hc : w.cell? ⟨x, 1, none⟩ = some (.int .u32 1)) (hz : w.frozen? ⟨x, 1, none⟩ = false) :
    Calls Yba.prog 15 #[.pointer (some ⟨x, 0, none⟩)] w fun e w' => e = .returned (.bool true) ∧ w' = (w.setCell ⟨x, 1, none⟩ (.int .u32 0)).drew := by
  have hl := Law.run_call_update (P := Yba.prog) Yba.func49 (by kernel_rfl) (by kernel_rfl) (by kernel_rfl) .u32 (Op.intBits .and) (by kernel_rfl) (w := w.drew) (y := bits .xor .u32 (IntKind.max .u32) 1) (s := 0) hc hz rfl
  have e1 : bits .and .u32 1 1 = 1 := by decide
  have e0 : bits .and .u32 0 1 = 0 := by decide
  go_enter Yba.func15, Yba.ntmps15
  go_wp2
  go_region_calls
  go_wp2
  go_ret
  exact ⟨rfl, rfl⟩
set_option maxHeartbeats 400000 in
theorem take_wake0 (x : Nat) (w : World) (hc : w.cell? ⟨x, 1, none⟩ = some (.int .u32 0)) (hz : w.frozen? ⟨x, 1, none⟩ = false) :
    Calls Yba.prog 15 #[.pointer (some ⟨x, 0, none⟩)] w fun e w' => e = .returned (.bool false) ∧ w' = (w.setCell ⟨x, 1, none⟩ (.int .u32 0)).drew := by
  have hl := Law.run_call_update (P := Yba.prog) Yba.func49 (by kernel_rfl) (by kernel_rfl) (by kernel_rfl) .u32 (Op.intBits .and) (by kernel_rfl) (w := w.drew) (y := bits .xor .u32 (IntKind.max .u32) 1) (s := 0) hc hz rfl
  have e1 : bits .and .u32 1 1 = 1 := by decide
  have e0 : bits .and .u32 0 1 = 0 := by decide
  go_enter Yba.func15, Yba.ntmps15
  go_wp2
  go_region_calls
  go_wp2
  go_ret
  exact ⟨rfl, rfl⟩
end Go.Proofs.Ybulkusk
