import Derived.Test.YbulkuuoRows
import Derived.WalkKit
import Derived.RegionTactic
import Derived.LoopN
import Derived.Below
import Derived.Laws.NewBlocks
namespace Go.Proofs.Ybulkuuo
open Go Go.RowKit

/-- the order on windows, and elsewhere: a new array of two. -/
theorem pref_yes (s : ByteArray) (hb : (s.toList == [119, 105, 110, 100, 111, 119, 115]) = true) (w : World) :
    Calls Yba.prog 5 #[.string s] w fun e w' => e = .returned (.slice (some ⟨w.heap.size, 0, none⟩) 2 2) ∧ w' = w.alloc (.cells #[.int .i64 1, .int .i64 0] 24) := by
  go_enter Yba.func5, Yba.ntmps5
  go_wp2
  go_ret
  exact ⟨rfl, rfl⟩
theorem pref_no (s : ByteArray) (hb : (s.toList == [119, 105, 110, 100, 111, 119, 115]) = false) (w : World) :
    Calls Yba.prog 5 #[.string s] w fun e w' => e = .returned (.slice (some ⟨w.heap.size, 0, none⟩) 2 2) ∧ w' = w.alloc (.cells #[.int .i64 0, .int .i64 1] 24) := by
  go_enter Yba.func5, Yba.ntmps5
  go_wp2
  go_ret
  exact ⟨rfl, rfl⟩

theorem order_walk (s : ByteArray) (w : World) :
    Calls Yba.prog 3 #[.string s] w fun e w' => e = .returned (.bool true) ∧ Below w.heap.size w w' := by
  cases hb : (s.toList == [119, 105, 110, 100, 111, 119, 115])
  · go_enter Yba.func3, Yba.ntmps3
    go_wp2_with (go_at_call 5; refine (pref_no s hb _).mono ?_; rintro e w' ⟨rfl, rfl⟩)
    go_ret
    exact ⟨rfl, (Below.refl _ _).alloc (Nat.le_refl _) _⟩
  · go_enter Yba.func3, Yba.ntmps3
    go_wp2_with (go_at_call 5; refine (pref_yes s hb _).mono ?_; rintro e w' ⟨rfl, rfl⟩)
    go_ret
    exact ⟨rfl, (Below.refl _ _).alloc (Nat.le_refl _) _⟩

set_option maxHeartbeats 800000 in
theorem perm_no (s : ByteArray) (hb : (s.toList == [119, 105, 110, 100, 111, 119, 115]) = false) (w : World) :
    Calls Yba.prog 4 #[.string s] w fun e w' => e = .returned (.bool true) ∧ Below w.heap.size w w' := by
  go_enter Yba.func4, Yba.ntmps4
  go_wp2_with fail
  refine (pref_no s hb _).mono ?_
  rintro e w' ⟨rfl, rfl⟩
  go_wp2_with fail
  refine (pref_yes _ (by kernel_rfl) _).mono ?_
  rintro e w' ⟨rfl, rfl⟩
  go_wp2_with fail
  go_region
  go_wp2_with fail
  refine wp_loop_rounds 3 ?_
  rw [rounds_succ]
  go_wp2_with fail
  rw [rounds_succ]
  go_wp2_with fail
  rw [rounds_succ]
  go_wp2_with fail
  refine (pref_no s hb _).mono ?_
  rintro e w' ⟨rfl, rfl⟩
  go_wp2_with fail
  go_ret
  exact ⟨rfl, by repeat (first | exact Below.refl _ _ | refine Below.drew ?_ | refine Below.alloc ?_ (by simp <;> omega) _)⟩

set_option maxHeartbeats 800000 in
theorem perm_yes (s : ByteArray) (hb : (s.toList == [119, 105, 110, 100, 111, 119, 115]) = true) (w : World) :
    Calls Yba.prog 4 #[.string s] w fun e w' => e = .returned (.bool true) ∧ Below w.heap.size w w' := by
  go_enter Yba.func4, Yba.ntmps4
  go_wp2_with fail
  refine (pref_yes s hb _).mono ?_
  rintro e w' ⟨rfl, rfl⟩
  go_wp2_with fail
  refine (pref_yes _ (by kernel_rfl) _).mono ?_
  rintro e w' ⟨rfl, rfl⟩
  go_wp2_with fail
  go_region
  go_wp2_with fail
  refine wp_loop_rounds 3 ?_
  rw [rounds_succ]
  go_wp2_with fail
  rw [rounds_succ]
  go_wp2_with fail
  rw [rounds_succ]
  go_wp2_with fail
  refine (pref_yes s hb _).mono ?_
  rintro e w' ⟨rfl, rfl⟩
  go_wp2_with fail
  go_ret
  exact ⟨rfl, by repeat (first | exact Below.refl _ _ | refine Below.drew ?_ | refine Below.alloc ?_ (by simp <;> omega) _)⟩

theorem perm_walk (s : ByteArray) (w : World) :
    Calls Yba.prog 4 #[.string s] w fun e w' => e = .returned (.bool true) ∧ Below w.heap.size w w' := by
  cases hb : (s.toList == [119, 105, 110, 100, 111, 119, 115])
  · exact perm_no s hb w
  · exact perm_yes s hb w
end Go.Proofs.Ybulkuuo
