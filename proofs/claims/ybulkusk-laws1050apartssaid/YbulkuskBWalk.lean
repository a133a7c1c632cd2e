import Derived.Test.YbulkuskAll
import Derived.Lib.Builder
namespace Go.Proofs.Ybulkusk
open Go Go.RowKit

/-- the mutex that the law makes, its word set. -/
theorem new_mutex (w : World) (s : Int) : NoW w.heap.size w ((w.alloc (.cells #[.int .i64 0, .int .u32 0, .int .u32 0, .pointer none, .pointer none, .int .i64 0, .pointer none, .pointer none] 41)).setCell ⟨w.heap.size, 0, none⟩ (.int .i64 s)) s 0 := by
  have h : NoW w.heap.size w (w.alloc (.cells #[.int .i64 0, .int .u32 0, .int .u32 0, .pointer none, .pointer none, .int .i64 0, .pointer none, .pointer none] 41)) 0 0 :=
    ⟨(Below.refl _ w).alloc (Nat.le_refl _) _, heap_alloc_new w _⟩
  exact h.st s

theorem lk_of (x y k : Int) (x0 : 0 ≤ x) (x1 : x < 2147483648) (y0 : 0 ≤ y) (y1 : y < 1073741824) (k0 : 0 ≤ k) (k1 : k ≤ 1) : lk (x * 2147483648 + y * 2 + k) = x := by
  unfold lk wrap32; omega
theorem wtc_of (x y k : Int) (y0 : 0 ≤ y) (y1 : y < 1073741824) (k0 : 0 ≤ k) (k1 : k ≤ 1) : wtc (x * 2147483648 + y * 2 + k) = y := by
  unfold wtc; rw [Bit.and_mask]; unfold wrap32; omega


theorem info56 : ∃ j, Yba.prog.info? 56 = some j := by
  have h : (Yba.prog.info? 56).isSome = true := by kernel_rfl
  exact Option.isSome_iff_exists.1 h

set_option maxRecDepth 100000 in
theorem bw_ff (a0 a1 : Int) (x y s : Int) (x0 : 0 ≤ x) (x1 : x < 2147483648) (y0 : 0 ≤ y) (y1 : y < 1073741824)
    (e0 : bits .and .u32 a0 2147483647 = x) (e1 : bits .and .u32 a1 1073741823 = y) (ej : bits .or .i64 (x * 2147483648) (y * 2) = s)
    (hl : decide (lk s < 0) = false) (r0 : -9223372036854775808 ≤ s) (r1 : s ≤ 9223372036854775807) (w : World) :
    Calls Yba.prog 5 #[.int .u32 a0, .int .u32 a1, .bool false, .bool false] w fun e w' => e = .returned (.bool true) ∧ Below w.heap.size w w' := by
  go_enter Yba.func5, Yba.ntmps5
  go_wp2_with fail
  refine (i64_store w.heap.size 0 s (.int .i64 0) _ (by simp) (by simp)).mono ?_
  rintro e w1 ⟨rfl, hw⟩
  have k : NoW w.heap.size w w1 s 0 := by rw [hw]; exact new_mutex w s
  clear hw
  go_wp2_with fail
  refine (unlock_slow w.heap.size s w1 _ hl (wake_all0 k r0 r1)).mono ?_
  rintro e w2 ⟨rfl, k2⟩
  clear k
  go_wp2_with (go_at_call 11; refine (mload _ s _ (blk_cell k2.hm rfl)).mono ?_; rintro e w' ⟨rfl, rfl⟩)
  all_goals
    go_ret
    exact ⟨rfl, k2.gr⟩

set_option maxRecDepth 100000 in
theorem bw_tf (a0 a1 : Int) (x y s t : Int) (x0 : 0 ≤ x) (x1 : x < 2147483648) (y0 : 0 ≤ y) (y1 : y < 1073741824)
    (e0 : bits .and .u32 a0 2147483647 = x) (e1 : bits .and .u32 a1 1073741823 = y) (ej : bits .or .i64 (x * 2147483648) (y * 2) = s) (et : bits .or .i64 s 1 = t)
    (hl : decide (lk t < 0) = false) (r0 : -9223372036854775808 ≤ t) (r1 : t ≤ 9223372036854775807) (w : World) :
    Calls Yba.prog 5 #[.int .u32 a0, .int .u32 a1, .bool true, .bool false] w fun e w' => e = .returned (.bool true) ∧ Below w.heap.size w w' := by
  go_enter Yba.func5, Yba.ntmps5
  go_wp2_with fail
  refine (i64_store w.heap.size 0 t (.int .i64 0) _ (by simp) (by simp)).mono ?_
  rintro e w1 ⟨rfl, hw⟩
  have k : NoW w.heap.size w w1 t 0 := by rw [hw]; exact new_mutex w t
  clear hw
  go_wp2_with fail
  refine (unlock_slow w.heap.size t w1 _ hl (wake_all0 k r0 r1)).mono ?_
  rintro e w2 ⟨rfl, k2⟩
  clear k
  go_wp2_with (go_at_call 11; refine (mload _ t _ (blk_cell k2.hm rfl)).mono ?_; rintro e w' ⟨rfl, rfl⟩)
  all_goals
    go_ret
    exact ⟨rfl, k2.gr⟩

set_option maxRecDepth 100000 in
theorem bw_ft (a0 a1 : Int) (x y s : Int) (x0 : 0 ≤ x) (x1 : x < 2147483648) (y0 : 0 ≤ y) (y1 : y < 1073741824)
    (e0 : bits .and .u32 a0 2147483647 = x) (e1 : bits .and .u32 a1 1073741823 = y) (ej : bits .or .i64 (x * 2147483648) (y * 2) = s) (eu : bits .or .i64 s 1 = s + 1)
    (hdue : Due s ↔ (x = 0 ∧ 0 < y))
    (hl : decide (lk s < 0) = false) (r0 : -9223372036854775808 ≤ s) (r1 : s ≤ 9223372036854775807) (w : World) :
    Calls Yba.prog 5 #[.int .u32 a0, .int .u32 a1, .bool false, .bool true] w fun e w' => e = .returned (.bool true) ∧ Below w.heap.size w w' := by
  have HD : Hid (Due s ↔ (x = 0 ∧ 0 < y)) := hdue
  clear hdue
  obtain ⟨j, hj⟩ := info56
  have hne := fun W => Lib.run_neq_ptr_same (P := Yba.prog) W (⟨w.heap.size + 2, 0, none⟩ : Addr) Yba.underlying36 hj
  clear hj
  go_enter Yba.func5, Yba.ntmps5
  go_wp2_with fail
  refine (i64_store w.heap.size 0 s (.int .i64 0) _ (by simp) (by simp)).mono ?_
  rintro e w1 ⟨rfl, hw⟩
  have k : NoW w.heap.size w w1 s 0 := by rw [hw]; exact new_mutex w s
  have hz : w1.heap.size = w.heap.size + 1 := by rw [hw]; simp
  clear hw
  go_wp2_with fail
  refine (new_waiter3 k hz).mono ?_
  rintro e w2 ⟨rfl, k2⟩
  clear k hz
  go_wp2_with fail
  refine (arrive s 0 _ _ _ _ _ _ _ _ _ _ _ _ k2).mono ?_
  rintro e w3 ⟨rfl, k3⟩
  clear k2
  go_wp2_with fail
  refine (unlock_slow w.heap.size s w3 _ hl (wake_all1 k3 r0 r1)).mono ?_
  rintro e w4 ⟨rfl, k4⟩
  clear k3
  rcases k4 with ⟨hd, k4⟩ | ⟨hd, k4⟩
  · obtain ⟨hx, hy⟩ := HD.out.1 hd
    clear hd
    go_wp2_with (first
      | (go_at_call 11; refine (mload _ (s + 1) _ (blk_cell k4.hm rfl)).mono ?_; rintro e w' ⟨rfl, rfl⟩)
      | (go_at_call 12; refine (front_settled k4).mono ?_; rintro e w' ⟨rfl, rfl⟩))
    go_ret
    exact ⟨rfl, k4.gr⟩
  · have hn : ¬ (x = 0 ∧ 0 < y) := fun h => hd (HD.out.2 h)
    clear hd
    by_cases hx : x = 0
    · have hy : ¬ 0 < y := fun h => hn ⟨hx, h⟩
      clear hn
      go_wp2_with (first
        | (go_at_call 11; refine (mload _ s _ (blk_cell k4.hm rfl)).mono ?_; rintro e w' ⟨rfl, rfl⟩)
        | (go_at_call 12; refine (front_arrived k4).mono ?_; rintro e w' ⟨rfl, k5⟩))
      go_ret
      exact ⟨rfl, k5.gr⟩
    · clear hn
      go_wp2_with (first
        | (go_at_call 11; refine (mload _ s _ (blk_cell k4.hm rfl)).mono ?_; rintro e w' ⟨rfl, rfl⟩)
        | (go_at_call 12; refine (front_arrived k4).mono ?_; rintro e w' ⟨rfl, k5⟩))
      go_ret
      exact ⟨rfl, k5.gr⟩

set_option maxRecDepth 100000 in
theorem bw_tt (a0 a1 : Int) (x y s t : Int) (x0 : 0 ≤ x) (x1 : x < 2147483648) (y0 : 0 ≤ y) (y1 : y < 1073741824)
    (e0 : bits .and .u32 a0 2147483647 = x) (e1 : bits .and .u32 a1 1073741823 = y) (ej : bits .or .i64 (x * 2147483648) (y * 2) = s) (et : bits .or .i64 s 1 = t)
    (hdue : ¬ Due t)
    (hl : decide (lk t < 0) = false) (r0 : -9223372036854775808 ≤ t) (r1 : t ≤ 9223372036854775807) (w : World) :
    Calls Yba.prog 5 #[.int .u32 a0, .int .u32 a1, .bool true, .bool true] w fun e w' => e = .returned (.bool true) ∧ Below w.heap.size w w' := by
  obtain ⟨j, hj⟩ := info56
  have hne := fun W => Lib.run_neq_ptr_same (P := Yba.prog) W (⟨w.heap.size + 2, 0, none⟩ : Addr) Yba.underlying36 hj
  clear hj
  go_enter Yba.func5, Yba.ntmps5
  go_wp2_with fail
  refine (i64_store w.heap.size 0 t (.int .i64 0) _ (by simp) (by simp)).mono ?_
  rintro e w1 ⟨rfl, hw⟩
  have k : NoW w.heap.size w w1 t 0 := by rw [hw]; exact new_mutex w t
  have hz : w1.heap.size = w.heap.size + 1 := by rw [hw]; simp
  clear hw
  go_wp2_with fail
  refine (new_waiter3 k hz).mono ?_
  rintro e w2 ⟨rfl, k2⟩
  clear k hz
  go_wp2_with fail
  refine (arrive t 0 _ _ _ _ _ _ _ _ _ _ _ _ k2).mono ?_
  rintro e w3 ⟨rfl, k3⟩
  clear k2
  go_wp2_with fail
  refine (unlock_slow w.heap.size t w3 _ hl (wake_all1 k3 r0 r1)).mono ?_
  rintro e w4 ⟨rfl, k4⟩
  clear k3
  rcases k4 with ⟨hd, k4⟩ | ⟨hd, k4⟩
  · exact absurd hd hdue
  · clear hd hdue
    go_wp2_with (first
      | (go_at_call 11; refine (mload _ t _ (blk_cell k4.hm rfl)).mono ?_; rintro e w' ⟨rfl, rfl⟩)
      | (go_at_call 12; refine (front_arrived k4).mono ?_; rintro e w' ⟨rfl, k5⟩))
    all_goals
      go_ret
      exact ⟨rfl, k5.gr⟩

theorem bwake_walk (a0 : Int) (a1 : Int) (a2 : Bool) (a3 : Bool) (w0 : (Lit.int .u32 a0).wf = true) (w1 : (Lit.int .u32 a1).wf = true) (w : World) :
    Calls Yba.prog 5 #[.int .u32 a0, .int .u32 a1, .bool a2, .bool a3] w fun e w' => e = .returned (.bool true) ∧ Below w.heap.size w w' := by
  have b0 : 0 ≤ a0 ∧ a0 ≤ 4294967295 := by simpa [Lit.wf, IntKind.min, IntKind.max, IntKind.bits, IntKind.signed] using w0
  have b1 : 0 ≤ a1 ∧ a1 ≤ 4294967295 := by simpa [Lit.wf, IntKind.min, IntKind.max, IntKind.bits, IntKind.signed] using w1
  have e0 := Bit.u32_mask31 a0 b0.1 b0.2
  have e1 := Bit.u32_mask30 a1 b1.1 b1.2
  have x0 : 0 ≤ a0 % 2147483648 := by omega
  have x1 : a0 % 2147483648 < 2147483648 := by omega
  have y0 : 0 ≤ a1 % 1073741824 := by omega
  have y1 : a1 % 1073741824 < 1073741824 := by omega
  revert e0 e1 x0 x1 y0 y1
  generalize a0 % 2147483648 = x
  generalize a1 % 1073741824 = y
  intro e0 e1 x0 x1 y0 y1
  have ej := Bit.or_join x (y * 2) x0 x1 (by omega) (by omega)
  have et := Bit.or_one (x * 2147483648 + y * 2) (by omega) (by omega) (by omega)
  have l0 := lk_of x y 0 x0 x1 y0 y1 (by omega) (by omega)
  have l1 := lk_of x y 1 x0 x1 y0 y1 (by omega) (by omega)
  have c0 := wtc_of x y 0 y0 y1 (by omega) (by omega)
  rw [Int.add_zero] at l0 c0
  cases a2 <;> cases a3
  · exact bw_ff a0 a1 x y _ x0 x1 y0 y1 e0 e1 ej (by rw [l0]; simpa using x0) (by omega) (by omega) w
  · refine bw_ft a0 a1 x y _ x0 x1 y0 y1 e0 e1 ej et ?_ (by rw [l0]; simpa using x0) (by omega) (by omega) w
    unfold Due; rw [l0, c0]; omega
  · exact bw_tf a0 a1 x y _ _ x0 x1 y0 y1 e0 e1 ej et (by rw [l1]; simpa using x0) (by omega) (by omega) w
  · refine bw_tt a0 a1 x y _ _ x0 x1 y0 y1 e0 e1 ej et ?_ (by rw [l1]; simpa using x0) (by omega) (by omega) w
    unfold Due; omega
end Go.Proofs.Ybulkusk
