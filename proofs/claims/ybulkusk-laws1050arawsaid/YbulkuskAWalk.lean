import Derived.Test.YbulkuskBWalk
namespace Go.Proofs.Ybulkusk
open Go Go.RowKit

set_option maxRecDepth 100000 in
set_option maxHeartbeats 800000 in
theorem ck_f (s : Int) (b1 b2 b3 : Bool) (e1 : (bits .and .u64 (IntKind.u64.wrap s / 2) 1073741823 != 0) = b1) (e2 : (bits .and .u64 (IntKind.u64.wrap s / 2147483648) 4294967295 != 0) = b2)
    (e3 : (bits .and .u64 (IntKind.u64.wrap s) 1 != 0) = b3) (R0 : Hid (-9223372036854775808 ≤ s)) (R1 : Hid (s ≤ 9223372036854775807)) (w : World) :
    Calls Yba.prog 6 #[.int .i64 s, .bool false] w fun e w' => e = .returned (.bool true) ∧ Below w.heap.size w w' := by
  go_enter Yba.func6, Yba.ntmps6
  go_wp2_with fail
  refine (i64_store w.heap.size 0 s (.int .i64 0) _ (by simp) (by simp)).mono ?_
  rintro e w1 ⟨rfl, hw⟩
  have k : NoW w.heap.size w w1 s 0 := by rw [hw]; exact new_mutex w s
  clear hw
  go_wp2_with fail
  refine (wake_all0 k R0.out R1.out).mono ?_
  rintro e w2 ⟨rfl, k2⟩
  clear k R0 R1
  cases b1 <;> cases b2 <;> cases b3
  all_goals
    go_wp2_with (go_at_call 14; refine (i64_load _ 0 s _ (blk_cell k2.hm rfl)).mono ?_; rintro e w' ⟨rfl, rfl⟩)
    go_ret
    exact ⟨rfl, k2.gr⟩

set_option maxRecDepth 100000 in
set_option maxHeartbeats 1600000 in
theorem ck_t (s : Int) (b1 b2 b3 : Bool) (e1 : (bits .and .u64 (IntKind.u64.wrap s / 2) 1073741823 != 0) = b1) (e2 : (bits .and .u64 (IntKind.u64.wrap s / 2147483648) 4294967295 != 0) = b2)
    (e3 : (bits .and .u64 (IntKind.u64.wrap s) 1 != 0) = b3) (HD : Hid (Due s ↔ (b1 = true ∧ b2 = false ∧ b3 = false))) (HU : Hid (Due s → bits .or .i64 s 1 = s + 1))
    (R0 : Hid (-9223372036854775808 ≤ s)) (R1 : Hid (s ≤ 9223372036854775807)) (w : World) :
    Calls Yba.prog 6 #[.int .i64 s, .bool true] w fun e w' => e = .returned (.bool true) ∧ Below w.heap.size w w' := by
  go_enter Yba.func6, Yba.ntmps6
  go_wp2_with fail
  refine (i64_store w.heap.size 0 s (.int .i64 0) _ (by simp) (by simp)).mono ?_
  rintro e w1 ⟨rfl, hw⟩
  have k : NoW w.heap.size w w1 s 0 := by rw [hw]; exact new_mutex w s
  have hz : w1.heap.size = w.heap.size + 1 := by rw [hw]; simp
  clear hw
  go_wp2_with fail
  refine (new_waiter3 k hz).mono ?_
  rintro e w2 ⟨rfl, k2⟩
  clear k hz
  go_wp2_with fail
  refine (arrive s 0 _ _ _ _ _ _ _ _ _ _ _ _ k2).mono ?_
  rintro e w3 ⟨rfl, k3⟩
  clear k2
  go_wp2_with fail
  refine (wake_all1 k3 R0.out R1.out).mono ?_
  rintro e w4 ⟨rfl, k4⟩
  clear k3 R0 R1
  rcases k4 with ⟨hd, k4⟩ | ⟨hd, k4⟩
  · obtain ⟨rfl, rfl, rfl⟩ := HD.out.1 hd
    have eu := HU.out hd
    clear hd HD HU
    go_wp2_with (first
      | (go_at_call 14; refine (i64_load _ 0 (s + 1) _ (blk_cell k4.hm rfl)).mono ?_; rintro e w' ⟨rfl, rfl⟩)
      | (go_at_call 15; refine (take_wake1 _ _ (blk_cell k4.hx rfl) (blk_frozen k4.hx)).mono ?_; rintro e w' ⟨rfl, rfl⟩))
    go_ret
    exact ⟨rfl, ((St.setX k4 1 _).drew).gr⟩
  · have hn : ¬ (b1 = true ∧ b2 = false ∧ b3 = false) := fun h => hd (HD.out.2 h)
    clear hd HD HU
    cases b1 <;> cases b2 <;> cases b3
    all_goals first
      | exact absurd ⟨rfl, rfl, rfl⟩ hn
      | (clear hn
         go_wp2_with (first
           | (go_at_call 14; refine (i64_load _ 0 s _ (blk_cell k4.hm rfl)).mono ?_; rintro e w' ⟨rfl, rfl⟩)
           | (go_at_call 15; refine (take_wake0 _ _ (blk_cell k4.hx rfl) (blk_frozen k4.hx)).mono ?_; rintro e w' ⟨rfl, rfl⟩))
         go_ret
         exact ⟨rfl, ((St.setX k4 1 _).drew).gr⟩)

theorem u64_1 (s : Int) : bits .and .u64 (IntKind.u64.wrap s / 2) 1073741823 = (s % 18446744073709551616) / 2 % 1073741824 := by
  rw [IntKind.wrap_u64]
  exact bits_mask .u64 64 (by decide) (fun n h0 h1 => by rw [IntKind.wrap_u64]; omega) 30 (by decide) _ (by omega) (by omega)
theorem u64_2 (s : Int) : bits .and .u64 (IntKind.u64.wrap s / 2147483648) 4294967295 = (s % 18446744073709551616) / 2147483648 % 4294967296 := by
  rw [IntKind.wrap_u64]
  exact bits_mask .u64 64 (by decide) (fun n h0 h1 => by rw [IntKind.wrap_u64]; omega) 32 (by decide) _ (by omega) (by omega)
theorem u64_3 (s : Int) : bits .and .u64 (IntKind.u64.wrap s) 1 = (s % 18446744073709551616) % 2 := by
  rw [IntKind.wrap_u64]
  exact bits_mask .u64 64 (by decide) (fun n h0 h1 => by rw [IntKind.wrap_u64]; omega) 1 (by decide) _ (by omega) (by omega)

theorem due_iff (s : Int) : Due s ↔ ((bits .and .u64 (IntKind.u64.wrap s / 2) 1073741823 != 0) = true ∧ (bits .and .u64 (IntKind.u64.wrap s / 2147483648) 4294967295 != 0) = false ∧ (bits .and .u64 (IntKind.u64.wrap s) 1 != 0) = false) := by
  rw [u64_1, u64_2, u64_3, bne_iff_ne, bne_eq_false_iff_eq, bne_eq_false_iff_eq]
  unfold Due wtc lk
  rw [Bit.and_mask]
  unfold wrap32
  omega

theorem check_any (s : Int) (b : Bool) (r0 : -9223372036854775808 ≤ s) (r1 : s ≤ 9223372036854775807) (w : World) :
    Calls Yba.prog 6 #[.int .i64 s, .bool b] w fun e w' => e = .returned (.bool true) ∧ Below w.heap.size w w' := by
  cases b
  · exact ck_f s _ _ _ rfl rfl rfl r0 r1 w
  · exact ck_t s _ _ _ rfl rfl rfl (due_iff s) (fun d => Bit.or_one s r0 r1 d.2.2) r0 r1 w

theorem raw_walk (s : Int) (b : Bool) (r0 : -9223372036854775808 ≤ s) (r1 : s ≤ 9223372036854775807) (w : World) :
    Calls Yba.prog 3 #[.int .i64 s, .bool b] w fun e w' => e = .returned (.bool true) ∧ Below w.heap.size w w' := by
  have R0 : Hid (-9223372036854775808 ≤ s) := r0
  have R1 : Hid (s ≤ 9223372036854775807) := r1
  clear r0 r1
  go_enter Yba.func3, Yba.ntmps3
  go_wp2_with (go_at_call 6; refine (check_any s b R0.out R1.out _).mono ?_; rintro e w' ⟨rfl, hb⟩)
  go_ret
  exact ⟨rfl, hb⟩

theorem or_range (x y : Int) : -9223372036854775808 ≤ bits .or .i64 x y ∧ bits .or .i64 x y ≤ 9223372036854775807 := by
  rw [Bit.or_i64, IntKind.wrap_i64]; omega

theorem parts_walk (l : Int) (n : Int) (k b : Bool) (w : World) :
    Calls Yba.prog 4 #[.int .i32 l, .int .u32 n, .bool k, .bool b] w fun e w' => e = .returned (.bool true) ∧ Below w.heap.size w w' := by
  cases k
  · go_enter Yba.func4, Yba.ntmps4
    go_wp2_with (go_at_call 6; refine (check_any _ b (or_range _ _).1 (or_range _ _).2 _).mono ?_; rintro e w' ⟨rfl, hb⟩)
    go_ret
    exact ⟨rfl, hb⟩
  · go_enter Yba.func4, Yba.ntmps4
    go_wp2_with (go_at_call 6; refine (check_any _ b (or_range _ _).1 (or_range _ _).2 _).mono ?_; rintro e w' ⟨rfl, hb⟩)
    go_ret
    exact ⟨rfl, hb⟩
end Go.Proofs.Ybulkusk
