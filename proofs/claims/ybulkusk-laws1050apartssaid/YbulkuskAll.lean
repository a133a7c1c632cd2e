import Derived.Test.YbulkuskWake
import Derived.Test.YbulkuskBits
namespace Go.Proofs.Ybulkusk
open Go Go.RowKit

/-- A wake is due: waiters are counted, the lock is free, the flag is clear. -/
def Due (s : Int) : Prop := ¬ wtc s = 0 ∧ lk s = 0 ∧ s % 2 = 0

theorem lk_up {s : Int} (h : s % 2 = 0) : lk (s + 1) = lk s := by
  unfold lk; rw [show (s + 1) / 2147483648 = s / 2147483648 by omega]

theorem wake_all0 {B : Nat} {w0 w : World} {s : Int} (h : NoW B w0 w s 0) (r0 : -9223372036854775808 ≤ s) (r1 : s ≤ 9223372036854775807) :
    Calls Yba.prog 13 #[.pointer (some ⟨B, 0, none⟩), .int .i64 s] w fun e w' => e = .returned (.tuple #[]) ∧ NoW B w0 w' s 0 := by
  by_cases h1 : wtc s = 0
  · refine (wake_a B s w (by simp [h1])).mono ?_
    rintro e w' ⟨rfl, rfl⟩; exact ⟨rfl, h⟩
  by_cases h2 : lk s = 0
  · by_cases h3 : s % 2 = 0
    · have e1 := Bit.or_one s r0 r1 h3
      have e2 := Bit.andNot_one (s + 1) (by omega) (by omega) (by omega)
      refine (wake_none (s + 1) e1 h (by simp [h1]) (by simp [h2]) (by rw [Bit.and_one]; simp [h3]) (by rw [lk_up h3]; simp [h2])).mono ?_
      rintro e w' ⟨rfl, k⟩
      rw [e2, show s + 1 - 1 = s by omega] at k
      exact ⟨rfl, k⟩
    · refine (wake_c B s w (by simp [h1]) (by simp [h2]) (by rw [Bit.and_one]; simp [h3])).mono ?_
      rintro e w' ⟨rfl, rfl⟩; exact ⟨rfl, h⟩
  · refine (wake_b B s w (by simp [h1]) (by simp [h2])).mono ?_
    rintro e w' ⟨rfl, rfl⟩; exact ⟨rfl, h⟩

theorem wake_all1 {B : Nat} {w0 w : World} {s : Int} (h : Arrived B w0 w s 0 0) (r0 : -9223372036854775808 ≤ s) (r1 : s ≤ 9223372036854775807) :
    Calls Yba.prog 13 #[.pointer (some ⟨B, 0, none⟩), .int .i64 s] w fun e w' => e = .returned (.tuple #[]) ∧
      ((Due s ∧ Settled B w0 w' (s + 1) 0 1 (.chan 1 #[.agg #[]] false 1 0 false)) ∨ (¬ Due s ∧ Arrived B w0 w' s 0 0)) := by
  by_cases h1 : wtc s = 0
  · refine (wake_a B s w (by simp [h1])).mono ?_
    rintro e w' ⟨rfl, rfl⟩; exact ⟨rfl, .inr ⟨fun d => d.1 h1, h⟩⟩
  by_cases h2 : lk s = 0
  · by_cases h3 : s % 2 = 0
    · have e1 := Bit.or_one s r0 r1 h3
      refine (wake_some (s + 1) e1 h (by simp [h1]) (by simp [h2]) (by rw [Bit.and_one]; simp [h3]) (by rw [lk_up h3]; simp [h2])).mono ?_
      rintro e w' ⟨rfl, k⟩
      exact ⟨rfl, .inl ⟨⟨h1, h2, h3⟩, k⟩⟩
    · refine (wake_c B s w (by simp [h1]) (by simp [h2]) (by rw [Bit.and_one]; simp [h3])).mono ?_
      rintro e w' ⟨rfl, rfl⟩; exact ⟨rfl, .inr ⟨fun d => h3 d.2.2, h⟩⟩
  · refine (wake_b B s w (by simp [h1]) (by simp [h2])).mono ?_
    rintro e w' ⟨rfl, rfl⟩; exact ⟨rfl, .inr ⟨fun d => h2 d.2.1, h⟩⟩

theorem unlock_slow (b : Nat) (s : Int) (w : World) (Q : World → Prop) (hl : decide (lk s < 0) = false)
    (hw : Calls Yba.prog 13 #[.pointer (some ⟨b, 0, none⟩), .int .i64 s] w fun e w' => e = .returned (.tuple #[]) ∧ Q w') :
    Calls Yba.prog 10 #[.pointer (some ⟨b, 0, none⟩), .int .i64 s] w fun e w' => e = .returned (.tuple #[]) ∧ Q w' := by
  have H : Hid (Calls Yba.prog 13 #[.pointer (some ⟨b, 0, none⟩), .int .i64 s] w fun e w' => e = .returned (.tuple #[]) ∧ Q w') := hw
  clear hw
  go_enter Yba.func10, Yba.ntmps10
  go_wp2_with fail
  refine (locks_any s w).mono ?_
  rintro e w' ⟨rfl, rfl⟩
  go_wp2_with fail
  refine H.out.mono ?_
  rintro e w1 ⟨rfl, k⟩
  go_wp2_with fail
  go_end0
  exact ⟨rfl, k⟩

/-- the waiter is made, behind a mutex that is the last block. -/
theorem new_waiter3 {B : Nat} {w0 w : World} {s g : Int} (h : NoW B w0 w s g) (hs : w.heap.size = B + 1) :
    Calls Yba.prog 8 #[] w fun e w' => e = .returned (.pointer (some ⟨B + 2, 0, none⟩)) ∧
      St3 B w0 w' #[.int .i64 s, .int .u32 g, .int .u32 0, .pointer none, .pointer none, .int .i64 0, .pointer none, .pointer none] (.chan 1 #[] false 0 0 false)
        #[.int .i64 0, .int .u32 0, .chan (some (B + 1)), .pointer none, .pointer none, .int .i64 0, .int .i64 0] := by
  refine (new_waiter w).mono ?_
  rintro e w' ⟨rfl, hw⟩
  rw [hs] at hw ⊢
  refine ⟨rfl, ?_⟩
  subst hw
  refine ⟨?_, by simp [hs], ?_, ?_, ?_⟩
  · exact (h.gr.alloc (by omega) _).alloc (by simp; omega) _
  · rw [Below.heap_alloc _ _ _ (by simp; omega), Below.heap_alloc _ _ _ (by omega)]; exact h.hm
  · rw [Below.heap_alloc _ _ _ (by simp; omega), ← hs]; exact heap_alloc_new w _
  · have := heap_alloc_new (w.alloc (.chan 1 #[] false 0 0 false)) (.cells #[.int .i64 0, .int .u32 0, .chan (some (B + 1)), .pointer none, .pointer none, .int .i64 0, .int .i64 0] 56)
    rw [World.size_alloc, hs] at this
    exact this
end Go.Proofs.Ybulkusk
