import Derived.Test.YbulkuweRows
import Derived.WalkKit
import Derived.RegionTactic
import Derived.LoopN
import Derived.Below
namespace Go.Proofs.Ybulkuwe
open Go Go.RowKit
/-- The first part of a path: at 0, and at a length of 1 or more. -/
theorem pre_zero (s : ByteArray) (w : World) :
    Calls Yba.prog 5 #[.string s, .int .i64 0] w fun e w' => e = .returned (.string ⟨#[116, 104, 101, 32, 118, 97, 108, 117, 101]⟩) ∧ w' = w := by
  go_enter Yba.func5, Yba.ntmps5
  go_wp2
  go_ret
  exact ⟨rfl, rfl⟩
theorem pre_pos (s : ByteArray) (d : Int) (h0 : 0 < d) (h1 : d ≤ s.size) (w : World) :
    Calls Yba.prog 5 #[.string s, .int .i64 d] w fun e w' => e = .returned (.string (s.extract 0 d.toNat)) ∧ w' = w := by
  go_enter Yba.func5, Yba.ntmps5
  go_wp2
  go_ret
  exact ⟨rfl, rfl⟩
theorem full_walk (s : ByteArray) (w : World) :
    Calls Yba.prog 4 #[.string s] w fun e w' => e = .returned (.bool true) ∧ Below w.heap.size w w' := by
  go_enter Yba.func4, Yba.ntmps4
  go_wp2
  all_goals
    go_ret
    exact ⟨rfl, Below.refl _ _⟩


theorem long_walk (s : ByteArray) (x : Int) (hs : ¬ (s.size : Int) ≤ 1048576) (w : World) :
    Calls Yba.prog 3 #[.string s, .int .u64 x] w fun e w' => e = .returned (.bool true) ∧ Below w.heap.size w w' := by
  go_enter Yba.func3, Yba.ntmps3
  go_wp2_with fail
  go_ret
  exact ⟨rfl, Below.refl _ _⟩

theorem exact_zero (s : ByteArray) (x : Int) (hs : (s.size : Int) ≤ 1048576) (x0 : 0 ≤ x) (x1 : x ≤ 18446744073709551615) (hd : wrap64 (x % (s.size + 1)) = 0) (w : World) :
    Calls Yba.prog 3 #[.string s, .int .u64 x] w fun e w' => e = .returned (.bool true) ∧ Below w.heap.size w w' := by
  go_enter Yba.func3, Yba.ntmps3
  go_wp2_with (go_at_call 5; refine (pre_zero s _).mono ?_; rintro e w' ⟨rfl, rfl⟩)
  go_ret
  exact ⟨rfl, Below.refl _ _⟩

theorem ext_ex (s : ByteArray) (n : Nat) (h : n ≤ s.size) : ∃ g : ByteArray, g = s.extract 0 n ∧ ∃ hz : g.size = n, ∀ k (h' : k < n), g[k]'(by omega) = s[k]'(by omega) := by
  have hz : (s.extract 0 n).size = n := by rw [ByteArray.size_extract]; omega
  refine ⟨_, rfl, hz, fun k h' => ?_⟩
  rw [ByteArray.getElem_extract]
  simp

set_option maxHeartbeats 400000 in
theorem exact_pos (s : ByteArray) (x : Int) (n : Nat) (hs : (s.size : Int) ≤ 1048576) (x0 : 0 ≤ x) (x1 : x ≤ 18446744073709551615) (hd : wrap64 (x % (s.size + 1)) = (n : Int)) (n0 : 0 < n) (n1 : n ≤ s.size)
    (w : World) :
    Calls Yba.prog 3 #[.string s, .int .u64 x] w fun e w' => e = .returned (.bool true) ∧ Below w.heap.size w w' := by
  obtain ⟨g, hge, hz, hg⟩ := ext_ex s n n1
  go_enter Yba.func3, Yba.ntmps3
  go_wp2_with fail
  refine (pre_pos s n (by omega) (by omega) _).mono ?_
  rintro e w1 ⟨rfl, hw⟩
  subst hw
  rw [Int.toNat_natCast, ← hge]
  clear hge
  go_wp2_with fail
  go_loopw [7] (fun i w' => ∃ k : Nat, k ≤ n ∧ i = .int .i64 k ∧ Below w1.heap.size w1 w') (fun i _ => n - (intOf i).toNat)
  case atStart => exact ⟨0, Nat.zero_le _, rfl, Below.refl _ _⟩
  case round =>
    obtain ⟨k, hk, rfl, hb⟩ := hrel
    by_cases hlt : k < n
    · have e := hg k hlt
      have b1 : (k : Int) < (g.size : Int) := by omega
      have b2 : (k : Int) < (s.size : Int) := by omega
      go_wp2_with fail
      go_region
      all_goals go_wp2_with fail
      all_goals go_roundw
      case rel => exact ⟨k + 1, by omega, by go_num, hb.drew⟩
      case measure => simp [intOf]; omega
    · go_wp2_with fail
      go_ret
      exact ⟨rfl, hb⟩

theorem exact_walk (s : ByteArray) (x : Int) (wf : (Lit.int .u64 x).wf = true) (w : World) :
    Calls Yba.prog 3 #[.string s, .int .u64 x] w fun e w' => e = .returned (.bool true) ∧ Below w.heap.size w w' := by
  have b : 0 ≤ x ∧ x ≤ 18446744073709551615 := by simpa [Lit.wf, IntKind.min, IntKind.max, IntKind.bits, IntKind.signed] using wf
  by_cases hs : (s.size : Int) ≤ 1048576
  · have h0 : 0 ≤ x % ((s.size : Int) + 1) := Int.emod_nonneg _ (by omega)
    have h1 : x % ((s.size : Int) + 1) < (s.size : Int) + 1 := Int.emod_lt_of_pos _ (by omega)
    obtain ⟨n, hn⟩ := Int.eq_ofNat_of_zero_le h0
    have hd : wrap64 (x % ((s.size : Int) + 1)) = (n : Int) := by rw [hn]; unfold wrap64; omega
    by_cases h : n = 0
    · subst h
      exact exact_zero s x hs b.1 b.2 hd w
    · exact exact_pos s x n hs b.1 b.2 hd (by omega) (by omega) w
  · exact long_walk s x hs w
end Go.Proofs.Ybulkuwe
