import Derived.Test.YbulkuskLaws
import Derived.RegionTactic
import Derived.RegionCalls
import Derived.ChangeAlike
namespace Go.Proofs.Ybulkusk
open Go Go.RowKit

/-! ### sync/atomic's methods, one goroutine -/
theorem i64_store (b o : Nat) (v : Int) (u : Value) (w : World) (hc : w.cell? ⟨b, o, none⟩ = some u) (hz : w.frozen? ⟨b, o, none⟩ = false) :
    Calls Yba.prog 7 #[.pointer (some ⟨b, o, none⟩), .int .i64 v] w fun e w' => e = .returned (.tuple #[]) ∧ w' = w.setCell ⟨b, o, none⟩ (.int .i64 v) := by
  have hl := run_call_store (P := Yba.prog) Yba.func16 (by kernel_rfl) (by kernel_rfl) (by kernel_rfl) (by kernel_rfl) (k := .i64) (y := v) hc hz
  go_enter Yba.func7, Yba.ntmps7
  go_wp2
  go_end0
  exact ⟨rfl, rfl⟩

theorem i64_load (b o : Nat) (x : Int) (w : World) (hc : w.cell? ⟨b, o, none⟩ = some (.int .i64 x)) :
    Calls Yba.prog 14 #[.pointer (some ⟨b, o, none⟩)] w fun e w' => e = .returned (.int .i64 x) ∧ w' = w := by
  have hl := run_call_load (P := Yba.prog) Yba.func31 (by kernel_rfl) (by kernel_rfl) (by kernel_rfl) .i64 (by kernel_rfl) hc
  go_enter Yba.func14, Yba.ntmps14
  go_wp2
  go_ret
  exact ⟨rfl, rfl⟩

theorem i64_cas (b o : Nat) (x y : Int) (w : World) (hc : w.cell? ⟨b, o, none⟩ = some (.int .i64 x)) (hz : w.frozen? ⟨b, o, none⟩ = false) :
    Calls Yba.prog 43 #[.pointer (some ⟨b, o, none⟩), .int .i64 x, .int .i64 y] w fun e w' => e = .returned (.bool true) ∧ w' = w.setCell ⟨b, o, none⟩ (.int .i64 y) := by
  have hl := run_call_cas_hit (P := Yba.prog) Yba.func54 (by kernel_rfl) (by kernel_rfl) (by kernel_rfl) .i64 (by kernel_rfl) (y := y) hc hz
  go_enter Yba.func43, Yba.ntmps43
  go_wp2
  go_ret
  exact ⟨rfl, rfl⟩

theorem u32_load (b o : Nat) (x : Int) (w : World) (hc : w.cell? ⟨b, o, none⟩ = some (.int .u32 x)) :
    Calls Yba.prog 17 #[.pointer (some ⟨b, o, none⟩)] w fun e w' => e = .returned (.int .u32 x) ∧ w' = w := by
  have hl := run_call_load (P := Yba.prog) Yba.func34 (by kernel_rfl) (by kernel_rfl) (by kernel_rfl) .u32 (by kernel_rfl) hc
  go_enter Yba.func17, Yba.ntmps17
  go_wp2
  go_ret
  exact ⟨rfl, rfl⟩

theorem u32_cas (b o : Nat) (x y : Int) (w : World) (hc : w.cell? ⟨b, o, none⟩ = some (.int .u32 x)) (hz : w.frozen? ⟨b, o, none⟩ = false) :
    Calls Yba.prog 35 #[.pointer (some ⟨b, o, none⟩), .int .u32 x, .int .u32 y] w fun e w' => e = .returned (.bool true) ∧ w' = w.setCell ⟨b, o, none⟩ (.int .u32 y) := by
  have hl := run_call_cas_hit (P := Yba.prog) Yba.func50 (by kernel_rfl) (by kernel_rfl) (by kernel_rfl) .u32 (by kernel_rfl) (y := y) hc hz
  go_enter Yba.func35, Yba.ntmps35
  go_wp2
  go_ret
  exact ⟨rfl, rfl⟩

theorem u32_store (b o : Nat) (v : Int) (u : Value) (w : World) (hc : w.cell? ⟨b, o, none⟩ = some u) (hz : w.frozen? ⟨b, o, none⟩ = false) :
    Calls Yba.prog 36 #[.pointer (some ⟨b, o, none⟩), .int .u32 v] w fun e w' => e = .returned (.tuple #[]) ∧ w' = w.setCell ⟨b, o, none⟩ (.int .u32 v) := by
  have hl := run_call_store (P := Yba.prog) Yba.func51 (by kernel_rfl) (by kernel_rfl) (by kernel_rfl) (by kernel_rfl) (k := .u32) (y := v) hc hz
  go_enter Yba.func36, Yba.ntmps36
  go_wp2
  go_end0
  exact ⟨rfl, rfl⟩

theorem b32_true (w : World) : Calls Yba.prog 55 #[.bool true] w fun e w' => e = .returned (.int .u32 1) ∧ w' = w := by
  go_enter Yba.func55, Yba.ntmps55
  go_wp2
  go_ret
  exact ⟨rfl, rfl⟩
theorem b32_false (w : World) : Calls Yba.prog 55 #[.bool false] w fun e w' => e = .returned (.int .u32 0) ∧ w' = w := by
  go_enter Yba.func55, Yba.ntmps55
  go_wp2
  go_ret
  exact ⟨rfl, rfl⟩
theorem bit0 (w : World) : Calls Yba.prog 33 #[.int .u8 0] w fun e w' => e = .returned (.int .u32 1) ∧ w' = w := by
  go_enter Yba.func33, Yba.ntmps33
  go_wp2
  go_ret
  exact ⟨rfl, rfl⟩

theorem u32_or (b o : Nat) (x : Int) (hx : x = 0) (w : World) (hc : w.cell? ⟨b, o, none⟩ = some (.int .u32 x)) (hz : w.frozen? ⟨b, o, none⟩ = false) :
    Calls Yba.prog 56 #[.pointer (some ⟨b, o, none⟩), .int .u32 1] w fun e w' => e = .returned (.int .u32 0) ∧ w' = w.setCell ⟨b, o, none⟩ (.int .u32 1) := by
  subst hx
  have hl := Law.run_call_update (P := Yba.prog) Yba.func58 (by kernel_rfl) (by kernel_rfl) (by kernel_rfl) .u32 (Op.intBits .or) (by kernel_rfl) (y := 1) (s := 1) hc hz rfl
  go_enter Yba.func56, Yba.ntmps56
  go_wp2
  go_ret
  exact ⟨rfl, rfl⟩

theorem ptr_load (b o : Nat) (x : Nat) (w : World) (hc : w.cell? ⟨b, o, none⟩ = some (.pointer (some ⟨x, 0, none⟩))) (hsh : w.shape? x = some (56, 7)) :
    Calls Yba.prog 19 #[.pointer (some ⟨b, o, none⟩)] w fun e w' => e = .returned (.pointer (some ⟨x, 0, none⟩)) ∧ w' = w := by
  have hl := Law.run_call_loadptr (P := Yba.prog) Yba.func38 (by kernel_rfl) (by kernel_rfl) (by kernel_rfl) (by kernel_rfl) hc
  have hv := Law.conv_from x w hsh
  go_enter Yba.func19, Yba.ntmps19
  go_wp2
  go_ret
  exact ⟨rfl, rfl⟩
theorem ptr_load_nil (b o : Nat) (w : World) (hc : w.cell? ⟨b, o, none⟩ = some (.pointer none)) :
    Calls Yba.prog 19 #[.pointer (some ⟨b, o, none⟩)] w fun e w' => e = .returned (.pointer none) ∧ w' = w := by
  have hl := Law.run_call_loadptr (P := Yba.prog) Yba.func38 (by kernel_rfl) (by kernel_rfl) (by kernel_rfl) (by kernel_rfl) hc
  have hv := Law.conv_nil_from w
  go_enter Yba.func19, Yba.ntmps19
  go_wp2
  go_ret
  exact ⟨rfl, rfl⟩
theorem ptr_cas_in (b o : Nat) (x : Nat) (w : World) (hc : w.cell? ⟨b, o, none⟩ = some (.pointer none)) (hz : w.frozen? ⟨b, o, none⟩ = false) (hsh : w.shape? x = some (56, 7)) :
    Calls Yba.prog 20 #[.pointer (some ⟨b, o, none⟩), .pointer none, .pointer (some ⟨x, 0, none⟩)] w fun e w' => e = .returned (.bool true) ∧ w' = w.setCell ⟨b, o, none⟩ (.pointer (some ⟨x, 0, none⟩)) := by
  have hl := Law.run_call_casptr (P := Yba.prog) Yba.func39 (by kernel_rfl) (by kernel_rfl) (by kernel_rfl) (by kernel_rfl) (y := some ⟨x, 0, none⟩) hc hz
  have hv := Law.conv_nil_to w
  have hv2 := Law.conv_to x w hsh
  go_enter Yba.func20, Yba.ntmps20
  go_wp2
  go_ret
  exact ⟨rfl, rfl⟩
theorem ptr_cas_out (b o : Nat) (x : Nat) (w : World) (hc : w.cell? ⟨b, o, none⟩ = some (.pointer (some ⟨x, 0, none⟩))) (hz : w.frozen? ⟨b, o, none⟩ = false) (hsh : w.shape? x = some (56, 7)) :
    Calls Yba.prog 20 #[.pointer (some ⟨b, o, none⟩), .pointer (some ⟨x, 0, none⟩), .pointer none] w fun e w' => e = .returned (.bool true) ∧ w' = w.setCell ⟨b, o, none⟩ (.pointer none) := by
  have hl := Law.run_call_casptr (P := Yba.prog) Yba.func39 (by kernel_rfl) (by kernel_rfl) (by kernel_rfl) (by kernel_rfl) (y := none) hc hz
  have hv := Law.conv_nil_to w
  have hv2 := Law.conv_to x w hsh
  go_enter Yba.func20, Yba.ntmps20
  go_wp2
  go_ret
  exact ⟨rfl, rfl⟩
set_option maxHeartbeats 400000 in
theorem bool_cas (b o : Nat) (w : World) (hc : w.cell? ⟨b, o, none⟩ = some (.int .u32 0)) (hz : w.frozen? ⟨b, o, none⟩ = false) :
    Calls Yba.prog 44 #[.pointer (some ⟨b, o, none⟩), .bool false, .bool true] w fun e w' => e = .returned (.bool true) ∧ w' = (w.setCell ⟨b, o, none⟩ (.int .u32 1)).drew := by
  have hl := run_call_cas_hit (P := Yba.prog) Yba.func50 (by kernel_rfl) (by kernel_rfl) (by kernel_rfl) .u32 (by kernel_rfl) (y := 1) (w := w.drew) hc hz
  go_enter Yba.func44, Yba.ntmps44
  go_wp2
  go_region_calls
  go_wp2
  go_ret
  exact ⟨rfl, rfl⟩
set_option maxHeartbeats 400000 in
theorem bool_store (b o : Nat) (u : Value) (w : World) (hc : w.cell? ⟨b, o, none⟩ = some u) (hz : w.frozen? ⟨b, o, none⟩ = false) :
    Calls Yba.prog 47 #[.pointer (some ⟨b, o, none⟩), .bool false] w fun e w' => e = .returned (.tuple #[]) ∧ w' = (w.setCell ⟨b, o, none⟩ (.int .u32 0)).drew := by
  have hl := run_call_store (P := Yba.prog) Yba.func51 (by kernel_rfl) (by kernel_rfl) (by kernel_rfl) (by kernel_rfl) (k := .u32) (y := 0) (w := w.drew) hc hz
  go_enter Yba.func47, Yba.ntmps47
  go_wp2
  go_region_calls
  go_end0
  exact ⟨rfl, rfl⟩
end Go.Proofs.Ybulkusk
