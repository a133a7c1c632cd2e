import Derived.Test.YbulkuvqMoney
namespace Go.Proofs.Ybulkuvq
open Go Go.RowKit
set_option linter.unusedVariables false

/-- what 'compared' gives with the rule -/
def wth (op : Bool) (dc m0 m1 : Int) : Int := if op then m1 else if dc = 0 then 0 else m0
def offA (s i j : Nat) : Nat := if s = 0 then 184 + 6 * j else 187 + 12 * i
def offB (s i j : Nat) : Nat := if s = 0 then 196 + 6 * j else 193 + 12 * i
def offO (s i j : Nat) : Nat := if s = 0 then 210 + j else 209 + 2 * i

set_option maxRecDepth 100000 in
set_option maxHeartbeats 1000000 in
theorem cmp_00t (bc : Nat) (v m0 m1 : Int) (dc : Int)  (w : World) (hb : bc < w.heap.size)
    (c0 : w.cell? ⟨bc, 184, none⟩ = some (.int .i64 0)) (c1 : w.cell? ⟨bc, 185, none⟩ = some (.int .u64 m0)) (c2 : w.cell? ⟨bc, 186, none⟩ = some (.int .i64 0))
    (d0 : w.cell? ⟨bc, 196, none⟩ = some (.int .i64 0)) (d1 : w.cell? ⟨bc, 197, none⟩ = some (.int .u64 m1)) (d2 : w.cell? ⟨bc, 198, none⟩ = some (.int .i64 0))
    (o1 : w.cell? ⟨bc, 210, none⟩ = some (.bool true)) (e1 : w.cell? ⟨bc, 212, none⟩ = some (.int .i64 dc)) :
    Calls Yba.prog 6 #[.pointer (some ⟨bc, 0, none⟩), .int .i64 0, .int .i64 v, .int .i64 0] w fun e w' => e = .returned (.tuple #[M m0, M m1]) ∧ Below w.heap.size w w' := by
  have hb1 : bc < w.heap.size + 1 := by omega
  have hb2 : bc < w.heap.size + 2 := by omega
  go_enter Yba.func6, Yba.ntmps6
  go_wp2_with fail
  go_region
  go_wp2_with fail
  go_region
  go_wp2_with fail
  go_region
  go_wp2_with fail
  go_region
  go_wp2_with fail
  exact bodyPost_ret (v := .tuple #[M m0, M m1]) (by simp [results, Yba.results6, go_sem]) rfl ⟨rfl, by repeat (first | exact Below.refl _ _ | refine Below.drew ?_ | refine Below.alloc ?_ (by simp <;> omega) _)⟩

set_option maxRecDepth 100000 in
set_option maxHeartbeats 1000000 in
theorem cmp_00n (bc : Nat) (v m0 m1 : Int) (dc : Int) (hd : (dc != 0) = true) (w : World) (hb : bc < w.heap.size)
    (c0 : w.cell? ⟨bc, 184, none⟩ = some (.int .i64 0)) (c1 : w.cell? ⟨bc, 185, none⟩ = some (.int .u64 m0)) (c2 : w.cell? ⟨bc, 186, none⟩ = some (.int .i64 0))
    (d0 : w.cell? ⟨bc, 196, none⟩ = some (.int .i64 0)) (d1 : w.cell? ⟨bc, 197, none⟩ = some (.int .u64 m1)) (d2 : w.cell? ⟨bc, 198, none⟩ = some (.int .i64 0))
    (o1 : w.cell? ⟨bc, 210, none⟩ = some (.bool false)) (e1 : w.cell? ⟨bc, 212, none⟩ = some (.int .i64 dc)) :
    Calls Yba.prog 6 #[.pointer (some ⟨bc, 0, none⟩), .int .i64 0, .int .i64 v, .int .i64 0] w fun e w' => e = .returned (.tuple #[M m0, M m0]) ∧ Below w.heap.size w w' := by
  have hb1 : bc < w.heap.size + 1 := by omega
  have hb2 : bc < w.heap.size + 2 := by omega
  go_enter Yba.func6, Yba.ntmps6
  go_wp2_with fail
  go_region
  go_wp2_with fail
  go_region
  go_wp2_with fail
  go_region
  go_wp2_with fail
  exact bodyPost_ret (v := .tuple #[M m0, M m0]) (by simp [results, Yba.results6, go_sem]) rfl ⟨rfl, by repeat (first | exact Below.refl _ _ | refine Below.drew ?_ | refine Below.alloc ?_ (by simp <;> omega) _)⟩

set_option maxRecDepth 100000 in
set_option maxHeartbeats 1000000 in
theorem cmp_00z (bc : Nat) (v m0 m1 : Int) (dc : Int) (hd : (dc != 0) = false) (w : World) (hb : bc < w.heap.size)
    (c0 : w.cell? ⟨bc, 184, none⟩ = some (.int .i64 0)) (c1 : w.cell? ⟨bc, 185, none⟩ = some (.int .u64 m0)) (c2 : w.cell? ⟨bc, 186, none⟩ = some (.int .i64 0))
    (d0 : w.cell? ⟨bc, 196, none⟩ = some (.int .i64 0)) (d1 : w.cell? ⟨bc, 197, none⟩ = some (.int .u64 m1)) (d2 : w.cell? ⟨bc, 198, none⟩ = some (.int .i64 0))
    (o1 : w.cell? ⟨bc, 210, none⟩ = some (.bool false)) (e1 : w.cell? ⟨bc, 212, none⟩ = some (.int .i64 dc)) :
    Calls Yba.prog 6 #[.pointer (some ⟨bc, 0, none⟩), .int .i64 0, .int .i64 v, .int .i64 0] w fun e w' => e = .returned (.tuple #[M m0, M 0]) ∧ Below w.heap.size w w' := by
  have hb1 : bc < w.heap.size + 1 := by omega
  have hb2 : bc < w.heap.size + 2 := by omega
  go_enter Yba.func6, Yba.ntmps6
  go_wp2_with fail
  go_region
  go_wp2_with fail
  go_region
  go_wp2_with fail
  go_region
  go_wp2_with fail
  exact bodyPost_ret (v := .tuple #[M m0, M 0]) (by simp [results, Yba.results6, go_sem]) rfl ⟨rfl, by repeat (first | exact Below.refl _ _ | refine Below.drew ?_ | refine Below.alloc ?_ (by simp <;> omega) _)⟩

set_option maxRecDepth 100000 in
set_option maxHeartbeats 1000000 in
theorem cmp_01t (bc : Nat) (v m0 m1 : Int) (dc : Int)  (w : World) (hb : bc < w.heap.size)
    (c0 : w.cell? ⟨bc, 190, none⟩ = some (.int .i64 0)) (c1 : w.cell? ⟨bc, 191, none⟩ = some (.int .u64 m0)) (c2 : w.cell? ⟨bc, 192, none⟩ = some (.int .i64 0))
    (d0 : w.cell? ⟨bc, 202, none⟩ = some (.int .i64 0)) (d1 : w.cell? ⟨bc, 203, none⟩ = some (.int .u64 m1)) (d2 : w.cell? ⟨bc, 204, none⟩ = some (.int .i64 0))
    (o1 : w.cell? ⟨bc, 211, none⟩ = some (.bool true)) (e1 : w.cell? ⟨bc, 212, none⟩ = some (.int .i64 dc)) :
    Calls Yba.prog 6 #[.pointer (some ⟨bc, 0, none⟩), .int .i64 0, .int .i64 v, .int .i64 1] w fun e w' => e = .returned (.tuple #[M m0, M m1]) ∧ Below w.heap.size w w' := by
  have hb1 : bc < w.heap.size + 1 := by omega
  have hb2 : bc < w.heap.size + 2 := by omega
  go_enter Yba.func6, Yba.ntmps6
  go_wp2_with fail
  go_region
  go_wp2_with fail
  go_region
  go_wp2_with fail
  go_region
  go_wp2_with fail
  go_region
  go_wp2_with fail
  exact bodyPost_ret (v := .tuple #[M m0, M m1]) (by simp [results, Yba.results6, go_sem]) rfl ⟨rfl, by repeat (first | exact Below.refl _ _ | refine Below.drew ?_ | refine Below.alloc ?_ (by simp <;> omega) _)⟩

set_option maxRecDepth 100000 in
set_option maxHeartbeats 1000000 in
theorem cmp_01n (bc : Nat) (v m0 m1 : Int) (dc : Int) (hd : (dc != 0) = true) (w : World) (hb : bc < w.heap.size)
    (c0 : w.cell? ⟨bc, 190, none⟩ = some (.int .i64 0)) (c1 : w.cell? ⟨bc, 191, none⟩ = some (.int .u64 m0)) (c2 : w.cell? ⟨bc, 192, none⟩ = some (.int .i64 0))
    (d0 : w.cell? ⟨bc, 202, none⟩ = some (.int .i64 0)) (d1 : w.cell? ⟨bc, 203, none⟩ = some (.int .u64 m1)) (d2 : w.cell? ⟨bc, 204, none⟩ = some (.int .i64 0))
    (o1 : w.cell? ⟨bc, 211, none⟩ = some (.bool false)) (e1 : w.cell? ⟨bc, 212, none⟩ = some (.int .i64 dc)) :
    Calls Yba.prog 6 #[.pointer (some ⟨bc, 0, none⟩), .int .i64 0, .int .i64 v, .int .i64 1] w fun e w' => e = .returned (.tuple #[M m0, M m0]) ∧ Below w.heap.size w w' := by
  have hb1 : bc < w.heap.size + 1 := by omega
  have hb2 : bc < w.heap.size + 2 := by omega
  go_enter Yba.func6, Yba.ntmps6
  go_wp2_with fail
  go_region
  go_wp2_with fail
  go_region
  go_wp2_with fail
  go_region
  go_wp2_with fail
  exact bodyPost_ret (v := .tuple #[M m0, M m0]) (by simp [results, Yba.results6, go_sem]) rfl ⟨rfl, by repeat (first | exact Below.refl _ _ | refine Below.drew ?_ | refine Below.alloc ?_ (by simp <;> omega) _)⟩

set_option maxRecDepth 100000 in
set_option maxHeartbeats 1000000 in
theorem cmp_01z (bc : Nat) (v m0 m1 : Int) (dc : Int) (hd : (dc != 0) = false) (w : World) (hb : bc < w.heap.size)
    (c0 : w.cell? ⟨bc, 190, none⟩ = some (.int .i64 0)) (c1 : w.cell? ⟨bc, 191, none⟩ = some (.int .u64 m0)) (c2 : w.cell? ⟨bc, 192, none⟩ = some (.int .i64 0))
    (d0 : w.cell? ⟨bc, 202, none⟩ = some (.int .i64 0)) (d1 : w.cell? ⟨bc, 203, none⟩ = some (.int .u64 m1)) (d2 : w.cell? ⟨bc, 204, none⟩ = some (.int .i64 0))
    (o1 : w.cell? ⟨bc, 211, none⟩ = some (.bool false)) (e1 : w.cell? ⟨bc, 212, none⟩ = some (.int .i64 dc)) :
    Calls Yba.prog 6 #[.pointer (some ⟨bc, 0, none⟩), .int .i64 0, .int .i64 v, .int .i64 1] w fun e w' => e = .returned (.tuple #[M m0, M 0]) ∧ Below w.heap.size w w' := by
  have hb1 : bc < w.heap.size + 1 := by omega
  have hb2 : bc < w.heap.size + 2 := by omega
  go_enter Yba.func6, Yba.ntmps6
  go_wp2_with fail
  go_region
  go_wp2_with fail
  go_region
  go_wp2_with fail
  go_region
  go_wp2_with fail
  exact bodyPost_ret (v := .tuple #[M m0, M 0]) (by simp [results, Yba.results6, go_sem]) rfl ⟨rfl, by repeat (first | exact Below.refl _ _ | refine Below.drew ?_ | refine Below.alloc ?_ (by simp <;> omega) _)⟩

set_option maxRecDepth 100000 in
set_option maxHeartbeats 1000000 in
theorem cmp_10t (bc : Nat) (v m0 m1 : Int) (dc : Int)  (w : World) (hb : bc < w.heap.size)
    (c0 : w.cell? ⟨bc, 187, none⟩ = some (.int .i64 0)) (c1 : w.cell? ⟨bc, 188, none⟩ = some (.int .u64 m0)) (c2 : w.cell? ⟨bc, 189, none⟩ = some (.int .i64 0))
    (d0 : w.cell? ⟨bc, 193, none⟩ = some (.int .i64 0)) (d1 : w.cell? ⟨bc, 194, none⟩ = some (.int .u64 m1)) (d2 : w.cell? ⟨bc, 195, none⟩ = some (.int .i64 0))
    (o1 : w.cell? ⟨bc, 209, none⟩ = some (.bool true)) (e1 : w.cell? ⟨bc, 213, none⟩ = some (.int .i64 dc)) :
    Calls Yba.prog 6 #[.pointer (some ⟨bc, 0, none⟩), .int .i64 1, .int .i64 0, .int .i64 v] w fun e w' => e = .returned (.tuple #[M m0, M m1]) ∧ Below w.heap.size w w' := by
  have hb1 : bc < w.heap.size + 1 := by omega
  have hb2 : bc < w.heap.size + 2 := by omega
  go_enter Yba.func6, Yba.ntmps6
  go_wp2_with fail
  go_region
  go_wp2_with fail
  go_region
  go_wp2_with fail
  go_region
  go_wp2_with fail
  go_region
  go_wp2_with fail
  exact bodyPost_ret (v := .tuple #[M m0, M m1]) (by simp [results, Yba.results6, go_sem]) rfl ⟨rfl, by repeat (first | exact Below.refl _ _ | refine Below.drew ?_ | refine Below.alloc ?_ (by simp <;> omega) _)⟩

set_option maxRecDepth 100000 in
set_option maxHeartbeats 1000000 in
theorem cmp_10n (bc : Nat) (v m0 m1 : Int) (dc : Int) (hd : (dc != 0) = true) (w : World) (hb : bc < w.heap.size)
    (c0 : w.cell? ⟨bc, 187, none⟩ = some (.int .i64 0)) (c1 : w.cell? ⟨bc, 188, none⟩ = some (.int .u64 m0)) (c2 : w.cell? ⟨bc, 189, none⟩ = some (.int .i64 0))
    (d0 : w.cell? ⟨bc, 193, none⟩ = some (.int .i64 0)) (d1 : w.cell? ⟨bc, 194, none⟩ = some (.int .u64 m1)) (d2 : w.cell? ⟨bc, 195, none⟩ = some (.int .i64 0))
    (o1 : w.cell? ⟨bc, 209, none⟩ = some (.bool false)) (e1 : w.cell? ⟨bc, 213, none⟩ = some (.int .i64 dc)) :
    Calls Yba.prog 6 #[.pointer (some ⟨bc, 0, none⟩), .int .i64 1, .int .i64 0, .int .i64 v] w fun e w' => e = .returned (.tuple #[M m0, M m0]) ∧ Below w.heap.size w w' := by
  have hb1 : bc < w.heap.size + 1 := by omega
  have hb2 : bc < w.heap.size + 2 := by omega
  go_enter Yba.func6, Yba.ntmps6
  go_wp2_with fail
  go_region
  go_wp2_with fail
  go_region
  go_wp2_with fail
  go_region
  go_wp2_with fail
  exact bodyPost_ret (v := .tuple #[M m0, M m0]) (by simp [results, Yba.results6, go_sem]) rfl ⟨rfl, by repeat (first | exact Below.refl _ _ | refine Below.drew ?_ | refine Below.alloc ?_ (by simp <;> omega) _)⟩

set_option maxRecDepth 100000 in
set_option maxHeartbeats 1000000 in
theorem cmp_10z (bc : Nat) (v m0 m1 : Int) (dc : Int) (hd : (dc != 0) = false) (w : World) (hb : bc < w.heap.size)
    (c0 : w.cell? ⟨bc, 187, none⟩ = some (.int .i64 0)) (c1 : w.cell? ⟨bc, 188, none⟩ = some (.int .u64 m0)) (c2 : w.cell? ⟨bc, 189, none⟩ = some (.int .i64 0))
    (d0 : w.cell? ⟨bc, 193, none⟩ = some (.int .i64 0)) (d1 : w.cell? ⟨bc, 194, none⟩ = some (.int .u64 m1)) (d2 : w.cell? ⟨bc, 195, none⟩ = some (.int .i64 0))
    (o1 : w.cell? ⟨bc, 209, none⟩ = some (.bool false)) (e1 : w.cell? ⟨bc, 213, none⟩ = some (.int .i64 dc)) :
    Calls Yba.prog 6 #[.pointer (some ⟨bc, 0, none⟩), .int .i64 1, .int .i64 0, .int .i64 v] w fun e w' => e = .returned (.tuple #[M m0, M 0]) ∧ Below w.heap.size w w' := by
  have hb1 : bc < w.heap.size + 1 := by omega
  have hb2 : bc < w.heap.size + 2 := by omega
  go_enter Yba.func6, Yba.ntmps6
  go_wp2_with fail
  go_region
  go_wp2_with fail
  go_region
  go_wp2_with fail
  go_region
  go_wp2_with fail
  exact bodyPost_ret (v := .tuple #[M m0, M 0]) (by simp [results, Yba.results6, go_sem]) rfl ⟨rfl, by repeat (first | exact Below.refl _ _ | refine Below.drew ?_ | refine Below.alloc ?_ (by simp <;> omega) _)⟩

set_option maxRecDepth 100000 in
set_option maxHeartbeats 1000000 in
theorem cmp_11t (bc : Nat) (v m0 m1 : Int) (dc : Int)  (w : World) (hb : bc < w.heap.size)
    (c0 : w.cell? ⟨bc, 199, none⟩ = some (.int .i64 0)) (c1 : w.cell? ⟨bc, 200, none⟩ = some (.int .u64 m0)) (c2 : w.cell? ⟨bc, 201, none⟩ = some (.int .i64 0))
    (d0 : w.cell? ⟨bc, 205, none⟩ = some (.int .i64 0)) (d1 : w.cell? ⟨bc, 206, none⟩ = some (.int .u64 m1)) (d2 : w.cell? ⟨bc, 207, none⟩ = some (.int .i64 0))
    (o1 : w.cell? ⟨bc, 211, none⟩ = some (.bool true)) (e1 : w.cell? ⟨bc, 213, none⟩ = some (.int .i64 dc)) :
    Calls Yba.prog 6 #[.pointer (some ⟨bc, 0, none⟩), .int .i64 1, .int .i64 1, .int .i64 v] w fun e w' => e = .returned (.tuple #[M m0, M m1]) ∧ Below w.heap.size w w' := by
  have hb1 : bc < w.heap.size + 1 := by omega
  have hb2 : bc < w.heap.size + 2 := by omega
  go_enter Yba.func6, Yba.ntmps6
  go_wp2_with fail
  go_region
  go_wp2_with fail
  go_region
  go_wp2_with fail
  go_region
  go_wp2_with fail
  go_region
  go_wp2_with fail
  exact bodyPost_ret (v := .tuple #[M m0, M m1]) (by simp [results, Yba.results6, go_sem]) rfl ⟨rfl, by repeat (first | exact Below.refl _ _ | refine Below.drew ?_ | refine Below.alloc ?_ (by simp <;> omega) _)⟩

set_option maxRecDepth 100000 in
set_option maxHeartbeats 1000000 in
theorem cmp_11n (bc : Nat) (v m0 m1 : Int) (dc : Int) (hd : (dc != 0) = true) (w : World) (hb : bc < w.heap.size)
    (c0 : w.cell? ⟨bc, 199, none⟩ = some (.int .i64 0)) (c1 : w.cell? ⟨bc, 200, none⟩ = some (.int .u64 m0)) (c2 : w.cell? ⟨bc, 201, none⟩ = some (.int .i64 0))
    (d0 : w.cell? ⟨bc, 205, none⟩ = some (.int .i64 0)) (d1 : w.cell? ⟨bc, 206, none⟩ = some (.int .u64 m1)) (d2 : w.cell? ⟨bc, 207, none⟩ = some (.int .i64 0))
    (o1 : w.cell? ⟨bc, 211, none⟩ = some (.bool false)) (e1 : w.cell? ⟨bc, 213, none⟩ = some (.int .i64 dc)) :
    Calls Yba.prog 6 #[.pointer (some ⟨bc, 0, none⟩), .int .i64 1, .int .i64 1, .int .i64 v] w fun e w' => e = .returned (.tuple #[M m0, M m0]) ∧ Below w.heap.size w w' := by
  have hb1 : bc < w.heap.size + 1 := by omega
  have hb2 : bc < w.heap.size + 2 := by omega
  go_enter Yba.func6, Yba.ntmps6
  go_wp2_with fail
  go_region
  go_wp2_with fail
  go_region
  go_wp2_with fail
  go_region
  go_wp2_with fail
  exact bodyPost_ret (v := .tuple #[M m0, M m0]) (by simp [results, Yba.results6, go_sem]) rfl ⟨rfl, by repeat (first | exact Below.refl _ _ | refine Below.drew ?_ | refine Below.alloc ?_ (by simp <;> omega) _)⟩

set_option maxRecDepth 100000 in
set_option maxHeartbeats 1000000 in
theorem cmp_11z (bc : Nat) (v m0 m1 : Int) (dc : Int) (hd : (dc != 0) = false) (w : World) (hb : bc < w.heap.size)
    (c0 : w.cell? ⟨bc, 199, none⟩ = some (.int .i64 0)) (c1 : w.cell? ⟨bc, 200, none⟩ = some (.int .u64 m0)) (c2 : w.cell? ⟨bc, 201, none⟩ = some (.int .i64 0))
    (d0 : w.cell? ⟨bc, 205, none⟩ = some (.int .i64 0)) (d1 : w.cell? ⟨bc, 206, none⟩ = some (.int .u64 m1)) (d2 : w.cell? ⟨bc, 207, none⟩ = some (.int .i64 0))
    (o1 : w.cell? ⟨bc, 211, none⟩ = some (.bool false)) (e1 : w.cell? ⟨bc, 213, none⟩ = some (.int .i64 dc)) :
    Calls Yba.prog 6 #[.pointer (some ⟨bc, 0, none⟩), .int .i64 1, .int .i64 1, .int .i64 v] w fun e w' => e = .returned (.tuple #[M m0, M 0]) ∧ Below w.heap.size w w' := by
  have hb1 : bc < w.heap.size + 1 := by omega
  have hb2 : bc < w.heap.size + 2 := by omega
  go_enter Yba.func6, Yba.ntmps6
  go_wp2_with fail
  go_region
  go_wp2_with fail
  go_region
  go_wp2_with fail
  go_region
  go_wp2_with fail
  exact bodyPost_ret (v := .tuple #[M m0, M 0]) (by simp [results, Yba.results6, go_sem]) rfl ⟨rfl, by repeat (first | exact Below.refl _ _ | refine Below.drew ?_ | refine Below.alloc ?_ (by simp <;> omega) _)⟩

theorem compared (bc : Nat) (s i j : Nat) (hs : s < 2) (hi : i < 2) (hj : j < 2) (m0 m1 : Int) (op : Bool) (dc : Int) (w : World) (hb : bc < w.heap.size)
    (c0 : w.cell? ⟨bc, offA s i j, none⟩ = some (.int .i64 0)) (c1 : w.cell? ⟨bc, offA s i j + 1, none⟩ = some (.int .u64 m0)) (c2 : w.cell? ⟨bc, offA s i j + 2, none⟩ = some (.int .i64 0))
    (d0 : w.cell? ⟨bc, offB s i j, none⟩ = some (.int .i64 0)) (d1 : w.cell? ⟨bc, offB s i j + 1, none⟩ = some (.int .u64 m1)) (d2 : w.cell? ⟨bc, offB s i j + 2, none⟩ = some (.int .i64 0))
    (o1 : w.cell? ⟨bc, offO s i j, none⟩ = some (.bool op)) (e1 : w.cell? ⟨bc, 212 + s, none⟩ = some (.int .i64 dc)) :
    Calls Yba.prog 6 #[.pointer (some ⟨bc, 0, none⟩), .int .i64 s, .int .i64 i, .int .i64 j] w fun e w' => e = .returned (.tuple #[M m0, M (wth op dc m0 m1)]) ∧ Below w.heap.size w w' := by
  obtain rfl | rfl : s = 0 ∨ s = 1 := by omega
  · obtain rfl | rfl : j = 0 ∨ j = 1 := by omega
    · cases op
      · by_cases hd : dc = 0
        · have e : wth false dc m0 m1 = 0 := by simp [wth, hd]
          rw [e]; exact cmp_00z bc i m0 m1 dc (by simp [hd]) w hb c0 c1 c2 d0 d1 d2 o1 e1
        · have e : wth false dc m0 m1 = m0 := by simp [wth, hd]
          rw [e]; exact cmp_00n bc i m0 m1 dc (by simp [hd]) w hb c0 c1 c2 d0 d1 d2 o1 e1
      · exact cmp_00t bc i m0 m1 dc w hb c0 c1 c2 d0 d1 d2 o1 e1
    · cases op
      · by_cases hd : dc = 0
        · have e : wth false dc m0 m1 = 0 := by simp [wth, hd]
          rw [e]; exact cmp_01z bc i m0 m1 dc (by simp [hd]) w hb c0 c1 c2 d0 d1 d2 o1 e1
        · have e : wth false dc m0 m1 = m0 := by simp [wth, hd]
          rw [e]; exact cmp_01n bc i m0 m1 dc (by simp [hd]) w hb c0 c1 c2 d0 d1 d2 o1 e1
      · exact cmp_01t bc i m0 m1 dc w hb c0 c1 c2 d0 d1 d2 o1 e1
  · obtain rfl | rfl : i = 0 ∨ i = 1 := by omega
    · cases op
      · by_cases hd : dc = 0
        · have e : wth false dc m0 m1 = 0 := by simp [wth, hd]
          rw [e]; exact cmp_10z bc j m0 m1 dc (by simp [hd]) w hb c0 c1 c2 d0 d1 d2 o1 e1
        · have e : wth false dc m0 m1 = m0 := by simp [wth, hd]
          rw [e]; exact cmp_10n bc j m0 m1 dc (by simp [hd]) w hb c0 c1 c2 d0 d1 d2 o1 e1
      · exact cmp_10t bc j m0 m1 dc w hb c0 c1 c2 d0 d1 d2 o1 e1
    · cases op
      · by_cases hd : dc = 0
        · have e : wth false dc m0 m1 = 0 := by simp [wth, hd]
          rw [e]; exact cmp_11z bc j m0 m1 dc (by simp [hd]) w hb c0 c1 c2 d0 d1 d2 o1 e1
        · have e : wth false dc m0 m1 = m0 := by simp [wth, hd]
          rw [e]; exact cmp_11n bc j m0 m1 dc (by simp [hd]) w hb c0 c1 c2 d0 d1 d2 o1 e1
      · exact cmp_11t bc j m0 m1 dc w hb c0 c1 c2 d0 d1 d2 o1 e1
end Go.Proofs.Ybulkuvq
