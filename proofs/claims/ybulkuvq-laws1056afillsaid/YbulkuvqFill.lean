import Derived.Test.YbulkuvqKp
import Derived.Test.YbulkuvqCmp
namespace Go.Proofs.Ybulkuvq
open Go Go.RowKit
set_option linter.unusedVariables false

set_option maxRecDepth 100000 in
set_option maxHeartbeats 2000000 in
theorem fill_0 (bc bb bp bv : Nat) (i j : Nat) (hi : i < 2) (hj : j < 2)
    (m0 m1 : Int) (op : Bool) (dc age : Int) (mf : Option Addr) (ca ar : Int) (hc vc : Nat → Int) (w : World) (hb : bc < w.heap.size) (hbb : bb < w.heap.size) (hbp : bp < w.heap.size) (hbv : bv < w.heap.size)
    (n1 : bc ≠ bb) (n2 : bp ≠ bb) (n3 : bv ≠ bb)
    (v0 v1 v2 v3 v4 v5 v6 v7 v8 v9 v10 v11 v12 v13 v14 v15 v16 : Value)
    (hB : w.heap[bb]? = some (.cells #[v0, v1, v2, v3, v4, v5, v6, v7, v8, v9, v10, v11, v12, v13, v14, v15, v16] 60 (0, 0)))
    (c0 : w.cell? ⟨bc, offA 0 i j, none⟩ = some (.int .i64 0)) (c1 : w.cell? ⟨bc, offA 0 i j + 1, none⟩ = some (.int .u64 m0)) (c2 : w.cell? ⟨bc, offA 0 i j + 2, none⟩ = some (.int .i64 0))
    (d0 : w.cell? ⟨bc, offB 0 i j, none⟩ = some (.int .i64 0)) (d1 : w.cell? ⟨bc, offB 0 i j + 1, none⟩ = some (.int .u64 m1)) (d2 : w.cell? ⟨bc, offB 0 i j + 2, none⟩ = some (.int .i64 0))
    (o1 : w.cell? ⟨bc, offO 0 i j, none⟩ = some (.bool op)) (e1 : w.cell? ⟨bc, 212, none⟩ = some (.int .i64 dc))
    (p0 : w.cell? ⟨bp, 0, none⟩ = some (.int .i64 age)) (p13 : w.cell? ⟨bp, 13, none⟩ = some (.pointer mf)) (hp : ∀ k, k < 12 → w.cell? ⟨bp, 1 + k, none⟩ = some (.int .i64 (hc k))) (hv : ∀ k, k < 12 → w.cell? ⟨bv, k, none⟩ = some (.int .i64 (vc k))) :
    Calls Yba.prog 5 #[.pointer (some ⟨bc, 0, none⟩), .pointer (some ⟨bb, 0, none⟩), .int .i64 0, .int .i64 i, .int .i64 j, .pointer (some ⟨bp, 0, none⟩), .pointer (some ⟨bv, 0, none⟩), M ca, M ar] w
      fun e w' => e = .returned (.tuple #[]) ∧ Bb bb 60 w w' #[.bool ((i : Int) == 1), (.int .i64 0), (.int .u64 m0), (.int .i64 0), (.int .i64 0), (.int .u64 (wth op dc m0 m1)), (.int .i64 0), .int .i64 dc, .int .i64 age, .int .i64 0, .int .u64 ca, .int .i64 0, .pointer mf, .int .i64 (if mf.isSome then cnt hc vc 12 else 0), .int .i64 0, .int .u64 ar, .int .i64 0] := by
  have n1' : ¬ bb = bc := fun h => n1 h.symm
  have n2' : ¬ bb = bp := fun h => n2 h.symm
  have n3' : ¬ bb = bv := fun h => n3 h.symm
  have hb1 : bb < w.heap.size + 1 := by omega
  have hc1 : bc < w.heap.size + 1 := by omega
  have hp1 : bp < w.heap.size + 1 := by omega
  have k : ∀ i v, #[v0, v1, v2, v3, v4, v5, v6, v7, v8, v9, v10, v11, v12, v13, v14, v15, v16][i]? = some v → w.cell? ⟨bb, i, none⟩ = some v := fun i v h => blk_cell hB h
  have f : ∀ i, w.frozen? ⟨bb, i, none⟩ = false := fun i => blk_frozen hB
  have k0 := k 0 v0 rfl
  have k7 := k 7 v7 rfl
  have k8 := k 8 v8 rfl
  have k9 := k 9 v9 rfl
  have k10 := k 10 v10 rfl
  have k11 := k 11 v11 rfl
  have k12 := k 12 v12 rfl
  have k13 := k 13 v13 rfl
  have k14 := k 14 v14 rfl
  have k15 := k 15 v15 rfl
  have k16 := k 16 v16 rfl
  have h3 := ((((((((((((((Bb.start hB).set 0 (.bool ((i : Int) == 1))).set 7 (.int .i64 dc)).set 8 (.int .i64 age)).set 9 (.int .i64 0)).set 10 (.int .u64 ca)).set 11 (.int .i64 0)).set 12 (.pointer mf)).set 14 (.int .i64 0)).set 15 (.int .u64 ar)).set 16 (.int .i64 0)).set 13 (.int .i64 0)).alloc (.cells #[.int .i64 0, .int .u64 ca, .int .i64 0] 36)).alloc (.cells #[.int .i64 0, .int .u64 ar, .int .i64 0] 36)).drew.drew
  have HP : Hid (∀ k, k < 12 → w.cell? ⟨bp, 1 + k, none⟩ = some (.int .i64 (hc k))) := hp
  have HV : Hid (∀ k, k < 12 → w.cell? ⟨bv, k, none⟩ = some (.int .i64 (vc k))) := hv
  have HB := hB
  clear k hB hp hv
  have hix := ix58_0
  go_enter Yba.func5, Yba.ntmps5
  go_wp2_with fail
  go_region
  go_wp2_with fail
  go_region
  go_wp2_with fail
  refine (compared bc 0 i j (by decide) hi hj m0 m1 op dc _ (Nat.lt_of_lt_of_le hb h3.size) ((h3.cell hb n1 _).trans c0) ((h3.cell hb n1 _).trans c1) ((h3.cell hb n1 _).trans c2) ((h3.cell hb n1 _).trans d0) ((h3.cell hb n1 _).trans d1) ((h3.cell hb n1 _).trans d2) ((h3.cell hb n1 _).trans o1) ((h3.cell hb n1 _).trans e1)).mono ?_
  rintro e w4 ⟨rfl, hb4⟩
  have h4 : Bb bb 60 w w4 #[.bool ((i : Int) == 1), v1, v2, v3, v4, v5, v6, .int .i64 dc, .int .i64 age, .int .i64 0, .int .u64 ca, .int .i64 0, .pointer mf, .int .i64 0, .int .i64 0, .int .u64 ar, .int .i64 0] := by simpa using h3.below hb4
  clear hb4 h3 k0 k7 k8 k9 k10 k11 k12 k13 k14 k15 k16 f c0 c1 c2 d0 d1 d2 o1 e1 hix HB hb1 hc1 hp1
  have q13 := (h4.cell hbp n2 13).trans p13
  have q1 := blk_cell (v := v1) h4.hb (i := 1) rfl
  have q2 := blk_cell (v := v2) h4.hb (i := 2) rfl
  have q3 := blk_cell (v := v3) h4.hb (i := 3) rfl
  have q4 := blk_cell (v := v4) h4.hb (i := 4) rfl
  have q5 := blk_cell (v := v5) h4.hb (i := 5) rfl
  have q6 := blk_cell (v := v6) h4.hb (i := 6) rfl
  have f : ∀ i, w4.frozen? ⟨bb, i, none⟩ = false := fun i => blk_frozen h4.hb
  have h5 := (((((h4.set 1 (.int .i64 0)).set 2 (.int .u64 m0)).set 3 (.int .i64 0)).set 4 (.int .i64 0)).set 5 (.int .u64 (wth op dc m0 m1))).set 6 (.int .i64 0)
  simp only [List.setIfInBounds_toArray, List.set_cons_succ, List.set_cons_zero] at h5
  cases mf with
  | none =>
    go_wp2_with fail
    refine bodyPost_ret (results_none rfl _ _ _) rfl ?_
    exact ⟨rfl, by simpa using h5⟩
  | some am =>
    have P0 := (h4.cell hbp n2 1).trans (HP.out 0 (by omega))
    have P1 := (h4.cell hbp n2 2).trans (HP.out 1 (by omega))
    have P2 := (h4.cell hbp n2 3).trans (HP.out 2 (by omega))
    have P3 := (h4.cell hbp n2 4).trans (HP.out 3 (by omega))
    have P4 := (h4.cell hbp n2 5).trans (HP.out 4 (by omega))
    have P5 := (h4.cell hbp n2 6).trans (HP.out 5 (by omega))
    have P6 := (h4.cell hbp n2 7).trans (HP.out 6 (by omega))
    have P7 := (h4.cell hbp n2 8).trans (HP.out 7 (by omega))
    have P8 := (h4.cell hbp n2 9).trans (HP.out 8 (by omega))
    have P9 := (h4.cell hbp n2 10).trans (HP.out 9 (by omega))
    have P10 := (h4.cell hbp n2 11).trans (HP.out 10 (by omega))
    have P11 := (h4.cell hbp n2 12).trans (HP.out 11 (by omega))
    go_wp2_with fail
    clear P0 P1 P2 P3 P4 P5 P6 P7 P8 P9 P10 P11 q1 q2 q3 q4 q5 q6 q13 f h4 p0 p13 HP
    go_loopw [86] (fun t w' => ∃ k : Nat, k ≤ 12 ∧ t = .int .i64 k ∧ Bb bb 60 w w' #[.bool ((i : Int) == 1), .int .i64 0, .int .u64 m0, .int .i64 0, .int .i64 0, .int .u64 (wth op dc m0 m1), .int .i64 0, .int .i64 dc, .int .i64 age, .int .i64 0, .int .u64 ca, .int .i64 0, .pointer (some am), .int .i64 (cnt hc vc k), .int .i64 0, .int .u64 ar, .int .i64 0]) (fun t _ => 12 - (intOf t).toNat)
    case atStart => exact ⟨0, Nat.zero_le _, rfl, h5⟩
    case round =>
      obtain ⟨k, hk, rfl, hr⟩ := hrel
      clear h5
      by_cases hlt : k < 12
      · have hix := ix30 (A12 hc) k _ hlt (A12_at hc k hlt)
        have hvk := (hr.cell hbv n3 k).trans (HV.out k hlt)
        have h13 := blk_cell (v := .int .i64 (cnt hc vc k)) hr.hb (i := 13) rfl
        have f13 := blk_frozen hr.hb (i := 13)
        obtain ⟨cb1, cb2⟩ := cnt_bd hc vc k
        by_cases e1 : hc k = 0
        · have x1 : (hc k != 0) = false := by simp [e1]
          have HC : Hid (cnt hc vc (k + 1) = cnt hc vc k) := cnt_no hc vc k (by simp [e1])
          clear e1
          go_wp2_with fail
          go_roundw
          case rel => exact ⟨k + 1, by omega, by go_num, by rw [HC.out]; exact hr⟩
          case measure => simp [intOf]; omega
        · have x1 : (hc k != 0) = true := by simp [e1]
          by_cases e2 : vc k = 0
          · have x2 : (vc k == 0) = true := by simp [e2]
            have HC : Hid (cnt hc vc (k + 1) = cnt hc vc k + 1) := cnt_yes hc vc k e1 e2
            have hs := hr.set 13 (.int .i64 (cnt hc vc k + 1))
            simp only [List.setIfInBounds_toArray, List.set_cons_succ, List.set_cons_zero] at hs
            clear e1 e2
            go_wp2_with fail
            go_roundw
            case rel => exact ⟨k + 1, by omega, by go_num, by rw [HC.out]; exact hs⟩
            case measure => simp [intOf]; omega
          · have x2 : (vc k == 0) = false := by simp [e2]
            have HC : Hid (cnt hc vc (k + 1) = cnt hc vc k) := cnt_no hc vc k (by simp [e2])
            clear e1 e2
            go_wp2_with fail
            go_roundw
            case rel => exact ⟨k + 1, by omega, by go_num, by rw [HC.out]; exact hr⟩
            case measure => simp [intOf]; omega
      · have hk12 : k = 12 := by omega
        subst hk12
        go_wp2_with fail
        go_end0
        exact ⟨rfl, by simpa using hr⟩

set_option maxRecDepth 100000 in
set_option maxHeartbeats 2000000 in
theorem fill_1 (bc bb bp bv : Nat) (i j : Nat) (hi : i < 2) (hj : j < 2)
    (m0 m1 : Int) (op : Bool) (dc age : Int) (mf : Option Addr) (ca ar : Int) (hc vc : Nat → Int) (w : World) (hb : bc < w.heap.size) (hbb : bb < w.heap.size) (hbp : bp < w.heap.size) (hbv : bv < w.heap.size)
    (n1 : bc ≠ bb) (n2 : bp ≠ bb) (n3 : bv ≠ bb)
    (v0 v1 v2 v3 v4 v5 v6 v7 v8 v9 v10 v11 v12 v13 v14 v15 v16 : Value)
    (hB : w.heap[bb]? = some (.cells #[v0, v1, v2, v3, v4, v5, v6, v7, v8, v9, v10, v11, v12, v13, v14, v15, v16] 60 (0, 0)))
    (c0 : w.cell? ⟨bc, offA 1 i j, none⟩ = some (.int .i64 0)) (c1 : w.cell? ⟨bc, offA 1 i j + 1, none⟩ = some (.int .u64 m0)) (c2 : w.cell? ⟨bc, offA 1 i j + 2, none⟩ = some (.int .i64 0))
    (d0 : w.cell? ⟨bc, offB 1 i j, none⟩ = some (.int .i64 0)) (d1 : w.cell? ⟨bc, offB 1 i j + 1, none⟩ = some (.int .u64 m1)) (d2 : w.cell? ⟨bc, offB 1 i j + 2, none⟩ = some (.int .i64 0))
    (o1 : w.cell? ⟨bc, offO 1 i j, none⟩ = some (.bool op)) (e1 : w.cell? ⟨bc, 213, none⟩ = some (.int .i64 dc))
    (p0 : w.cell? ⟨bp, 0, none⟩ = some (.int .i64 age)) (p13 : w.cell? ⟨bp, 13, none⟩ = some (.pointer mf)) (hp : ∀ k, k < 12 → w.cell? ⟨bp, 1 + k, none⟩ = some (.int .i64 (hc k))) (hv : ∀ k, k < 12 → w.cell? ⟨bv, k, none⟩ = some (.int .i64 (vc k))) :
    Calls Yba.prog 5 #[.pointer (some ⟨bc, 0, none⟩), .pointer (some ⟨bb, 0, none⟩), .int .i64 1, .int .i64 i, .int .i64 j, .pointer (some ⟨bp, 0, none⟩), .pointer (some ⟨bv, 0, none⟩), M ca, M ar] w
      fun e w' => e = .returned (.tuple #[]) ∧ Bb bb 60 w w' #[.bool ((j : Int) == 1), (.int .i64 0), (.int .u64 m0), (.int .i64 0), (.int .i64 0), (.int .u64 (wth op dc m0 m1)), (.int .i64 0), .int .i64 dc, .int .i64 age, .int .i64 0, .int .u64 ca, .int .i64 0, .pointer mf, .int .i64 (if mf.isSome then cnt hc vc 12 else 0), .int .i64 0, .int .u64 ar, .int .i64 0] := by
  have n1' : ¬ bb = bc := fun h => n1 h.symm
  have n2' : ¬ bb = bp := fun h => n2 h.symm
  have n3' : ¬ bb = bv := fun h => n3 h.symm
  have hb1 : bb < w.heap.size + 1 := by omega
  have hc1 : bc < w.heap.size + 1 := by omega
  have hp1 : bp < w.heap.size + 1 := by omega
  have k : ∀ i v, #[v0, v1, v2, v3, v4, v5, v6, v7, v8, v9, v10, v11, v12, v13, v14, v15, v16][i]? = some v → w.cell? ⟨bb, i, none⟩ = some v := fun i v h => blk_cell hB h
  have f : ∀ i, w.frozen? ⟨bb, i, none⟩ = false := fun i => blk_frozen hB
  have k0 := k 0 v0 rfl
  have k7 := k 7 v7 rfl
  have k8 := k 8 v8 rfl
  have k9 := k 9 v9 rfl
  have k10 := k 10 v10 rfl
  have k11 := k 11 v11 rfl
  have k12 := k 12 v12 rfl
  have k13 := k 13 v13 rfl
  have k14 := k 14 v14 rfl
  have k15 := k 15 v15 rfl
  have k16 := k 16 v16 rfl
  have h3 := ((((((((((((((Bb.start hB).set 0 (.bool ((j : Int) == 1))).set 7 (.int .i64 dc)).set 8 (.int .i64 age)).set 9 (.int .i64 0)).set 10 (.int .u64 ca)).set 11 (.int .i64 0)).set 12 (.pointer mf)).set 14 (.int .i64 0)).set 15 (.int .u64 ar)).set 16 (.int .i64 0)).set 13 (.int .i64 0)).alloc (.cells #[.int .i64 0, .int .u64 ca, .int .i64 0] 36)).alloc (.cells #[.int .i64 0, .int .u64 ar, .int .i64 0] 36)).drew.drew
  have HP : Hid (∀ k, k < 12 → w.cell? ⟨bp, 1 + k, none⟩ = some (.int .i64 (hc k))) := hp
  have HV : Hid (∀ k, k < 12 → w.cell? ⟨bv, k, none⟩ = some (.int .i64 (vc k))) := hv
  have HB := hB
  clear k hB hp hv
  have hix := ix58_1
  go_enter Yba.func5, Yba.ntmps5
  go_wp2_with fail
  go_region
  go_wp2_with fail
  go_region
  go_wp2_with fail
  refine (compared bc 1 i j (by decide) hi hj m0 m1 op dc _ (Nat.lt_of_lt_of_le hb h3.size) ((h3.cell hb n1 _).trans c0) ((h3.cell hb n1 _).trans c1) ((h3.cell hb n1 _).trans c2) ((h3.cell hb n1 _).trans d0) ((h3.cell hb n1 _).trans d1) ((h3.cell hb n1 _).trans d2) ((h3.cell hb n1 _).trans o1) ((h3.cell hb n1 _).trans e1)).mono ?_
  rintro e w4 ⟨rfl, hb4⟩
  have h4 : Bb bb 60 w w4 #[.bool ((j : Int) == 1), v1, v2, v3, v4, v5, v6, .int .i64 dc, .int .i64 age, .int .i64 0, .int .u64 ca, .int .i64 0, .pointer mf, .int .i64 0, .int .i64 0, .int .u64 ar, .int .i64 0] := by simpa using h3.below hb4
  clear hb4 h3 k0 k7 k8 k9 k10 k11 k12 k13 k14 k15 k16 f c0 c1 c2 d0 d1 d2 o1 e1 hix HB hb1 hc1 hp1
  have q13 := (h4.cell hbp n2 13).trans p13
  have q1 := blk_cell (v := v1) h4.hb (i := 1) rfl
  have q2 := blk_cell (v := v2) h4.hb (i := 2) rfl
  have q3 := blk_cell (v := v3) h4.hb (i := 3) rfl
  have q4 := blk_cell (v := v4) h4.hb (i := 4) rfl
  have q5 := blk_cell (v := v5) h4.hb (i := 5) rfl
  have q6 := blk_cell (v := v6) h4.hb (i := 6) rfl
  have f : ∀ i, w4.frozen? ⟨bb, i, none⟩ = false := fun i => blk_frozen h4.hb
  have h5 := (((((h4.set 1 (.int .i64 0)).set 2 (.int .u64 m0)).set 3 (.int .i64 0)).set 4 (.int .i64 0)).set 5 (.int .u64 (wth op dc m0 m1))).set 6 (.int .i64 0)
  simp only [List.setIfInBounds_toArray, List.set_cons_succ, List.set_cons_zero] at h5
  cases mf with
  | none =>
    go_wp2_with fail
    refine bodyPost_ret (results_none rfl _ _ _) rfl ?_
    exact ⟨rfl, by simpa using h5⟩
  | some am =>
    have P0 := (h4.cell hbp n2 1).trans (HP.out 0 (by omega))
    have P1 := (h4.cell hbp n2 2).trans (HP.out 1 (by omega))
    have P2 := (h4.cell hbp n2 3).trans (HP.out 2 (by omega))
    have P3 := (h4.cell hbp n2 4).trans (HP.out 3 (by omega))
    have P4 := (h4.cell hbp n2 5).trans (HP.out 4 (by omega))
    have P5 := (h4.cell hbp n2 6).trans (HP.out 5 (by omega))
    have P6 := (h4.cell hbp n2 7).trans (HP.out 6 (by omega))
    have P7 := (h4.cell hbp n2 8).trans (HP.out 7 (by omega))
    have P8 := (h4.cell hbp n2 9).trans (HP.out 8 (by omega))
    have P9 := (h4.cell hbp n2 10).trans (HP.out 9 (by omega))
    have P10 := (h4.cell hbp n2 11).trans (HP.out 10 (by omega))
    have P11 := (h4.cell hbp n2 12).trans (HP.out 11 (by omega))
    go_wp2_with fail
    clear P0 P1 P2 P3 P4 P5 P6 P7 P8 P9 P10 P11 q1 q2 q3 q4 q5 q6 q13 f h4 p0 p13 HP
    go_loopw [86] (fun t w' => ∃ k : Nat, k ≤ 12 ∧ t = .int .i64 k ∧ Bb bb 60 w w' #[.bool ((j : Int) == 1), .int .i64 0, .int .u64 m0, .int .i64 0, .int .i64 0, .int .u64 (wth op dc m0 m1), .int .i64 0, .int .i64 dc, .int .i64 age, .int .i64 0, .int .u64 ca, .int .i64 0, .pointer (some am), .int .i64 (cnt hc vc k), .int .i64 0, .int .u64 ar, .int .i64 0]) (fun t _ => 12 - (intOf t).toNat)
    case atStart => exact ⟨0, Nat.zero_le _, rfl, h5⟩
    case round =>
      obtain ⟨k, hk, rfl, hr⟩ := hrel
      clear h5
      by_cases hlt : k < 12
      · have hix := ix30 (A12 hc) k _ hlt (A12_at hc k hlt)
        have hvk := (hr.cell hbv n3 k).trans (HV.out k hlt)
        have h13 := blk_cell (v := .int .i64 (cnt hc vc k)) hr.hb (i := 13) rfl
        have f13 := blk_frozen hr.hb (i := 13)
        obtain ⟨cb1, cb2⟩ := cnt_bd hc vc k
        by_cases e1 : hc k = 0
        · have x1 : (hc k != 0) = false := by simp [e1]
          have HC : Hid (cnt hc vc (k + 1) = cnt hc vc k) := cnt_no hc vc k (by simp [e1])
          clear e1
          go_wp2_with fail
          go_roundw
          case rel => exact ⟨k + 1, by omega, by go_num, by rw [HC.out]; exact hr⟩
          case measure => simp [intOf]; omega
        · have x1 : (hc k != 0) = true := by simp [e1]
          by_cases e2 : vc k = 0
          · have x2 : (vc k == 0) = true := by simp [e2]
            have HC : Hid (cnt hc vc (k + 1) = cnt hc vc k + 1) := cnt_yes hc vc k e1 e2
            have hs := hr.set 13 (.int .i64 (cnt hc vc k + 1))
            simp only [List.setIfInBounds_toArray, List.set_cons_succ, List.set_cons_zero] at hs
            clear e1 e2
            go_wp2_with fail
            go_roundw
            case rel => exact ⟨k + 1, by omega, by go_num, by rw [HC.out]; exact hs⟩
            case measure => simp [intOf]; omega
          · have x2 : (vc k == 0) = false := by simp [e2]
            have HC : Hid (cnt hc vc (k + 1) = cnt hc vc k) := cnt_no hc vc k (by simp [e2])
            clear e1 e2
            go_wp2_with fail
            go_roundw
            case rel => exact ⟨k + 1, by omega, by go_num, by rw [HC.out]; exact hr⟩
            case measure => simp [intOf]; omega
      · have hk12 : k = 12 := by omega
        subst hk12
        go_wp2_with fail
        go_end0
        exact ⟨rfl, by simpa using hr⟩
end Go.Proofs.Ybulkuvq
