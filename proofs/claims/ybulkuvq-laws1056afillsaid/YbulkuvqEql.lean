import Derived.Test.YbulkuvqTailA
namespace Go.Proofs.Ybulkuvq
open Go Go.RowKit
set_option linter.unusedVariables false

/-- the thirty cells behind the years -/
abbrev C30 (hal : Nat → Int) (opn : Nat → Bool) (dec : Nat → Int) : Array Value := #[.int .i64 0, .int .u64 (hal 0), .int .i64 0, .int .i64 0, .int .u64 (hal 1), .int .i64 0, .int .i64 0, .int .u64 (hal 2), .int .i64 0, .int .i64 0, .int .u64 (hal 3), .int .i64 0, .int .i64 0, .int .u64 (hal 4), .int .i64 0, .int .i64 0, .int .u64 (hal 5), .int .i64 0, .int .i64 0, .int .u64 (hal 6), .int .i64 0, .int .i64 0, .int .u64 (hal 7), .int .i64 0, .bool (opn 0), .bool (opn 1), .bool (opn 2), .bool (opn 3), .int .i64 (dec 0 % 3), .int .i64 (dec 1 % 3)]

theorem eq50 (yz : Array Value) (hyz : yz.size = 184) (hy : ∀ W : World, (Op.equalIn 9999 42 (.agg yz) (.agg yz)).run Yba.prog W = .ok true W) (hal : Nat → Int) (opn : Nat → Bool) (dec : Nat → Int) (W : World) :
    (binOp .eql 50 (.agg (yz ++ C30 hal opn dec)) (.agg (yz ++ C30 hal opn dec))).run Yba.prog W = .ok (.bool true) W := by
  rw [run_eql_struct]
  have hst : Yba.prog.stoodInHeld 50 = false := by kernel_rfl
  have e0 : (yz ++ C30 hal opn dec).extract 0 184 = yz := by
    rw [Array.extract_append]; simp [hyz]
  have key : ∀ (L : Array Value) (a b : Nat), (yz ++ L).extract (184 + a) (184 + b) = L.extract a b := by
    intro L a b
    rw [Array.extract_append]; simp [hyz]
  rw [show (10000 : Nat) = 9999 + 1 from rfl, run_equalIn_struct W 9999 50 _ _ (by simp only [Program.fieldsOf, Yba.underlying50]) hst]
  rw [eqFields_refl]
  · rfl
  · intro f hmem
    simp only [Program.fieldsOf, Yba.underlying50, List.mem_cons, List.not_mem_nil, or_false] at hmem
    rcases hmem with rfl | rfl | rfl | rfl
    · exact ⟨.agg yz, Eq.trans (b := some (.agg ((yz ++ C30 hal opn dec).extract 0 184))) (by kernel_rfl) (by rw [e0]), hy W⟩
    · refine ⟨.agg ((C30 hal opn dec).extract 0 24), Eq.trans (b := some (.agg ((yz ++ C30 hal opn dec).extract (184 + 0) (184 + 24)))) (by kernel_rfl) (by rw [key]), ?_⟩
      exact rk_refl 9990 9 45 _ (by kernel_rfl) W
    · refine ⟨.agg ((C30 hal opn dec).extract 24 28), Eq.trans (b := some (.agg ((yz ++ C30 hal opn dec).extract (184 + 24) (184 + 28)))) (by kernel_rfl) (by rw [key]), ?_⟩
      exact rk_refl 9990 9 47 _ (by kernel_rfl) W
    · refine ⟨.agg ((C30 hal opn dec).extract 28 30), Eq.trans (b := some (.agg ((yz ++ C30 hal opn dec).extract (184 + 28) (184 + 30)))) (by kernel_rfl) (by rw [key]), ?_⟩
      exact rk_refl 9990 9 48 _ (by kernel_rfl) W
theorem eq54 (age : Int) (f : Nat → Int) (mf : Option Addr) (W : World) : (binOp .eql 54 (.agg (A14 age f (.pointer mf))) (.agg (A14 age f (.pointer mf)))).run Yba.prog W = .ok (.bool true) W := by
  rw [run_eql_struct]
  cases mf
  · rw [show (10000 : Nat) = 9990 + 10 from rfl, rk_refl 9990 10 54 _ (by kernel_rfl) W]; rfl
  · rw [show (10000 : Nat) = 9990 + 10 from rfl, rk_refl 9990 10 54 _ (by kernel_rfl) W]; rfl
theorem eq30 (f : Nat → Int) (W : World) : (binOp .eql 30 (.agg (A12 f)) (.agg (A12 f))).run Yba.prog W = .ok (.bool true) W := by
  rw [run_eql_struct, show (10000 : Nat) = 9990 + 10 from rfl, rk_refl 9990 10 30 _ (by kernel_rfl) W]; rfl
theorem info57 : ∃ j, Yba.prog.info? 57 = some j := by
  have h : (Yba.prog.info? 57).isSome = true := by kernel_rfl
  exact Option.isSome_iff_exists.1 h
theorem eq52 (mf : Option Addr) (W : World) : (binOp .eql 52 (.pointer mf) (.pointer mf)).run Yba.prog W = .ok (.bool true) W := by
  obtain ⟨j, hj⟩ := info57
  cases mf with
  | none => kernel_rfl
  | some a => exact run_eql_ptr_same W a Yba.underlying52 hj

end Go.Proofs.Ybulkuvq
