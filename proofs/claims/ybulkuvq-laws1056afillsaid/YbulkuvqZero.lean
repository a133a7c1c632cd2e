import Derived.Test.YbulkuvqKp
import Derived.Laws.Tables
namespace Go.Proofs.Ybulkuvq
open Go Go.RowKit
set_option linter.unusedVariables false

theorem zero50 : ∃ yz : Array Value, yz.size = 184 ∧ (∀ W : World, (zeroValue 50).run Yba.prog W = .ok (.agg (yz ++ #[.int .i64 0, .int .u64 0, .int .i64 0, .int .i64 0, .int .u64 0, .int .i64 0, .int .i64 0, .int .u64 0, .int .i64 0, .int .i64 0, .int .u64 0, .int .i64 0, .int .i64 0, .int .u64 0, .int .i64 0, .int .i64 0, .int .u64 0, .int .i64 0, .int .i64 0, .int .u64 0, .int .i64 0, .int .i64 0, .int .u64 0, .int .i64 0, .bool false, .bool false, .bool false, .bool false, .int .i64 0, .int .i64 0])) W) ∧
    (∀ W : World, (Op.equalIn 9999 42 (.agg yz) (.agg yz)).run Yba.prog W = .ok true W) ∧ yz.all (·.oneCell') = true := by
  refine ⟨((((Yba.prog.info? 50).bind (·.zero)).map Value.cells).getD #[]).extract 0 184, ?_, ?_, ?_, ?_⟩
  · kernel_rfl
  · intro W; kernel_rfl
  · intro W; kernel_rfl
  · kernel_rfl
end Go.Proofs.Ybulkuvq
