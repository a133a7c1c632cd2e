import Derived.Test.YbulkuvqRows
import Derived.WalkKit
import Derived.RegionTactic
import Derived.LoopN
import Derived.Below
import Derived.Laws.NewBlocks
import Derived.Laws.StructEq
namespace Go.Proofs.Ybulkuvq
open Go Go.RowKit

/-- x cents -/
abbrev M (x : Int) : Value := .agg #[.int .i64 0, .int .u64 x, .int .i64 0]

theorem money (x : Int) (h0 : 0 ≤ x) (h1 : x ≤ 4294967295) (w : World) :
    Calls Yba.prog 4 #[.int .u32 x] w fun e w' => e = .returned (M x) ∧ w' = w.alloc (.cells #[.int .i64 0, .int .u64 x, .int .i64 0] 36) := by
  go_enter Yba.func4, Yba.ntmps4
  go_wp2
  exact bodyPost_ret (v := M x) (by simp [results, Yba.results4, go_sem]) rfl ⟨rfl, rfl⟩
end Go.Proofs.Ybulkuvq
