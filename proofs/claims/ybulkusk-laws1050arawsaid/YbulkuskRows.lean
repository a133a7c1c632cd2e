/-
  No cell of these rows narrows 'for every input' (looked for: loops, veiled, ifaces, maps, wideKeys, modest, calm, conditions, laid).
  DERIVED. THE GIVEN ROWS OF THIS SEAT. 3 by the template 'for every input the law returns true; each argument reads behind the call as it read before'; 0 by the template 'total and deterministic' (their statements: YbulkuskTotals.lean).
  GIVEN WITH THE SEED: the statements are not yours to turn. If you find one false, say at which input.
  Laid BY PROGRAM, IN A SANDBOX (cutbox-rows.mjs): the forced cells as the released guide's own fill.sh prints them over the translation 0532c3797515f282… (all of the seat's roots in one cut). By AI agents, Wed Nov 11 2026. No macro, syntax, notation, axiom, sorry.
-/
import Derived.Test.YbulkuskChecked
import GoSem.Claim
import GoSem.ClaimJoined
import GoSem.ClaimMapViews
import Derived.JoinedTies
import Derived.KernelRfl
namespace Go.Proofs.Ybulkusk
/- THE CELL 'sum', in the pinned program and in every row, IS THE sha256 OF THE DUMP (.gsa) THAT YbulkuskProg.lean LOADS. Nothing in Lean hashes anything: it is a label: what it is worth is what the hold of that sum in a sandbox is worth. -/
noncomputable def Yba.pinned : Pinned := { name := "ybulkusk", sum := "0532c3797515f28279e20617c96ee014256bb076380f1a76cec92a76924f0ff8", checked := Yba.checked }
namespace Rows
def none {H : Type} : Left H := { results := [], args := [] }

/-- 'latchwork.LawS1050ARaw': WHATEVER THE INPUT: true; the input reads as it did. -/
def lawS1050ARawSpec : ChangeSpec := { name := "lawS1050ARaw", fn := fun _ => fun
  | [d1, d2] => { results := [.lit (.bool true)], args := [d1, d2] }
  | _ => none }
def lawS1050ARawRow : OpenClaim := { program := "ybulkusk", sum := "0532c3797515f28279e20617c96ee014256bb076380f1a76cec92a76924f0ff8", func := "example.com/latchwork/latchwork.LawS1050ARaw", spec := "lawS1050ARaw", inPlace := ["sync/atomic.StoreInt64", "sync/atomic.LoadUint32", "sync/atomic.CompareAndSwapUint32", "sync/atomic.StoreUint32", "runtime.Gosched", "sync/atomic.LoadPointer", "sync/atomic.CompareAndSwapPointer", "sync/atomic.CompareAndSwapInt64", "sync/atomic.LoadInt64", "sync/atomic.OrUint32", "sync/atomic.AndUint32"], unfollowed := true, recurses := true, apart := false }
def LawS1050ARawSaid : Prop := lawS1050ARawRow.holds Yba.pinned (OpenSpec.ofChange lawS1050ARawSpec)

/-- ITS FALSE NEIGHBOUR: 'it returns false'. Refute it at one input. -/
def lawS1050ARawWrong : ChangeSpec := { name := "lawS1050ARaw", fn := fun _ => fun
  | [d1, d2] => { results := [.lit (.bool false)], args := [d1, d2] }
  | _ => none }
def LawS1050ARawWrongFalsely : Prop := lawS1050ARawRow.holds Yba.pinned (OpenSpec.ofChange lawS1050ARawWrong)

/-- 'latchwork.LawS1050AParts': WHATEVER THE INPUT: true; the input reads as it did. -/
def lawS1050APartsSpec : ChangeSpec := { name := "lawS1050AParts", fn := fun _ => fun
  | [d1, d2, d3, d4] => { results := [.lit (.bool true)], args := [d1, d2, d3, d4] }
  | _ => none }
def lawS1050APartsRow : OpenClaim := { program := "ybulkusk", sum := "0532c3797515f28279e20617c96ee014256bb076380f1a76cec92a76924f0ff8", func := "example.com/latchwork/latchwork.LawS1050AParts", spec := "lawS1050AParts", inPlace := ["sync/atomic.StoreInt64", "sync/atomic.LoadUint32", "sync/atomic.CompareAndSwapUint32", "sync/atomic.StoreUint32", "runtime.Gosched", "sync/atomic.LoadPointer", "sync/atomic.CompareAndSwapPointer", "sync/atomic.CompareAndSwapInt64", "sync/atomic.LoadInt64", "sync/atomic.OrUint32", "sync/atomic.AndUint32"], unfollowed := true, recurses := true, apart := false }
def LawS1050APartsSaid : Prop := lawS1050APartsRow.holds Yba.pinned (OpenSpec.ofChange lawS1050APartsSpec)

/-- ITS FALSE NEIGHBOUR: 'it returns false'. Refute it at one input. -/
def lawS1050APartsWrong : ChangeSpec := { name := "lawS1050AParts", fn := fun _ => fun
  | [d1, d2, d3, d4] => { results := [.lit (.bool false)], args := [d1, d2, d3, d4] }
  | _ => none }
def LawS1050APartsWrongFalsely : Prop := lawS1050APartsRow.holds Yba.pinned (OpenSpec.ofChange lawS1050APartsWrong)

/-- 'latchwork.LawS1050BWake': WHATEVER THE INPUT: true; the input reads as it did. -/
def lawS1050BWakeSpec : ChangeSpec := { name := "lawS1050BWake", fn := fun _ => fun
  | [d1, d2, d3, d4] => { results := [.lit (.bool true)], args := [d1, d2, d3, d4] }
  | _ => none }
def lawS1050BWakeRow : OpenClaim := { program := "ybulkusk", sum := "0532c3797515f28279e20617c96ee014256bb076380f1a76cec92a76924f0ff8", func := "example.com/latchwork/latchwork.LawS1050BWake", spec := "lawS1050BWake", inPlace := ["sync/atomic.StoreInt64", "sync/atomic.LoadUint32", "sync/atomic.CompareAndSwapUint32", "sync/atomic.StoreUint32", "runtime.Gosched", "sync/atomic.LoadPointer", "sync/atomic.CompareAndSwapPointer", "sync/atomic.AddInt64", "sync/atomic.CompareAndSwapInt64", "sync/atomic.LoadInt64", "sync/atomic.OrUint32"], unfollowed := true, recurses := true, apart := false }
def LawS1050BWakeSaid : Prop := lawS1050BWakeRow.holds Yba.pinned (OpenSpec.ofChange lawS1050BWakeSpec)

/-- ITS FALSE NEIGHBOUR: 'it returns false'. Refute it at one input. -/
def lawS1050BWakeWrong : ChangeSpec := { name := "lawS1050BWake", fn := fun _ => fun
  | [d1, d2, d3, d4] => { results := [.lit (.bool false)], args := [d1, d2, d3, d4] }
  | _ => none }
def LawS1050BWakeWrongFalsely : Prop := lawS1050BWakeRow.holds Yba.pinned (OpenSpec.ofChange lawS1050BWakeWrong)

end Rows
end Go.Proofs.Ybulkusk
