/-
  No cell of these rows narrows 'for every input' (looked for: loops, veiled, ifaces, maps, wideKeys, modest, calm, conditions, laid).
  DERIVED. THE GIVEN ROWS OF THIS SEAT. 1 by the template 'for every input the law returns true; each argument reads behind the call as it read before'; 0 by the template 'total and deterministic' (their statements: YbulkuvqTotals.lean).
  GIVEN WITH THE SEED: the statements are not yours to turn. If you find one false, say at which input.
  Laid BY PROGRAM, IN A SANDBOX (cutbox-rows.mjs): the forced cells as the released guide's own fill.sh prints them over the translation d8ef5c2cae6717a0… (all of the seat's roots in one cut). By AI agents, Wed Nov 11 2026. No macro, syntax, notation, axiom, sorry.
-/
import Derived.Test.YbulkuvqChecked
import GoSem.Claim
import GoSem.ClaimJoined
import GoSem.ClaimMapViews
import Derived.JoinedTies
import Derived.KernelRfl
namespace Go.Proofs.Ybulkuvq
/- THE CELL 'sum', in the pinned program and in every row, IS THE sha256 OF THE DUMP (.gsa) THAT YbulkuvqProg.lean LOADS. Nothing in Lean hashes anything: it is a label: what it is worth is what the hold of that sum in a sandbox is worth. -/
noncomputable def Yba.pinned : Pinned := { name := "ybulkuvq", sum := "d8ef5c2cae6717a0ab1b2826c26d789686cd948253c12352ad67fe23a77dd2c7", checked := Yba.checked }
namespace Rows
def none {H : Type} : Left H := { results := [], args := [] }

/-- 'hedgewell.LawS1056AFill': WHATEVER THE INPUT: true; the input reads as it did. -/
def lawS1056AFillSpec : ChangeSpec := { name := "lawS1056AFill", fn := fun _ => fun
  | [d] => { results := [.lit (.bool true)], args := [d] }
  | _ => none }
def lawS1056AFillRow : OpenClaim := { program := "ybulkuvq", sum := "d8ef5c2cae6717a0ab1b2826c26d789686cd948253c12352ad67fe23a77dd2c7", func := "example.com/hedgewell/hedgewell.LawS1056AFill", spec := "lawS1056AFill", apart := false }
def LawS1056AFillSaid : Prop := lawS1056AFillRow.holds Yba.pinned (OpenSpec.ofChange lawS1056AFillSpec)

/-- ITS FALSE NEIGHBOUR: 'it returns false'. Refute it at one input. -/
def lawS1056AFillWrong : ChangeSpec := { name := "lawS1056AFill", fn := fun _ => fun
  | [d] => { results := [.lit (.bool false)], args := [d] }
  | _ => none }
def LawS1056AFillWrongFalsely : Prop := lawS1056AFillRow.holds Yba.pinned (OpenSpec.ofChange lawS1056AFillWrong)

end Rows
end Go.Proofs.Ybulkuvq
