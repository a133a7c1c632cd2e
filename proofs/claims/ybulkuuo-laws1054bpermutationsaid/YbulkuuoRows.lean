/-
  No cell of these rows narrows 'for every input' (looked for: loops, veiled, ifaces, maps, wideKeys, modest, calm, conditions, laid).
  DERIVED. THE GIVEN ROWS OF THIS SEAT. 2 by the template 'for every input the law returns true; each argument reads behind the call as it read before'; 0 by the template 'total and deterministic' (their statements: YbulkuuoTotals.lean).
  GIVEN WITH THE SEED: the statements are not yours to turn. If you find one false, say at which input.
  Laid BY PROGRAM, IN A SANDBOX (cutbox-rows.mjs): the forced cells as the released guide's own fill.sh prints them over the translation 2484465bbdc86be8… (all of the seat's roots in one cut). By AI agents, Wed Nov 11 2026. No macro, syntax, notation, axiom, sorry.
-/
import Derived.Test.YbulkuuoChecked
import GoSem.Claim
import GoSem.ClaimJoined
import GoSem.ClaimMapViews
import Derived.JoinedTies
import Derived.KernelRfl
namespace Go.Proofs.Ybulkuuo
/- THE CELL 'sum', in the pinned program and in every row, IS THE sha256 OF THE DUMP (.gsa) THAT YbulkuuoProg.lean LOADS. Nothing in Lean hashes anything: it is a label: what it is worth is what the hold of that sum in a sandbox is worth. -/
noncomputable def Yba.pinned : Pinned := { name := "ybulkuuo", sum := "2484465bbdc86be8f77fb1472ccd4e8e812591ba6b794999b79ddd718bf31743", checked := Yba.checked }
namespace Rows
def none {H : Type} : Left H := { results := [], args := [] }

/-- 'script.LawS1054BOrder': WHATEVER THE INPUT: true; the input reads as it did. -/
def lawS1054BOrderSpec : ChangeSpec := { name := "lawS1054BOrder", fn := fun _ => fun
  | [d] => { results := [.lit (.bool true)], args := [d] }
  | _ => none }
def lawS1054BOrderRow : OpenClaim := { program := "ybulkuuo", sum := "2484465bbdc86be8f77fb1472ccd4e8e812591ba6b794999b79ddd718bf31743", func := "example.com/larder/larder/script.LawS1054BOrder", spec := "lawS1054BOrder", apart := false }
def LawS1054BOrderSaid : Prop := lawS1054BOrderRow.holds Yba.pinned (OpenSpec.ofChange lawS1054BOrderSpec)

/-- ITS FALSE NEIGHBOUR: 'it returns false'. Refute it at one input. -/
def lawS1054BOrderWrong : ChangeSpec := { name := "lawS1054BOrder", fn := fun _ => fun
  | [d] => { results := [.lit (.bool false)], args := [d] }
  | _ => none }
def LawS1054BOrderWrongFalsely : Prop := lawS1054BOrderRow.holds Yba.pinned (OpenSpec.ofChange lawS1054BOrderWrong)

/-- 'script.LawS1054BPermutation': WHATEVER THE INPUT: true; the input reads as it did. -/
def lawS1054BPermutationSpec : ChangeSpec := { name := "lawS1054BPermutation", fn := fun _ => fun
  | [d] => { results := [.lit (.bool true)], args := [d] }
  | _ => none }
def lawS1054BPermutationRow : OpenClaim := { program := "ybulkuuo", sum := "2484465bbdc86be8f77fb1472ccd4e8e812591ba6b794999b79ddd718bf31743", func := "example.com/larder/larder/script.LawS1054BPermutation", spec := "lawS1054BPermutation", apart := false }
def LawS1054BPermutationSaid : Prop := lawS1054BPermutationRow.holds Yba.pinned (OpenSpec.ofChange lawS1054BPermutationSpec)

/-- ITS FALSE NEIGHBOUR: 'it returns false'. Refute it at one input. -/
def lawS1054BPermutationWrong : ChangeSpec := { name := "lawS1054BPermutation", fn := fun _ => fun
  | [d] => { results := [.lit (.bool false)], args := [d] }
  | _ => none }
def LawS1054BPermutationWrongFalsely : Prop := lawS1054BPermutationRow.holds Yba.pinned (OpenSpec.ofChange lawS1054BPermutationWrong)

end Rows
end Go.Proofs.Ybulkuuo
