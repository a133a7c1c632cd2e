/-
  No cell of these rows narrows 'for every input' (looked for: loops, veiled, ifaces, maps, wideKeys, modest, calm, conditions, laid).
  DERIVED. THE GIVEN ROWS OF THIS SEAT. 2 by the template 'for every input the law returns true; each argument reads behind the call as it read before'; 0 by the template 'total and deterministic' (their statements: YbulkuweTotals.lean).
  GIVEN WITH THE SEED: the statements are not yours to turn. If you find one false, say at which input.
  Laid BY PROGRAM, IN A SANDBOX (cutbox-rows.mjs): the forced cells as the released guide's own fill.sh prints them over the translation 8fa59ec670452a9b… (all of the seat's roots in one cut). By AI agents, Wed Nov 11 2026. No macro, syntax, notation, axiom, sorry.
-/
import Derived.Test.YbulkuweChecked
import GoSem.Claim
import GoSem.ClaimJoined
import GoSem.ClaimMapViews
import Derived.JoinedTies
import Derived.KernelRfl
namespace Go.Proofs.Ybulkuwe
/- THE CELL 'sum', in the pinned program and in every row, IS THE sha256 OF THE DUMP (.gsa) THAT YbulkuweProg.lean LOADS. Nothing in Lean hashes anything: it is a label: what it is worth is what the hold of that sum in a sandbox is worth. -/
noncomputable def Yba.pinned : Pinned := { name := "ybulkuwe", sum := "8fa59ec670452a9b189e54c54e4e220e4e00dd960514a155b5c6290f2fb13a95", checked := Yba.checked }
namespace Rows
def none {H : Type} : Left H := { results := [], args := [] }

/-- 'lacuna.LawS1057CExact': WHATEVER THE INPUT: true; the input reads as it did. -/
def lawS1057CExactSpec : ChangeSpec := { name := "lawS1057CExact", fn := fun _ => fun
  | [d1, d2] => { results := [.lit (.bool true)], args := [d1, d2] }
  | _ => none }
def lawS1057CExactRow : OpenClaim := { program := "ybulkuwe", sum := "8fa59ec670452a9b189e54c54e4e220e4e00dd960514a155b5c6290f2fb13a95", func := "example.com/lacuna/lacuna.LawS1057CExact", spec := "lawS1057CExact", apart := false }
def LawS1057CExactSaid : Prop := lawS1057CExactRow.holds Yba.pinned (OpenSpec.ofChange lawS1057CExactSpec)

/-- ITS FALSE NEIGHBOUR: 'it returns false'. Refute it at one input. -/
def lawS1057CExactWrong : ChangeSpec := { name := "lawS1057CExact", fn := fun _ => fun
  | [d1, d2] => { results := [.lit (.bool false)], args := [d1, d2] }
  | _ => none }
def LawS1057CExactWrongFalsely : Prop := lawS1057CExactRow.holds Yba.pinned (OpenSpec.ofChange lawS1057CExactWrong)

/-- 'lacuna.LawS1057CFull': WHATEVER THE INPUT: true; the input reads as it did. -/
def lawS1057CFullSpec : ChangeSpec := { name := "lawS1057CFull", fn := fun _ => fun
  | [d] => { results := [.lit (.bool true)], args := [d] }
  | _ => none }
def lawS1057CFullRow : OpenClaim := { program := "ybulkuwe", sum := "8fa59ec670452a9b189e54c54e4e220e4e00dd960514a155b5c6290f2fb13a95", func := "example.com/lacuna/lacuna.LawS1057CFull", spec := "lawS1057CFull", apart := false }
def LawS1057CFullSaid : Prop := lawS1057CFullRow.holds Yba.pinned (OpenSpec.ofChange lawS1057CFullSpec)

/-- ITS FALSE NEIGHBOUR: 'it returns false'. Refute it at one input. -/
def lawS1057CFullWrong : ChangeSpec := { name := "lawS1057CFull", fn := fun _ => fun
  | [d] => { results := [.lit (.bool false)], args := [d] }
  | _ => none }
def LawS1057CFullWrongFalsely : Prop := lawS1057CFullRow.holds Yba.pinned (OpenSpec.ofChange lawS1057CFullWrong)

end Rows
end Go.Proofs.Ybulkuwe
