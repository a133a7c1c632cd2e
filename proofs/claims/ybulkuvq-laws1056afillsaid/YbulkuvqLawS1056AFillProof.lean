/-
  The statement 'Rows.LawS1056AFillSaid', proved: the walk lies in YbulkuvqMain, the argument's opening in YbulkuvqOpen; the frame is the guide's.
-/
import Derived.Test.YbulkuvqOpen
import Derived.Test.YbulkuvqZero
import Derived.WalkKit
import Derived.ProofKit
import Derived.OpenShut
namespace Go.Proofs.Ybulkuvq.lawS1056AFill
open Go.ChangeShapes Go.WideShapes Go.ChangeAt Go.RowKit
set_option linter.unusedVariables false

theorem own : ownKnob Yba.prog.godebug = none := by kernel_rfl
theorem laid : laidOutB Yba.prog = true := by kernel_rfl

set_option maxRecDepth 100000 in
theorem lifted (os : Os) (started : os.Started) (H : Type) (enc : TypeId × Value → H) :
    ReturnsInHanded {} Yba.checked os 3 .any (Rows.lawS1056AFillSpec.pre6 enc Yba.prog Yba.f3 Rows.lawS1056AFillRow.domain false) (Rows.lawS1056AFillSpec.post enc Yba.prog Yba.f3 false true false false) := by
  refine returnsInHanded_of_change (C := Yba.checked) own started (by kernel_rfl) Yba.func3
    (ChangeSpec.witness6 (enc := enc) (C := Yba.checked) false ⟨#[], #[.agg #[.int .u8 0, .int .u8 0, .int .u8 0, .int .u32 0, .int .u32 0, .int .u32 0, .int .u32 0, .int .u32 0, .int .u32 0, .int .u32 0, .int .u32 0, .bool false, .bool false, .bool false, .bool false, .int .u8 0, .int .u8 0, .int .i64 0, .int .u8 0, .int .u8 0, .int .u8 0, .int .u8 0, .int .u8 0, .int .u8 0, .int .u8 0, .int .u8 0, .int .u8 0, .int .u8 0, .int .u8 0, .int .u8 0, .int .u8 0, .int .u8 0, .int .u8 0, .int .u8 0, .int .u8 0, .int .u8 0, .int .u8 0, .int .u8 0, .int .u8 0, .int .u8 0, .int .u8 0, .int .u8 0, .bool false, .int .i64 0, .int .u32 0, .int .u32 0]], []⟩ 8 (by kernel_rfl) (by kernel_rfl) (by kernel_rfl) (by kernel_rfl)) ?_
  intro W base args ds gs before hval0 hW hcnd _
  have hval : ∀ (j : Nat) t v, Yba.f3.params[j]? = some t → args[j]? = some v → Value.okWide Yba.prog W .any base t v := hval0
  have hW' := hW
  obtain ⟨p, q, hA0, hV, rfl, hfz, hnd⟩ := hW
  have hA : DataW.TrodAll enc Yba.prog W 0 (fun _ => true) true Yba.f3.params.toList args.toList ds p := hA0
  rw [Yba.params3] at hA hval
  obtain ⟨v0, vs0, d0, ds0, p0, q0, hargs, rfl, rfl, h0, r0⟩ := trodAll_cons hA
  obtain ⟨rfl, rfl, rfl⟩ := trodAll_nil r0
  obtain rfl : args = #[v0] := by cases args; simp_all
  obtain ⟨rfl, rfl⟩ := trodVars_none hV
  have hlt : ∀ x ∈ p0, x.block < W.heap.size := fun x hx => by simpa using hW'.lt x (by simpa using hx)
  obtain ⟨S, I, J, hal, opn, dec, age, wcv, cov, med, myr, cu, ac, bS, bI, bJ, bh, bd, bw, bc, bcu, bac, hv⟩ := open28 (hval 0 28 v0 rfl rfl)
  have bk : ∀ (W' : World), Below W.heap.size W W' → DataW.Trod enc Yba.prog W' 0 (fun b => decide (b < W.heap.size)) true 28 v0 d0 p0 :=
    fun W' hn => Below.trod laid (by kernel_rfl) (of_decide_eq_true (by kernel_rfl)) h0 hn hlt
  subst hv
  clear hA0 hval0
  obtain ⟨yz, y1, y2, y3, y4⟩ := zero50
  refine (main3 S I J hal opn dec age wcv cov med myr cu ac bS.1 bS.2 bI.1 bI.2 bJ.1 bJ.2 bh bd bw bc bcu.1 bcu.2 bac.1 bac.2 yz y1 y2 y3 y4 W).mono fun e W' ⟨he, hb⟩ => ?_
  subst he
  refine ⟨_, rfl, ⟨_, _, _, [], p0 ++ [], [], hW', (trodAll_cons_mk (shut_bool Yba.underlying4 _) trodAll_mk0), (trodAll_cons_mk (bk _ hb) trodAll_mk0), rfl, hb.frame _, fun h => by cases h⟩⟩

theorem over : Rows.lawS1056AFillRow.holds Yba.pinned (OpenSpec.ofChange Rows.lawS1056AFillSpec) :=
  OpenClaim.holds_of_wide 3 Yba.f3 rfl rfl rfl rfl rfl rfl rfl ⟨rfl, rfl, rfl, rfl, rfl⟩ rfl rfl rfl rfl rfl (by kernel_rfl) Yba.func3 (by kernel_rfl)
    (of_decide_eq_true (by kernel_rfl)) (by unfold Func.isWrapper; first | (rw [if_pos (by decide +kernel)]; kernel_rfl) | (rw [if_neg (by decide +kernel)]; exact ⟨rfl, rfl⟩))
    (fun os started H enc _ => lifted os started H enc)

theorem proved : Rows.LawS1056AFillSaid :=
  over
end Go.Proofs.Ybulkuvq.lawS1056AFill
namespace Go.Proofs.Ybulkuvq
theorem lawS1056AFill_proved : Rows.LawS1056AFillSaid := lawS1056AFill.proved
end Go.Proofs.Ybulkuvq
