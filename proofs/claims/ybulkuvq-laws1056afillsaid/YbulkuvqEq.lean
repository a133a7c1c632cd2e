import Derived.Test.YbulkuvqLoopC
import Derived.ChangeKeysEq
import Derived.LaidEqlPtr
namespace Go.Proofs.Ybulkuvq
open Go Go.RowKit
set_option linter.unusedVariables false

section
variable (P : Program)
/-- a part of a value, as the model cuts it out -/
def partOf (t : TypeId) (xs : Array Value) (off : Nat) : Option Value :=
  match P.underlying t, P.info? t with
  | some (.struct _), some i => some (.agg (xs.extract off (off + i.size)))
  | some (.array _ _), some i => some (.agg (xs.extract off (off + i.size)))
  | some .bool, _ => xs[off]?
  | some (.int _), _ => xs[off]?
  | some (.pointer _), _ => xs[off]?
  | _, _ => none
/-- a value of plain make: it is equal to itself -/
def rk : Nat → TypeId → Value → Bool
  | 0, _, _ => false
  | d + 1, t, v =>
    match P.underlying t, v with
    | some .bool, .bool _ => true
    | some (.int _), .int _ _ => true
    | some (.pointer _), .pointer none => true
    | some (.pointer e), .pointer (some _) => (P.info? e).isSome
    | some (.struct fs), .agg xs => !P.stoodInHeld t && fs.toList.all fun f => match partOf P f.type xs f.offset with
      | some y => rk d f.type y
      | none => false
    | some (.array n e), .agg xs => (P.info? e).isSome && (List.range n).all fun i => match partOf P e xs (i * P.cellsOf e) with
      | some y => rk d e y
      | none => false
    | _, _ => false
end
theorem part_run {P : Program} {t : TypeId} {xs : Array Value} {off : Nat} {v : Value} (h : partOf P t xs off = some v) (w : World) : (part t xs off).run P w = .ok v w := by
  unfold partOf at h
  split at h
  · rename_i hu hi; cases h; simp [part, isAgg, run_underlying hu, sizeOf, typeInfo, hi]
  · rename_i hu hi; cases h; simp [part, isAgg, run_underlying hu, sizeOf, typeInfo, hi]
  · rename_i hu; simp [part, isAgg, run_underlying hu, h]
  · rename_i hu; simp [part, isAgg, run_underlying hu, h]
  · rename_i hu; simp [part, isAgg, run_underlying hu, h]
  · cases h

theorem eqFields_refl {P : Program} (d : Nat) (xs : Array Value) (w : World) : ∀ fs : List Field, (∀ f ∈ fs, ∃ y, partOf P f.type xs f.offset = some y ∧ (Op.equalIn d f.type y y).run P w = .ok true w) → (Op.eqFields d xs xs fs).run P w = .ok true w
  | [], _ => by simp [Op.eqFields]
  | f :: fs, h => by
    have ih := eqFields_refl d xs w fs (fun g hg => h g (List.mem_cons_of_mem _ hg))
    obtain ⟨y, hy, he⟩ := h f (List.mem_cons_self ..)
    by_cases hn : f.name = "_"
    · simp [Op.eqFields, hn, ih]
    · simp [Op.eqFields, hn, part_run hy, he, ih]
theorem eqItems_refl {P : Program} (d : Nat) (e : TypeId) (n : Nat) (xs : Array Value) (w : World) : ∀ is : List Nat, (∀ i ∈ is, ∃ y, partOf P e xs (i * n) = some y ∧ (Op.equalIn d e y y).run P w = .ok true w) → (Op.eqItems d e n xs xs is).run P w = .ok true w
  | [], _ => by simp [Op.eqItems]
  | i :: is, h => by
    have ih := eqItems_refl d e n xs w is (fun g hg => h g (List.mem_cons_of_mem _ hg))
    obtain ⟨y, hy, he⟩ := h i (List.mem_cons_self ..)
    simp [Op.eqItems, part_run hy, he, ih]

theorem rk_refl {P : Program} (k : Nat) : ∀ (d : Nat) (t : TypeId) (v : Value), rk P d t v = true → ∀ w : World, (Op.equalIn (k + d) t v v).run P w = .ok true w
  | 0, _, _, h => by simp [rk] at h
  | d + 1, t, v, h => by
    intro w
    unfold rk at h
    rw [← Nat.add_assoc]
    split at h
    · rename_i b hu; simp [Op.equalIn, run_underlying hu]
    · rename_i b1 b2 b3 hu; simp [Op.equalIn, run_underlying hu]
    · rename_i hu; simp [Op.equalIn, run_underlying hu]
    · rename_i e a hu
      obtain ⟨j, hj⟩ := Option.isSome_iff_exists.1 h
      simp [Op.equalIn, run_underlying hu, sizeOf, typeInfo, hj, run_sameAddr_same]
    · rename_i fs xs hu
      simp only [Bool.and_eq_true, Bool.not_eq_true', List.all_eq_true] at h
      have hf : P.fieldsOf t = fs := by simp [Program.fieldsOf, hu]
      rw [run_equalIn_struct w (k + d) t xs xs (by rw [hf]; exact hu) h.1, hf]
      refine eqFields_refl _ _ _ _ fun f hf => ?_
      have := h.2 f hf
      split at this
      · rename_i y hy; exact ⟨y, hy, rk_refl k d _ _ this w⟩
      · cases this
    · rename_i n e xs hu
      simp only [Bool.and_eq_true, List.all_eq_true] at h
      obtain ⟨i, hi⟩ := Option.isSome_iff_exists.1 h.1
      rw [run_equalIn_array w (k + d) xs xs hu hi]
      refine eqItems_refl _ _ _ _ _ _ fun j hj => ?_
      have := h.2 j hj
      split at this
      · rename_i y hy; exact ⟨y, hy, rk_refl k d _ _ this w⟩
      · cases this
    · cases h
end Go.Proofs.Ybulkuvq
