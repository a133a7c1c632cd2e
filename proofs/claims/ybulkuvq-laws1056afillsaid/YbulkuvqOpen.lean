import Derived.Test.YbulkuvqMain
import Derived.ProofKit
namespace Go.Proofs.Ybulkuvq
open Go Go.RowKit
set_option linter.unusedVariables false

def ival : Option Value → Int
  | some (.int _ n) => n
  | _ => 0
def bval : Option Value → Bool
  | some (.bool b) => b
  | _ => false
theorem cell_int {P : Program} {w : World} {r : Reach} {base : Nat} {t : TypeId} {v : Value} {k : IntKind} (ht : P.underlying t = some (.int k)) (h : Cell.okWide P w r base t v) : v = .int k (ival (some v)) ∧ k.has (ival (some v)) := by
  simp only [Cell.okWide, ht] at h
  cases v <;> simp_all [Cell.ok, ival]
theorem cell_bool {P : Program} {w : World} {r : Reach} {base : Nat} {t : TypeId} {v : Value} (ht : P.underlying t = some .bool) (h : Cell.okWide P w r base t v) : v = .bool (bval (some v)) := by
  simp only [Cell.okWide, ht] at h
  cases v <;> simp_all [Cell.ok, bval]
def ts28 : List TypeId := [5, 5, 5, 22, 22, 22, 22, 22, 22, 22, 22, 4, 4, 4, 4, 5, 5, 3, 5, 5, 5, 5, 5, 5, 5, 5, 5, 5, 5, 5, 5, 5, 5, 5, 5, 5, 5, 5, 5, 5, 5, 5, 4, 3, 22, 22]
theorem types28 : Yba.prog.cellTypes Yba.prog.depth 28 = some ts28 := by kernel_rfl
theorem cells28 : Yba.prog.cellsOf 28 = 46 := by kernel_rfl

set_option maxRecDepth 100000 in
theorem open28 {W : World} {r : Reach} {base : Nat} {v : Value} (h : Value.okWide Yba.prog W r base 28 v) :
    ∃ (S I J : Int) (hal : Nat → Int) (opn : Nat → Bool) (dec : Nat → Int) (age : Int) (wcv cov : Nat → Int) (med : Bool) (myr cu ac : Int), (0 ≤ S ∧ S ≤ 255) ∧ (0 ≤ I ∧ I ≤ 255) ∧ (0 ≤ J ∧ J ≤ 255) ∧ (∀ k, 0 ≤ hal k ∧ hal k ≤ 4294967295) ∧ (∀ k, 0 ≤ dec k ∧ dec k ≤ 255) ∧ (∀ k, 0 ≤ wcv k ∧ wcv k ≤ 255) ∧ (∀ k, 0 ≤ cov k ∧ cov k ≤ 255) ∧ (0 ≤ cu ∧ cu ≤ 4294967295) ∧ (0 ≤ ac ∧ ac ≤ 4294967295) ∧ v = .agg #[.int .u8 S, .int .u8 I, .int .u8 J, .int .u32 (hal 0), .int .u32 (hal 1), .int .u32 (hal 2), .int .u32 (hal 3), .int .u32 (hal 4), .int .u32 (hal 5), .int .u32 (hal 6), .int .u32 (hal 7), .bool (opn 0), .bool (opn 1), .bool (opn 2), .bool (opn 3), .int .u8 (dec 0), .int .u8 (dec 1), .int .i64 age, .int .u8 (wcv 0), .int .u8 (wcv 1), .int .u8 (wcv 2), .int .u8 (wcv 3), .int .u8 (wcv 4), .int .u8 (wcv 5), .int .u8 (wcv 6), .int .u8 (wcv 7), .int .u8 (wcv 8), .int .u8 (wcv 9), .int .u8 (wcv 10), .int .u8 (wcv 11), .int .u8 (cov 0), .int .u8 (cov 1), .int .u8 (cov 2), .int .u8 (cov 3), .int .u8 (cov 4), .int .u8 (cov 5), .int .u8 (cov 6), .int .u8 (cov 7), .int .u8 (cov 8), .int .u8 (cov 9), .int .u8 (cov 10), .int .u8 (cov 11), .bool med, .int .i64 myr, .int .u32 cu, .int .u32 ac] := by
  simp only [Value.okWide, Yba.underlying28] at h
  obtain ⟨cs, rfl, hsz, ts, hts, _, hall⟩ := h
  rw [types28] at hts
  obtain rfl : ts28 = ts := Option.some.inj hts
  rw [cells28] at hsz
  have g : ∀ i, i < 46 → ∃ x u, cs[i]? = some x ∧ ts28[i]? = some u ∧ Cell.okWide Yba.prog W r base u x := by
    intro i hi
    obtain ⟨u, h1, h2⟩ := hall i cs[i] (Array.getElem?_eq_getElem (by omega))
    rw [show ts28.length = 46 from rfl, Nat.mod_eq_of_lt hi] at h1
    exact ⟨cs[i], u, Array.getElem?_eq_getElem (by omega), h1, h2⟩
  have N : ∀ (i : Nat) (t : TypeId) (k : IntKind), i < 46 → ts28[i]? = some t → Yba.prog.underlying t = some (.int k) → cs[i]? = some (.int k (ival cs[i]?)) ∧ k.has (ival cs[i]?) := by
    intro i t k hi ht hk
    obtain ⟨x, u, h1, h2, h3⟩ := g i hi
    obtain rfl : t = u := Option.some.inj (ht.symm.trans h2)
    rw [h1]
    obtain ⟨q1, q2⟩ := cell_int hk h3
    exact ⟨congrArg some q1, q2⟩
  have B : ∀ (i : Nat), i < 46 → ts28[i]? = some 4 → cs[i]? = some (.bool (bval cs[i]?)) := by
    intro i hi ht
    obtain ⟨x, u, h1, h2, h3⟩ := g i hi
    obtain rfl : 4 = u := Option.some.inj (ht.symm.trans h2)
    rw [h1]
    exact congrArg some (cell_bool Yba.underlying4 h3)
  have b8 : ∀ n : Int, IntKind.has .u8 n → 0 ≤ n ∧ n ≤ 255 := by
    intro n hn; simp [IntKind.has, IntKind.min, IntKind.max, IntKind.signed, IntKind.bits] at hn; omega
  have b32 : ∀ n : Int, IntKind.has .u32 n → 0 ≤ n ∧ n ≤ 4294967295 := by
    intro n hn; simp [IntKind.has, IntKind.min, IntKind.max, IntKind.signed, IntKind.bits] at hn; omega
  have t1 : ∀ k, k < 8 → ts28[3 + k]? = some 22 := by decide
  have t2 : ∀ k, k < 2 → ts28[15 + k]? = some 5 := by decide
  have t3 : ∀ k, k < 12 → ts28[18 + k]? = some 5 := by decide
  have t4 : ∀ k, k < 12 → ts28[30 + k]? = some 5 := by decide
  refine ⟨ival cs[0]?, ival cs[1]?, ival cs[2]?, fun k => ival cs[3 + k % 8]?, fun k => bval cs[11 + k]?, fun k => ival cs[15 + k % 2]?, ival cs[17]?, fun k => ival cs[18 + k % 12]?, fun k => ival cs[30 + k % 12]?, bval cs[42]?, ival cs[43]?, ival cs[44]?, ival cs[45]?,
    b8 _ (N 0 5 .u8 (by decide) rfl Yba.underlying5).2, b8 _ (N 1 5 .u8 (by decide) rfl Yba.underlying5).2, b8 _ (N 2 5 .u8 (by decide) rfl Yba.underlying5).2,
    fun k => b32 _ (N (3 + k % 8) 22 .u32 (by omega) (t1 _ (by omega)) Yba.underlying22).2, fun k => b8 _ (N (15 + k % 2) 5 .u8 (by omega) (t2 _ (by omega)) Yba.underlying5).2,
    fun k => b8 _ (N (18 + k % 12) 5 .u8 (by omega) (t3 _ (by omega)) Yba.underlying5).2, fun k => b8 _ (N (30 + k % 12) 5 .u8 (by omega) (t4 _ (by omega)) Yba.underlying5).2,
    b32 _ (N 44 22 .u32 (by decide) rfl Yba.underlying22).2, b32 _ (N 45 22 .u32 (by decide) rfl Yba.underlying22).2, ?_⟩
  congr 1
  apply Array.ext_getElem?
  intro i
  rcases Nat.lt_or_ge i 46 with hi | hi
  rotate_left
  · rw [Array.getElem?_eq_none (by omega), Array.getElem?_eq_none (show 46 ≤ i from hi)]
  match i, hi with
  | 0, _ => exact (N 0 5 .u8 (by decide) rfl Yba.underlying5).1
  | 1, _ => exact (N 1 5 .u8 (by decide) rfl Yba.underlying5).1
  | 2, _ => exact (N 2 5 .u8 (by decide) rfl Yba.underlying5).1
  | 3, _ => exact (N 3 22 .u32 (by decide) rfl Yba.underlying22).1
  | 4, _ => exact (N 4 22 .u32 (by decide) rfl Yba.underlying22).1
  | 5, _ => exact (N 5 22 .u32 (by decide) rfl Yba.underlying22).1
  | 6, _ => exact (N 6 22 .u32 (by decide) rfl Yba.underlying22).1
  | 7, _ => exact (N 7 22 .u32 (by decide) rfl Yba.underlying22).1
  | 8, _ => exact (N 8 22 .u32 (by decide) rfl Yba.underlying22).1
  | 9, _ => exact (N 9 22 .u32 (by decide) rfl Yba.underlying22).1
  | 10, _ => exact (N 10 22 .u32 (by decide) rfl Yba.underlying22).1
  | 11, _ => exact (B 11 (by decide) rfl)
  | 12, _ => exact (B 12 (by decide) rfl)
  | 13, _ => exact (B 13 (by decide) rfl)
  | 14, _ => exact (B 14 (by decide) rfl)
  | 15, _ => exact (N 15 5 .u8 (by decide) rfl Yba.underlying5).1
  | 16, _ => exact (N 16 5 .u8 (by decide) rfl Yba.underlying5).1
  | 17, _ => exact (N 17 3 .i64 (by decide) rfl Yba.underlying3).1
  | 18, _ => exact (N 18 5 .u8 (by decide) rfl Yba.underlying5).1
  | 19, _ => exact (N 19 5 .u8 (by decide) rfl Yba.underlying5).1
  | 20, _ => exact (N 20 5 .u8 (by decide) rfl Yba.underlying5).1
  | 21, _ => exact (N 21 5 .u8 (by decide) rfl Yba.underlying5).1
  | 22, _ => exact (N 22 5 .u8 (by decide) rfl Yba.underlying5).1
  | 23, _ => exact (N 23 5 .u8 (by decide) rfl Yba.underlying5).1
  | 24, _ => exact (N 24 5 .u8 (by decide) rfl Yba.underlying5).1
  | 25, _ => exact (N 25 5 .u8 (by decide) rfl Yba.underlying5).1
  | 26, _ => exact (N 26 5 .u8 (by decide) rfl Yba.underlying5).1
  | 27, _ => exact (N 27 5 .u8 (by decide) rfl Yba.underlying5).1
  | 28, _ => exact (N 28 5 .u8 (by decide) rfl Yba.underlying5).1
  | 29, _ => exact (N 29 5 .u8 (by decide) rfl Yba.underlying5).1
  | 30, _ => exact (N 30 5 .u8 (by decide) rfl Yba.underlying5).1
  | 31, _ => exact (N 31 5 .u8 (by decide) rfl Yba.underlying5).1
  | 32, _ => exact (N 32 5 .u8 (by decide) rfl Yba.underlying5).1
  | 33, _ => exact (N 33 5 .u8 (by decide) rfl Yba.underlying5).1
  | 34, _ => exact (N 34 5 .u8 (by decide) rfl Yba.underlying5).1
  | 35, _ => exact (N 35 5 .u8 (by decide) rfl Yba.underlying5).1
  | 36, _ => exact (N 36 5 .u8 (by decide) rfl Yba.underlying5).1
  | 37, _ => exact (N 37 5 .u8 (by decide) rfl Yba.underlying5).1
  | 38, _ => exact (N 38 5 .u8 (by decide) rfl Yba.underlying5).1
  | 39, _ => exact (N 39 5 .u8 (by decide) rfl Yba.underlying5).1
  | 40, _ => exact (N 40 5 .u8 (by decide) rfl Yba.underlying5).1
  | 41, _ => exact (N 41 5 .u8 (by decide) rfl Yba.underlying5).1
  | 42, _ => exact (B 42 (by decide) rfl)
  | 43, _ => exact (N 43 3 .i64 (by decide) rfl Yba.underlying3).1
  | 44, _ => exact (N 44 22 .u32 (by decide) rfl Yba.underlying22).1
  | 45, _ => exact (N 45 22 .u32 (by decide) rfl Yba.underlying22).1
  | n + 46, h => exact absurd h (by omega)
end Go.Proofs.Ybulkuvq
