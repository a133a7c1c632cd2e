import Derived.Laws.BitsLemmas
import Derived.Laws.Bits64
import Derived.RowKit
namespace Go.Proofs.Ybulkusk.Bit
open Go Go.RowKit

/-- the 64 bits of a number -/
def n64 (s : Int) : Nat := (s % 18446744073709551616).toNat

theorem tn (s : Int) : (BitVec.ofInt 64 s).toNat = n64 s := by
  rw [BitVec.toNat_ofInt]; rfl

theorem and_i64 (s y : Int) : bits .and .i64 s y = IntKind.i64.wrap ((n64 s &&& n64 y : Nat) : Int) := by
  show IntKind.i64.wrap (((BitVec.ofInt 64 s &&& BitVec.ofInt 64 y).toNat : Nat) : Int) = _
  rw [BitVec.toNat_and, tn, tn]
theorem or_i64 (s y : Int) : bits .or .i64 s y = IntKind.i64.wrap ((n64 s ||| n64 y : Nat) : Int) := by
  show IntKind.i64.wrap (((BitVec.ofInt 64 s ||| BitVec.ofInt 64 y).toNat : Nat) : Int) = _
  rw [BitVec.toNat_or, tn, tn]
theorem andNot_i64 (s y : Int) : bits .andNot .i64 s y = IntKind.i64.wrap ((n64 s &&& (2 ^ 64 - 1 - n64 y) : Nat) : Int) := by
  show IntKind.i64.wrap (((BitVec.ofInt 64 s &&& ~~~ BitVec.ofInt 64 y).toNat : Nat) : Int) = _
  rw [BitVec.toNat_and, BitVec.toNat_not, tn, tn]

theorem n64_1 : n64 1 = 1 := by decide
theorem n64_m : n64 2147483647 = 2 ^ 31 - 1 := by decide

theorem and_one (s : Int) : bits .and .i64 s 1 = s % 2 := by
  rw [and_i64, n64_1, Nat.and_one_is_mod, IntKind.wrap_i64]
  unfold n64; omega
theorem and_mask (s : Int) : bits .and .i64 s 2147483647 = s % 2147483648 := by
  rw [and_i64, n64_m, Nat.and_two_pow_sub_one_eq_mod, IntKind.wrap_i64]
  unfold n64; omega
theorem nat_or_one (n : Nat) (h : n % 2 = 0) : n ||| 1 = n + 1 := by
  have e := Nat.two_pow_add_eq_or_of_lt (i := 1) (b := 1) (by decide) (n / 2)
  have e2 : 2 ^ 1 * (n / 2) = n := by omega
  rw [e2] at e; exact e.symm
theorem or_one (s : Int) (h0 : -9223372036854775808 ≤ s) (h1 : s ≤ 9223372036854775807) (h : s % 2 = 0) : bits .or .i64 s 1 = s + 1 := by
  rw [or_i64, n64_1, nat_or_one _ (by unfold n64; omega), IntKind.wrap_i64]
  unfold n64; omega
theorem nat_andNot_one (n : Nat) (hn : n < 2 ^ 64) (h : n % 2 = 1) : n &&& (2 ^ 64 - 1 - 1) = n - 1 := by
  have e1 : (n &&& (2 ^ 64 - 1 - 1)) / 2 = n / 2 := by
    rw [Nat.and_div_two, show (2 ^ 64 - 1 - 1) / 2 = 2 ^ 63 - 1 by decide, Nat.and_two_pow_sub_one_eq_mod]
    omega
  have e2 : ¬ (n &&& (2 ^ 64 - 1 - 1)) % 2 = 1 := by
    rw [Nat.and_mod_two_eq_one]; rintro ⟨_, h⟩; revert h; decide
  omega
theorem andNot_one (s : Int) (h0 : -9223372036854775808 ≤ s) (h1 : s ≤ 9223372036854775807) (h : s % 2 = 1) : bits .andNot .i64 s 1 = s - 1 := by
  rw [andNot_i64, n64_1, nat_andNot_one _ (by unfold n64; omega) (by unfold n64; omega), IntKind.wrap_i64]
  unfold n64; omega
theorem or_join (x y : Int) (hx : 0 ≤ x) (hx1 : x < 2147483648) (hy : 0 ≤ y) (hy1 : y < 2147483648) : bits .or .i64 (x * 2147483648) y = x * 2147483648 + y := by
  have e : n64 (x * 2147483648) ||| n64 y = n64 (x * 2147483648) + n64 y := by
    have e := Nat.two_pow_add_eq_or_of_lt (i := 31) (b := n64 y) (by unfold n64; omega) x.toNat
    have e2 : 2 ^ 31 * x.toNat = n64 (x * 2147483648) := by unfold n64; omega
    rw [e2] at e; exact e.symm
  rw [or_i64, e, IntKind.wrap_i64]
  unfold n64; omega
theorem u32_mask31 (a : Int) (h0 : 0 ≤ a) (h1 : a ≤ 4294967295) : bits .and .u32 a 2147483647 = a % 2147483648 :=
  bits_mask .u32 32 (by decide) (fun n h0 h1 => by rw [IntKind.wrap_u32]; omega) 31 (by decide) a h0 (by omega)
theorem u32_mask30 (a : Int) (h0 : 0 ≤ a) (h1 : a ≤ 4294967295) : bits .and .u32 a 1073741823 = a % 1073741824 :=
  bits_mask .u32 32 (by decide) (fun n h0 h1 => by rw [IntKind.wrap_u32]; omega) 30 (by decide) a h0 (by omega)
end Go.Proofs.Ybulkusk.Bit
