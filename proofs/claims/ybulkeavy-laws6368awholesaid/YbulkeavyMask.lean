/-
  'x & math.MaxInt64' clears the sign bit: the answer lies between 0 and the largest int64.
-/
import Derived.Test.YbulkeavyStA
import Derived.Laws.Bits128
namespace Go.Proofs.Ybulkeavy
open Go.RowKit
theorem mask_is (n : Int) : bits .and .i64 n 9223372036854775807 = n % 9223372036854775808 := by
  have hm : (BitVec.ofInt 64 9223372036854775807).toNat = 2 ^ 63 - 1 := by decide
  have key : (BitVec.ofInt 64 n &&& BitVec.ofInt 64 9223372036854775807).toNat = (n % ((2 ^ 64 : Nat) : Int)).toNat % 2 ^ 63 := by
    rw [BitVec.toNat_and, BitVec.toNat_ofInt, hm, Nat.and_two_pow_sub_one_eq_mod]
  show IntKind.i64.wrap ((BitVec.ofInt 64 n &&& BitVec.ofInt 64 9223372036854775807).toNat : Nat) = n % 9223372036854775808
  rw [key, IntKind.wrap_i64]
  omega
theorem mask_bd (n : Int) : 0 ≤ mask n ∧ mask n ≤ 9223372036854775807 := by
  unfold mask
  rw [mask_is]
  omega
theorem good_mk (xs : List Cls) : Good (xs.map mk) := by
  intro y hy
  obtain ⟨x, _, rfl⟩ := List.mem_map.1 hy
  have h1 := mask_bd x.c
  have h2 := mask_bd x.s
  exact ⟨h1.1, h1.2, h2.1, h2.2⟩
end Go.Proofs.Ybulkeavy
