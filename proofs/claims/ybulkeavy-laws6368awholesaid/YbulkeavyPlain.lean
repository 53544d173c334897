/-
  The plain law for 'scan.LawS6368AWhole': no Go in sight.
-/
namespace Go.Proofs.Ybulkeavy

/-- v + p, held at the largest int64 -/
def sat (v p : Int) : Int := if 9223372036854775807 - v < p then 9223372036854775807 else v + p

theorem sat_bd (v p : Int) (h0 : 0 ≤ v) (h1 : v ≤ 9223372036854775807) (hp : 0 ≤ p) : 0 ≤ sat v p ∧ sat v p ≤ 9223372036854775807 := by
  unfold sat; split <;> omega

theorem sat_over (v p : Int) (h : 9223372036854775807 - v < p) : sat v p = 9223372036854775807 := if_pos h
theorem sat_in (v p : Int) (h : ¬ 9223372036854775807 - v < p) : sat v p = v + p := if_neg h

/-- the test by division is the test by multiplication -/
theorem over_iff (m a b : Int) (ha : 0 < a) : m / a < b ↔ m < a * b := by
  rw [Int.ediv_lt_iff_lt_mul ha, Int.mul_comm]

theorem prod_nonneg (a b : Int) (ha : 0 ≤ a) (hb : 0 ≤ b) : 0 ≤ a * b := Int.mul_nonneg ha hb

/-- the test on the two halves of the 128-bit product -/
theorem halves (v : Int) (x y : Nat) (h0 : 0 ≤ v) (h1 : v ≤ 9223372036854775807) :
    (9223372036854775807 - v < ((x * y : Nat) : Int)) ↔ ((x * y / 18446744073709551616 : Nat) : Int) ≠ 0 ∨ 9223372036854775807 - v < ((x * y % 18446744073709551616 : Nat) : Int) := by
  generalize x * y = p
  omega
theorem low_is (v : Int) (x y : Nat) (h0 : 0 ≤ v) (h : ¬ 9223372036854775807 - v < ((x * y : Nat) : Int)) : ((x * y % 18446744073709551616 : Nat) : Int) = ((x * y : Nat) : Int) := by
  generalize x * y = p at *
  omega
end Go.Proofs.Ybulkeavy
