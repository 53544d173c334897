/-
  'scan.addProduct' (function 10) by its contract.
-/
import Derived.Test.YbulkeavyProg
import Derived.Test.YbulkeavyPlain
import Derived.WalkKit
import Derived.WalkSpells
namespace Go.Proofs.Ybulkeavy
open Go.RowKit

theorem addProduct (s a b : Int) (w : World) (s0 : 0 ≤ s) (s1 : s ≤ 9223372036854775807) (a0 : 0 ≤ a) (a1 : a ≤ 9223372036854775807) (b0 : 0 ≤ b) :
    Calls Yba.prog 10 #[.int .i64 s, .int .i64 a, .int .i64 b] w fun e w' => e = .returned (.int .i64 (sat s (a * b))) ∧ w' = w := by
  have hp := prod_nonneg a b a0 b0
  by_cases hz : a = 0
  · subst hz
    have e : sat s (0 * b) = s := by rw [Int.zero_mul, sat_in _ _ (by omega)]; omega
    rw [e]
    clear e hp
    have hb : ((0 : Int) != 0) = false := by decide
    go_enter Yba.func10, Yba.ntmps10
    go_wp2
    go_ret
    exact ⟨by simp, rfl⟩
  · have ha : 0 < a := by omega
    have hne : (a != 0) = true := by simpa using hz
    have hiff := over_iff (9223372036854775807 - s) a b ha
    by_cases ho : (9223372036854775807 - s) / a < b
    · rw [sat_over _ _ (hiff.1 ho)]
      clear hiff hp hz
      go_enter Yba.func10, Yba.ntmps10
      go_wp2
      go_ret
      exact ⟨rfl, rfl⟩
    · have hle : ¬ 9223372036854775807 - s < a * b := fun h => ho (hiff.2 h)
      rw [sat_in _ _ hle]
      have hd : decide ((9223372036854775807 - s) / a < b) = false := by simpa using ho
      have m1 : a * b ≤ 9223372036854775807 - s := by omega
      clear hiff hz hle ho
      go_enter Yba.func10, Yba.ntmps10
      go_wp2
      go_ret
      exact ⟨rfl, rfl⟩
end Go.Proofs.Ybulkeavy
