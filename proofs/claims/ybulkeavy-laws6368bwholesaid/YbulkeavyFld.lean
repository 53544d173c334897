/-
  'output.Int' (function 7), 'output.DatePair' (function 9), '(*run).figures' (function 11) by their contracts.
-/
import Derived.Test.YbulkeavyMid
import Derived.Test.YbulkeavyProg
import Derived.WalkSpells
namespace Go.Proofs.Ybulkeavy
open Go.RowKit

/-- output.Int's field, output.DatePair's field: seven cells -/
def fI (key : ByteArray) (n : Int) : List Value := [.string key, .string { data := #[110, 117, 109, 98, 101, 114] }, .string { data := #[] }, .string { data := #[105, 110, 116] }, .string { data := #[] }, .int .i64 n, .int .i64 0]
def fD (key : ByteArray) (d : Int) : List Value := [.string key, .string { data := #[112, 97, 105, 114] }, .string { data := #[] }, .string { data := #[100, 97, 116, 101] }, .string { data := #[] }, .int .i64 d, .int .i64 0]

set_option maxHeartbeats 400000 in
theorem int_any (key : ByteArray) (n : Int) (w : World) :
    Calls Yba.prog 7 #[.string key, .int .i64 n] w fun e w' => e = .returned (.agg #[.string key, .string { data := #[110, 117, 109, 98, 101, 114] }, .string { data := #[] }, .string { data := #[105, 110, 116] }, .string { data := #[] }, .int .i64 n, .int .i64 0]) ∧ Below w.heap.size w w' := by
  go_enter Yba.func7, Yba.ntmps7
  go_wp2
  refine bodyPost_ret (v := .agg #[.string key, .string { data := #[110, 117, 109, 98, 101, 114] }, .string { data := #[] }, .string { data := #[105, 110, 116] }, .string { data := #[] }, .int .i64 n, .int .i64 0]) (by simp [results, Yba.results7, go_sem]) rfl ⟨rfl, ?_⟩
  exact (Below.refl _ _).alloc (Nat.le_refl _) _

set_option maxHeartbeats 400000 in
theorem date_any (key : ByteArray) (d : Int) (w : World) (d0 : -2147483648 ≤ d) (d1 : d ≤ 2147483647) :
    Calls Yba.prog 9 #[.string key, .int .i32 d] w fun e w' => e = .returned (.agg #[.string key, .string { data := #[112, 97, 105, 114] }, .string { data := #[] }, .string { data := #[100, 97, 116, 101] }, .string { data := #[] }, .int .i64 d, .int .i64 0]) ∧ Below w.heap.size w w' := by
  go_enter Yba.func9, Yba.ntmps9
  go_wp2
  refine bodyPost_ret (v := .agg #[.string key, .string { data := #[112, 97, 105, 114] }, .string { data := #[] }, .string { data := #[100, 97, 116, 101] }, .string { data := #[] }, .int .i64 d, .int .i64 0]) (by simp [results, Yba.results9, go_sem]) rfl ⟨rfl, ?_⟩
  exact (Below.refl _ _).alloc (Nat.le_refl _) _

set_option maxHeartbeats 400000 in
theorem figures_any (rb : Nat) (days : Int) (w : World) (h4 : w.cell? ⟨rb, 4, none⟩ = some (.int .i64 days)) :
    Calls Yba.prog 11 #[.pointer (some ⟨rb, 0, none⟩)] w fun e w' => ∃ g, e = .returned (.slice (some ⟨g, 0, none⟩) 1 1) ∧ w'.heap[g]? = some (.cells #[.string { data := #[114, 117, 110] }, .string { data := #[110, 117, 109, 98, 101, 114] }, .string { data := #[] }, .string { data := #[105, 110, 116] }, .string { data := #[] }, .int .i64 days, .int .i64 0] 45 (0, 0)) ∧ w.heap.size ≤ g ∧ Below w.heap.size w w' := by
  go_enter Yba.func11, Yba.ntmps11
  go_wp2_with (go_at_call 7; refine (int_any _ _ _).mono ?_; rintro e w2 ⟨rfl, hb2⟩)
  go_ret
  exact ⟨w2.heap.size, rfl, heap_alloc_new _ _, hb2.size, hb2.alloc hb2.size _⟩
end Go.Proofs.Ybulkeavy
