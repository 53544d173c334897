/-
  'proxy.LawS6360CWhole' (function 4): the walk, out of the contracts of 'unquote' and of the model.
-/
import Derived.Test.YbulkearqUnquote
namespace Go.Proofs.Ybulkearq.Law
open Go.RowKit Go.Proofs.Ybulkearq.Plain Go.Proofs.Ybulkearq.Model Go.Proofs.Ybulkearq.Unquote

/-- 'unquote' and the model answer one and the same string. -/
theorem both (hWB : SaidByte) (hST : SaidString) (t : ByteArray) (ht : t.size ≤ 1048578) : ∃ r : ByteArray,
    (∀ w, Calls Yba.prog 11 #[.string t] w fun e w' => e = .returned (.string r) ∧ Below w.heap.size w w') ∧
    (∀ w, Calls Yba.prog 12 #[.string t] w fun e w' => e = .returned (.string r) ∧ Below w.heap.size w w') := by
  have same : ∀ (f : Nat) (w : World), (Calls Yba.prog f #[.string t] w fun e w' => e = .returned (.string t) ∧ w' = w) → Calls Yba.prog f #[.string t] w fun e w' => e = .returned (.string t) ∧ Below w.heap.size w w' :=
    fun f w h => h.mono fun e w' ⟨a, b⟩ => ⟨a, by rw [b]; exact Below.refl _ _⟩
  by_cases h2 : t.size < 2
  · exact ⟨t, fun w => same _ w (unquote_short t w h2), fun w => same _ w (model_short t w h2)⟩
  · have h2' : 2 ≤ t.size := by omega
    cases q0 : ((t[0].toNat : Int) != 34) with
    | true => exact ⟨t, fun w => same _ w (unquote_first t w h2' q0), fun w => same _ w (model_first t w h2' q0)⟩
    | false =>
      cases q1 : ((t[t.size - 1].toNat : Int) != 34) with
      | true => exact ⟨t, fun w => same _ w (unquote_last t w ht h2' q0 q1), fun w => same _ w (model_last t w ht h2' q0 q1)⟩
      | false => exact ⟨outOf t, fun w => unquote_quoted hWB hST t w ht h2' q0 q1, fun w => model_quoted t w ht h2' q0 q1⟩

theorem law_long (s : ByteArray) (b : Bool) (w : World) (h : 1048576 < s.size) :
    Calls Yba.prog 4 #[.string s, .bool b] w fun e w' => e = .returned (.bool true) ∧ Below w.heap.size w w' := by
  go_enter Yba.func4, Yba.ntmps4
  go_wp2
  go_ret
  exact ⟨rfl, Below.refl _ _⟩

set_option maxHeartbeats 400000 in
theorem law_plain (hWB : SaidByte) (hST : SaidString) (s : ByteArray) (w : World) (h : s.size ≤ 1048576) :
    Calls Yba.prog 4 #[.string s, .bool false] w fun e w' => e = .returned (.bool true) ∧ Below w.heap.size w w' := by
  obtain ⟨r, hU, hM⟩ := both hWB hST s (by omega)
  have HU : Hid (∀ w, Calls Yba.prog 11 #[.string s] w fun e w' => e = .returned (.string r) ∧ Below w.heap.size w w') := hU
  have HM : Hid (∀ w, Calls Yba.prog 12 #[.string s] w fun e w' => e = .returned (.string r) ∧ Below w.heap.size w w') := hM
  clear hU hM
  go_enter Yba.func4, Yba.ntmps4
  go_wp2_with fail
  refine (HU.out _).mono ?_
  rintro e w1 ⟨rfl, hb1⟩
  go_wp2_with fail
  refine (HM.out _).mono ?_
  rintro e w2 ⟨rfl, hb2⟩
  go_wp2
  go_ret
  exact ⟨by simp, hb1.trans (hb2.mono hb1.size)⟩

set_option maxHeartbeats 400000 in
theorem law_wrap (hWB : SaidByte) (hST : SaidString) (s : ByteArray) (w : World) (h : s.size ≤ 1048576) :
    Calls Yba.prog 4 #[.string s, .bool true] w fun e w' => e = .returned (.bool true) ∧ Below w.heap.size w w' := by
  have hz : (({ data := #[34] } : ByteArray) ++ s ++ { data := #[34] }).size ≤ 1048578 := by
    have e1 : ({ data := #[34] } : ByteArray).size = 1 := rfl
    rw [ByteArray.size_append, ByteArray.size_append, e1]
    omega
  obtain ⟨r, hU, hM⟩ := both hWB hST _ hz
  have HU : Hid (∀ w, Calls Yba.prog 11 #[.string ({ data := #[34] } ++ s ++ { data := #[34] })] w fun e w' => e = .returned (.string r) ∧ Below w.heap.size w w') := hU
  have HM : Hid (∀ w, Calls Yba.prog 12 #[.string ({ data := #[34] } ++ s ++ { data := #[34] })] w fun e w' => e = .returned (.string r) ∧ Below w.heap.size w w') := hM
  clear hU hM hz
  go_enter Yba.func4, Yba.ntmps4
  go_wp2_with fail
  refine (HU.out _).mono ?_
  rintro e w1 ⟨rfl, hb1⟩
  go_wp2_with fail
  refine (HM.out _).mono ?_
  rintro e w2 ⟨rfl, hb2⟩
  go_wp2
  go_ret
  exact ⟨by simp, hb1.trans (hb2.mono hb1.size)⟩

theorem law (hWB : SaidByte) (hST : SaidString) (s : ByteArray) (b : Bool) (w : World) :
    Calls Yba.prog 4 #[.string s, .bool b] w fun e w' => e = .returned (.bool true) ∧ Below w.heap.size w w' := by
  by_cases h : s.size ≤ 1048576
  · cases b with
    | true => exact law_wrap hWB hST s w h
    | false => exact law_plain hWB hST s w h
  · exact law_long s b w (by omega)
end Go.Proofs.Ybulkearq.Law
