/-
  'scan.LawS6368AWhole' (function 3): the nil slice; the long slice; the law.
-/
import Derived.Test.YbulkeavyLoopA
namespace Go.Proofs.Ybulkeavy
open Go.RowKit

set_option maxRecDepth 100000 in
set_option maxHeartbeats 1000000 in
theorem law_nil (hold : Int) (hh : Bool) (w : World) :
    Calls Yba.prog 3 #[.slice none 0 0, .int .i64 hold, .bool hh] w fun e w' => e = .returned (.bool true) ∧ Below w.heap.size w w' := by
  obtain ⟨i0, hi, hz0, hz1, hz2⟩ := info_parts info27
  have q : ∀ (w : World) (a : Option Addr) (n c n' c' : Nat), (binOp .neq 22 (.slice a n c) (.slice none n' c')).run Yba.prog w = .ok (.bool (!a.isNone)) w := fun w a n c n' c' => run_neq_slice_nil_any w 22 25 a n c n' c' Yba.underlying22
  have hcn := fun (w : World) (ty : TypeId) (a : Addr) (d c : Nat) => run_copy_nil (P := Yba.prog) w 23 23 ty 27 a d c Yba.underlying23 (by rw [size27]; rfl)
  go_enter Yba.func3, Yba.ntmps3
  go_wp2
  go_loopw [8] (fun i wr => i = .int .i64 0 ∧ w = wr) (fun _ _ => 0)
  case atStart => exact ⟨rfl, rfl⟩
  case round =>
    obtain ⟨rfl, rfl⟩ := hrel
    go_wp2_with (at_make; refine wpList_make_full _ rfl _ _ 23 rfl w.heap.size 27 i0 _ 6 Yba.underlying23 hi hz0 hz1 _ _ _ _ 0 rfl rfl rfl rfl (by rw [hz2]; omega) (by unfold maxLen; omega) (Nat.le_refl _) ?_)
    intro w3 hown hgrow
    have hb3 : Below w.heap.size w w3 := (Below.refl _ _).grown hgrow (Nat.le_refl _) (fun k h => by cases h)
    have ht3 : w3.there w.heap.size 0 (0 * 6) := there_own hown
    have hs3 : w.heap.size < w3.heap.size := (hown.lt w.heap.size rfl).2
    clear hown hgrow
    have hSt : StA w (w3.alloc (.cells #[.slice none 0 0, .int .i64 hold, .bool hh] 30)) 0 w.heap.size w3.heap.size 0 none [] hold hh :=
      st_startA (g1 := 0) (n := 0) (ao := none) (ys := []) (hold := hold) (hh := hh) (Below.refl _ _) (fun i x hx => by simp at hx) (fun h => absurd h (Nat.lt_irrefl _)) rfl hb3 ht3 hs3
    clear ht3 hs3 hb3
    go_wp2_with fail
    refine (market w3.heap.size 0 0 none [] _ hSt.f0 hSt.hao rfl (by omega) hSt.r1 (fun x hx => by cases hx)).mono ?_
    rintro e w6 ⟨rfl, hb6⟩
    have hS6 := hSt.below hb6
    clear hSt hb6
    have hmv : mval [] = 0 := rfl
    have hwh : whole [] = true := rfl
    go_wp2
    generalize w3.heap.size = fb at *
    go_loopw [13, 14, 15] (fun v ok i wq => i = .int .i64 0 ∧ v = .int .u64 0 ∧ ok = .bool true ∧ StA w wq 0 w.heap.size fb 0 none [] hold hh) (fun _ _ _ _ => 0)
    case atStart => exact ⟨rfl, rfl, rfl, hS6⟩
    case round =>
      clear hS6
      obtain ⟨rfl, rfl, rfl, hS⟩ := hrel
      have f0 := hS.f0
      have f1 := hS.f1
      have f2 := hS.f2
      have e4 : (hold != hold) = false := by simp
      have e5 : (hh != hh) = false := by simp
      go_wp2
      clear f0 f1 f2 e4 e5
      go_loopw [20] (fun i wq => i = .int .i64 0 ∧ StA w wq 0 w.heap.size fb 0 none [] hold hh) (fun _ _ => 0)
      case atStart => exact ⟨rfl, hS⟩
      case round =>
        clear hS
        obtain ⟨rfl, hS⟩ := hrel
        go_wp2
        go_ret
        exact ⟨rfl, hS.bel⟩

set_option maxRecDepth 100000 in
theorem law_longA (a : Option Addr) (len cap : Nat) (hold : Int) (hh : Bool) (w : World) (h : 1048576 < len) (hm : len ≤ maxLen) :
    Calls Yba.prog 3 #[.slice a len cap, .int .i64 hold, .bool hh] w fun e w' => e = .returned (.bool true) ∧ Below w.heap.size w w' := by
  unfold maxLen at hm
  go_enter Yba.func3, Yba.ntmps3
  go_wp2
  go_ret
  exact ⟨rfl, Below.refl _ _⟩

theorem lawA (a : Option Addr) (len cap : Nat) (xs : List Cls) (hold : Int) (hh : Bool) (w : World) (h : ClsRow w.heap.size w a len xs) (hc : a = none → cap = 0) (hm : len ≤ maxLen) :
    Calls Yba.prog 3 #[.slice a len cap, .int .i64 hold, .bool hh] w fun e w' => e = .returned (.bool true) ∧ Below w.heap.size w w' := by
  by_cases hl : len ≤ 1048576
  · cases a with
    | none =>
      obtain rfl : len = 0 := h.2.1 rfl
      obtain rfl : cap = 0 := hc rfl
      exact law_nil hold hh w
    | some x => exact law_some x len cap xs hold hh w h hl
  · exact law_longA a len cap hold hh w (by omega) hm
end Go.Proofs.Ybulkeavy
