/-
  '(*Writer).moveOffset' (function 6): the walk.
-/
import Derived.Test.YbulkeassRows
import Derived.Test.YbulkeassMem
import Derived.BigQuiet
import Derived.WalkSmall
import Derived.Lib.SliceRun
import Derived.Deep.QuietTactic
import Derived.Deep.DrawnRows
namespace Go.Proofs.Ybulkeass
open Go.RowKit
attribute [local go_sem ↓] Go.wp_at_zero Go.wp_at_succ

def isU32 : Value → Bool
  | .int .u32 _ => true
  | _ => false
def isIntV : Value → Bool
  | .int _ _ => true
  | _ => false
theorem size31 : (Yba.prog.info? 31).map (·.size) = some 16384 := by kernel_rfl
theorem size23 : (Yba.prog.info? 23).map (·.size) = some 1 := by kernel_rfl
theorem size3 : (Yba.prog.info? 3).map (·.size) = some 1 := by kernel_rfl
theorem run_index_seg {P : Program} (ty e : TypeId) (n : Nat) (k' : IntKind) (hu : P.underlying ty = some (.array n e)) (he : P.underlying e = some (.int k')) (hs1 : (P.info? e).map (·.size) = some 1) (c : Nat → Value) (o k : Nat) (hk : k < n) (w : World) : (Instr.index ty (.agg (seg c o n).toArray) (.int .i64 (k : Int))).run P w = .ok (c (o + k)) w := by
  have h1 : (isAgg e).run P w = .ok false w := by
    unfold isAgg
    rw [Sem.run_bind, run_underlying he w]
    rfl
  have hz : (sizeOf e).run P w = .ok 1 w := by
    cases hq : P.info? e with
    | none => simp [hq] at hs1
    | some i =>
      have hs : i.size = 1 := by simpa [hq] using hs1
      simp [sizeOf, typeInfo, hq, hs]
  have hs := seg_get c o n k hk
  simp [Instr.index, asIntOf, run_underlying hu w, part, hz, h1, hs]
  omega
theorem run_index31 (c : Nat → Value) (o k : Nat) (hk : k < 16384) (w : World) : (Instr.index 31 (.agg (seg c o 16384).toArray) (.int .i64 (k : Int))).run Yba.prog w = .ok (c (o + k)) w := run_index_seg 31 23 16384 .u32 Yba.underlying31 Yba.underlying23 size23 c o k hk w

set_option maxRecDepth 100000 in
theorem move_low (b : Nat) (c : Nat → Value) (off d : Int) (w : World) (hZ : w.rowIs b 47 20155 c) (ho : c 16389 = .int .i64 off) (h0 : 0 ≤ off) (h1 : 0 ≤ d) (h2 : off + d ≤ 1073741824) :
    Calls Yba.prog 6 #[.pointer (some ⟨b, 0, none⟩), .int .i64 d] w fun e w' => e = .returned (.tuple #[]) ∧ w'.rowIs b 47 20155 (upd c 16389 (.int .i64 (off + d))) ∧ But b w w' := by
  have k0 := hZ.cell (i := 16389) (by decide)
  rw [ho] at k0
  go_enter Yba.func6, Yba.ntmps6
  go_wp2_with (((with_reducible refine store1_g 3 16389 (.int .i64 (off + d)) hZ ?_ ?_ (by decide) size3 rfl ?_); (· rfl); (· go_num); intro w1 hZ1 hB1; have k1 := hZ1.cell (i := 16389) (by decide); rw [upd_same] at k1; clear k0))
  (try simp only [Exit.inBlock, Exit.then]); refine bodyPost_ret (results_none rfl _ _ _) rfl ?_
  exact ⟨rfl, hZ1, hB1⟩

/-- One cell of the table, taken down. -/
def mvv (D : Int) : Value → Value
  | .int .u32 n => .int .u32 (if D < n then IntKind.u32.wrap (n - D) else 0)
  | v => v

theorem But.trans {b : Nat} {u v w : World} (h : But b u v) (k : But b v w) : But b u w := ⟨k.size.trans h.size, fun i hi => (k.blk i hi).trans (h.blk i hi), h.bel.trans k.bel⟩

/-- The table half taken down. -/
structure Half (b : Nat) (c : Nat → Value) (off D : Int) (w wr : World) (k : Nat) (f : Nat → Value) : Prop where
  row : wr.rowIs b 47 20155 f
  but : But b w wr
  off : f 16389 = .int .i64 off
  done : ∀ i, i < k → f (5 + i) = mvv D (c (5 + i))
  left : ∀ i, k ≤ i → i < 16384 → f (5 + i) = c (5 + i)
  rest : ∀ j, j < 5 ∨ 16390 ≤ j → f j = c j
theorem Half.step {b : Nat} {c : Nat → Value} {off D : Int} {w wr w' : World} {k : Nat} {f g : Nat → Value} (h : Half b c off D w wr k f) (hk : k < 16384) (hr : w'.rowIs b 47 20155 g) (hb : But b wr w') (hg : g (5 + k) = mvv D (c (5 + k))) (ho : ∀ j, j ≠ 5 + k → g j = f j) : Half b c off D w w' (k + 1) g :=
  ⟨hr, h.but.trans hb, (ho _ (by omega)).trans h.off, fun i hi => by
    by_cases e : i = k
    · subst e; exact hg
    · rw [ho _ (by omega)]; exact h.done i (by omega), fun i h1 h2 => (ho _ (by omega)).trans (h.left i (by omega) h2), fun j hj => (ho _ (by omega)).trans (h.rest j hj)⟩

set_option maxRecDepth 100000 in
theorem move_high (b : Nat) (c : Nat → Value) (off d : Int) (w : World) (hZ : w.rowIs b 47 20155 c) (hh : ∀ i, i < 16384 → ∃ n : Int, c (5 + i) = .int .u32 n) (ho : c 16389 = .int .i64 off) (h2 : 1073741824 < off + d) (h3 : off + d ≤ 2147483648) :
    Calls Yba.prog 6 #[.pointer (some ⟨b, 0, none⟩), .int .i64 d] w fun e w' => e = .returned (.tuple #[]) ∧ ∃ c', w'.rowIs b 47 20155 c' ∧ But b w w' ∧ c' 16389 = .int .i64 1 ∧ (∀ i, i < 16384 → c' (5 + i) = mvv (off + d - 1) (c (5 + i))) ∧ ∀ j, j < 5 ∨ 16390 ≤ j → c' j = c j := by
  have k0 := hZ.cell (i := 16389) (by decide)
  rw [ho] at k0
  go_enter Yba.func6, Yba.ntmps6
  go_wp2_with (first
    | ((with_reducible refine store1_g 3 16389 (.int .i64 (off + d)) hZ ?_ ?_ (by decide) size3 rfl ?_); (· rfl); (· go_num); intro w1 hZ1 hB1; have k1 := hZ1.cell (i := 16389) (by decide); rw [upd_same] at k1; clear k0)
    | ((with_reducible refine load_g 31 5 16384 hZ1 ?_ (by decide) Yba.underlying31 rfl size31 ?_); (· rfl)))
  have hs0 : Half b c (off + d) (off + d - 1) w w1 0 (upd c 16389 (.int .i64 (off + d))) := ⟨hZ1, hB1, upd_same _ _ _, fun i hi => by omega, fun i _ _ => upd_other _ _ _ (by omega), fun j _ => upd_other _ _ _ (by omega)⟩
  have hseg : seg (upd c 16389 (.int .i64 (off + d))) 5 16384 = seg c 5 16384 := seg_congr fun i _ => upd_other _ _ _ (by omega)
  rw [hseg]
  clear hseg hZ1 hB1 k1
  go_loopw [30] (fun i wr => ∃ k : Nat, k ≤ 16384 ∧ i = .int .i64 k ∧ ∃ f, Half b c (off + d) (off + d - 1) w wr k f) (fun i _ => 16384 - (intOf i).toNat)
  case atStart => exact ⟨0, by omega, rfl, _, hs0⟩
  case round =>
    obtain ⟨k, hk, rfl, f, hH⟩ := hrel
    clear hs0
    by_cases hlt : k < 16384
    · obtain ⟨n, hn⟩ := hh k hlt
      have hix := run_index31 c 5 k hlt
      rw [hn] at hix
      have hr := hH.row
      by_cases hD : off + d - 1 < n
      · go_wp2_with (first
          | ((with_reducible refine store1_g 23 (5 + k) (.int .u32 0) hr ?_ ?_ (by omega) size23 rfl ?_); (· rfl); (· rfl); intro w2 hr2 hB2; clear hr)
          | ((with_reducible refine store1_g 23 (5 + k) (.int .u32 (IntKind.u32.wrap (n - (off + d - 1)))) hr2 ?_ ?_ (by omega) size23 rfl ?_); (· rfl); (· go_num); intro w3 hr3 hB3; clear hr2))
        exact ⟨⟨k + 1, by omega, by go_num, _, hH.step hlt hr3 (hB2.trans hB3) (by rw [upd_same, hn]; simp [mvv, hD]) fun j hj => by rw [upd_other _ _ _ hj, upd_other _ _ _ hj]⟩, by simp [intOf]; omega⟩
      · go_wp2_with (((with_reducible refine store1_g 23 (5 + k) (.int .u32 0) hr ?_ ?_ (by omega) size23 rfl ?_); (· rfl); (· rfl); intro w2 hr2 hB2; clear hr))
        exact ⟨⟨k + 1, by omega, by go_num, _, hH.step hlt hr2 hB2 (by rw [upd_same, hn]; simp [mvv, hD]) fun j hj => by rw [upd_other _ _ _ hj]⟩, by simp [intOf]; omega⟩
    · obtain rfl : k = 16384 := by omega
      have hr := hH.row
      go_wp2_with (((with_reducible refine store1_g 3 16389 (.int .i64 1) hr ?_ ?_ (by omega) size3 rfl ?_); (· rfl); (· rfl); intro w2 hr2 hB2))
      go_end0
      exact ⟨rfl, _, hr2, hH.but.trans hB2, upd_same _ _ _, fun i hi => (upd_other _ _ _ (by omega)).trans (hH.done i hi), fun j hj => (upd_other _ _ _ (by omega)).trans (hH.rest j hj)⟩

def newOff (off d : Int) : Int := if off + d ≤ 1073741824 then off + d else 1
def newH (off d : Int) (v : Value) : Value := if off + d ≤ 1073741824 then v else mvv (off + d - 1) v
theorem move_any (b : Nat) (c : Nat → Value) (off d : Int) (w : World) (hZ : w.rowIs b 47 20155 c) (hh : ∀ i, i < 16384 → ∃ n : Int, c (5 + i) = .int .u32 n) (ho : c 16389 = .int .i64 off) (h0 : 0 ≤ off) (h1 : 0 ≤ d) (h3 : off + d ≤ 2147483648) :
    Calls Yba.prog 6 #[.pointer (some ⟨b, 0, none⟩), .int .i64 d] w fun e w' => e = .returned (.tuple #[]) ∧ ∃ c', w'.rowIs b 47 20155 c' ∧ But b w w' ∧ c' 16389 = .int .i64 (newOff off d) ∧ (∀ i, i < 16384 → c' (5 + i) = newH off d (c (5 + i))) ∧ ∀ j, j < 5 ∨ 16390 ≤ j → c' j = c j := by
  by_cases h : off + d ≤ 1073741824
  · refine (move_low b c off d w hZ ho h0 h1 h).mono ?_
    rintro e w' ⟨rfl, hr, hb⟩
    exact ⟨rfl, _, hr, hb, by rw [upd_same]; simp [newOff, h], fun i hi => by rw [upd_other _ _ _ (by omega)]; simp [newH, h], fun j hj => upd_other _ _ _ (by omega)⟩
  · refine (move_high b c off d w hZ hh ho (by omega) h3).mono ?_
    rintro e w' ⟨rfl, c', hr, hb, h1, h2, h3⟩
    exact ⟨rfl, c', hr, hb, by rw [h1]; simp [newOff, h], fun i hi => by rw [h2 i hi]; simp [newH, h], h3⟩
end Go.Proofs.Ybulkeass
