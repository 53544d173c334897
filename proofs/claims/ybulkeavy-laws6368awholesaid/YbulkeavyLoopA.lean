/-
  'scan.LawS6368AWhole' (function 3): the walk.
-/
import Derived.Test.YbulkeavyMask
import Derived.BigQuiet
import Derived.Deep.QuietTactic
import Derived.WalkSmall
import Derived.Deep.RegionHeld3
import Derived.Deep.DrawnRows
import Derived.Lib.SliceRun
namespace Go.Proofs.Ybulkeavy
open Go.RowKit
attribute [local go_sem ↓] Go.wp_at_zero Go.wp_at_succ

theorem info27 : (Yba.prog.info? 27).map (fun i => (i.zero, i.size, i.bytes)) = some (some (.agg #[.bool false, .int .i64 0, .int .i64 0, .bool false, .int .i64 0, .bool false]), 6, 48) := by kernel_rfl

/-- WHAT IS TOLD OF THE SLICE THAT CAME IN: nil; empty; or a row of 'xs', each six cells, below block B. -/
def ClsRow (B : Nat) (w : World) (a : Option Addr) (len : Nat) (xs : List Cls) : Prop :=
  xs.length = len ∧ (a = none → len = 0) ∧ (0 < len → ∃ b off, a = some ⟨b, off, none⟩ ∧ b < B ∧ ∀ i x, xs[i]? = some x → w.rangeAt b (off + i * 6) (z6 x))

theorem there_at {w : World} {b o n : Nat} (h : w.there b o n) (j : Nat) (hj : j < n) : (∃ v, w.cell? ⟨b, o + j, none⟩ = some v) ∧ w.frozen? ⟨b, o + j, none⟩ = false :=
  ⟨Option.isSome_iff_exists.1 (h j hj).1, (h j hj).2⟩

theorem size_drew (w : World) : w.drew.heap.size = w.heap.size := rfl
theorem step_rows6 (k len : Nat) (xs : List Cls) (x : Cls) (wr : World) (g : Nat) (hlt : k < len) (HT : xs[k]? = some x) (HR : ∀ j x, j < k → xs[j]? = some x → wr.rangeAt g (j * 6) (z6 (mk x)))
    (hsz : g < wr.heap.size) (hth : wr.there g 0 (len * 6)) :
    (wr.setCells g (k * 6) (z6 (mk x))).drew.there g 0 (len * 6) ∧ (∀ j x', j < k + 1 → xs[j]? = some x' → (wr.setCells g (k * 6) (z6 (mk x))).drew.rangeAt g (j * 6) (z6 (mk x'))) ∧ g < (wr.setCells g (k * 6) (z6 (mk x))).drew.heap.size := by
  refine ⟨(World.there_drew _ _ _ _).2 (World.there_setCells hth _ _ _), ?_, ?_⟩
  · intro j u hj hu
    refine (World.rangeAt_drew _ _ _ _).2 ?_
    by_cases hjk : j = k
    · subst hjk
      rw [hu] at HT
      cases HT
      exact World.rangeAt_setCells_same _ _ _ _ (there_sub hth (by rw [len_z6]; omega))
    · exact World.rangeAt_setCells_apart (HR j u (by omega) hu) _ _ _ (by rw [len_z6, len_z6]; omega)
  · rw [size_drew, size_setCells]; exact hsz

theorem size27 : (Yba.prog.info? 27).map (·.size) = some 6 := by kernel_rfl
theorem rows_map {wr : World} {g len k : Nat} {xs : List Cls} (hl : xs.length = len) (hk : len ≤ k) (h : ∀ j x, j < k → xs[j]? = some x → wr.rangeAt g (j * 6) (z6 (mk x))) : Rows6 wr g (xs.map mk) := by
  intro i y hy
  rw [List.getElem?_map] at hy
  obtain ⟨x, hx, rfl⟩ := Option.map_eq_some_iff.1 hy
  exact h i x (by have := (List.getElem?_eq_some_iff.1 hx).1; omega) hx

set_option maxRecDepth 100000 in
set_option maxHeartbeats 1000000 in
theorem law_some (x : Addr) (len cap : Nat) (xs : List Cls) (hold : Int) (hh : Bool) (w : World) (h : ClsRow w.heap.size w (some x) len xs) (hlen : len ≤ 1048576) :
    Calls Yba.prog 3 #[.slice (some x) len cap, .int .i64 hold, .bool hh] w fun e w' => e = .returned (.bool true) ∧ Below w.heap.size w w' := by
  obtain ⟨i0, hi, hz0, hz1, hz2⟩ := info_parts info27
  have hd : decide ((1048576 : Int) < (len : Int)) = false := by simp; omega
  have q : ∀ (w : World) (a : Option Addr) (n c n' c' : Nat), (binOp .neq 22 (.slice a n c) (.slice none n' c')).run Yba.prog w = .ok (.bool (!a.isNone)) w := fun w a n c n' c' => run_neq_slice_nil_any w 22 25 a n c n' c' Yba.underlying22
  go_enter Yba.func3, Yba.ntmps3
  go_wp2_with (at_make; refine wpList_make_full _ rfl _ _ 23 rfl w.heap.size 27 i0 _ 6 Yba.underlying23 hi hz0 hz1 _ _ _ _ len rfl rfl rfl rfl (by rw [hz2]; omega) (by unfold maxLen; omega) (Nat.le_refl _) ?_)
  intro w1 hown hgrow
  have hb1 : Below w.heap.size w w1 := (Below.refl _ _).grown hgrow (Nat.le_refl _) (fun k h => by cases h)
  have ht1 : w1.there w.heap.size 0 (len * 6) := there_own hown
  have hs1 : w.heap.size < w1.heap.size := (hown.lt w.heap.size rfl).2
  clear hown hgrow
  go_wp2
  go_loopw [8] (fun i wr => ∃ k : Nat, k ≤ len ∧ i = .int .i64 k ∧ wr.there w.heap.size 0 (len * 6) ∧ (∀ j x, j < k → xs[j]? = some x → wr.rangeAt w.heap.size (j * 6) (z6 (mk x))) ∧ Below w.heap.size w wr ∧ w.heap.size < wr.heap.size)
    (fun i _ => len - (intOf i).toNat)
  case atStart => exact ⟨0, Nat.zero_le _, rfl, ht1, fun j t hj => absurd hj (Nat.not_lt_zero _), hb1, hs1⟩
  case round =>
    obtain ⟨k, hk, rfl, hth, hrows, hb, hsz⟩ := hrel
    clear ht1 hb1 hs1
    by_cases hlt : k < len
    · obtain ⟨b, off, hx, hbB, hr⟩ := h.2.2 (by omega)
      obtain rfl : x = ⟨b, off, none⟩ := by simpa using hx
      clear hx
      obtain ⟨x', ht⟩ : ∃ t, xs[k]? = some t := ⟨_, List.getElem?_eq_getElem (by rw [h.1]; exact hlt)⟩
      have hrk : wr.rangeAt b (off + k * 6) (z6 x') := rangeAt_below hb (by omega) (hr k x' ht)
      obtain ⟨a0, a1, a2, a3, a4, a5⟩ := six_of hrk
      have hth6 := there_sub (o := k * 6) (n := 6) hth (by omega)
      obtain ⟨⟨o0, b0⟩, f0⟩ : (∃ v, wr.cell? ⟨w.heap.size, k * 6, none⟩ = some v) ∧ wr.frozen? ⟨w.heap.size, k * 6, none⟩ = false := there_at hth6 0 (by omega)
      obtain ⟨⟨o1, b1⟩, f1⟩ := there_at hth6 1 (by omega)
      obtain ⟨⟨o2, b2⟩, f2⟩ := there_at hth6 2 (by omega)
      obtain ⟨⟨o3, b3⟩, f3⟩ := there_at hth6 3 (by omega)
      obtain ⟨⟨o4, b4⟩, f4⟩ := there_at hth6 4 (by omega)
      obtain ⟨⟨o5, b5⟩, f5⟩ := there_at hth6 5 (by omega)
      have i1 : (0 : Int) ≤ (k : Int) := by omega
      have i2 : (k : Int) < (len : Int) := by omega
      have HT : Hid (xs[k]? = some x') := ht
      have HR : Hid (∀ j x, j < k → xs[j]? = some x → wr.rangeAt w.heap.size (j * 6) (z6 (mk x))) := hrows
      clear ht hr hrows hrk hth6
      go_wp2
      have hbn : w.heap.size ≠ b := by omega
      go_region_held3 (fun w' => w'.cell? ⟨b, off + k * 6, none⟩ = some (.bool x'.b) ∧ w'.cell? ⟨b, off + k * 6 + 1, none⟩ = some (.int .i64 x'.c) ∧ w'.cell? ⟨b, off + k * 6 + 2, none⟩ = some (.int .i64 x'.v) ∧ w'.cell? ⟨b, off + k * 6 + 3, none⟩ = some (.bool x'.r) ∧ w'.cell? ⟨b, off + k * 6 + 4, none⟩ = some (.int .i64 x'.s) ∧ w'.cell? ⟨b, off + k * 6 + 5, none⟩ = some (.bool x'.h)) (go_keep) (fail)
      have R := step_rows6 k len xs x' wr w.heap.size hlt HT.out HR.out hsz hth
      have hbW : Below w.heap.size w (wr.setCells w.heap.size (k * 6) (z6 (mk x'))).drew := (hb.trans (below_setCells _ _ _ _)).drew
      clear a0 a1 a2 a3 a4 a5 b0 b1 b2 b3 b4 b5 f0 f1 f2 f3 f4 f5 hth HR HT hb
      go_wp2
      go_roundw
      case rel => exact ⟨k + 1, by omega, by go_num, R.1, R.2.1, hbW, R.2.2⟩
      case measure => simp [intOf]; omega
    · have hR : Rows6 wr w.heap.size (xs.map mk) := rows_map h.1 (by omega) hrows
      have hly : (xs.map mk).length = len := by rw [List.length_map, h.1]
      have hG := good_mk xs
      generalize xs.map mk = ys at *
      clear hrows hth h
      go_wp2_with (at_make; refine wpList_make_full _ rfl _ _ 23 rfl wr.heap.size 27 i0 _ 6 Yba.underlying23 hi hz0 hz1 _ _ _ _ len rfl rfl rfl rfl (by rw [hz2]; omega) (by unfold maxLen; omega) (Nat.le_refl _) ?_)
      intro w3 hown hgrow
      have hb3 : Below wr.heap.size wr w3 := (Below.refl _ _).grown hgrow (Nat.le_refl _) (fun k h => by cases h)
      have ht3 : w3.there wr.heap.size 0 (len * 6) := there_own hown
      have hs3 : wr.heap.size < w3.heap.size := (hown.lt wr.heap.size rfl).2
      clear hown hgrow
      have hSt := st_startA (hold := hold) (hh := hh) (ao := (some ⟨w.heap.size, 0, none⟩)) (g1 := w.heap.size) hb hR (fun _ => ⟨rfl, hsz⟩) hly hb3 ht3 hs3
      have hsrc := (hR.below hb3 hsz).all
      have hrl : (rows6 ys).length = len * 6 := by rw [rows6_len, hly]
      go_wp2_with (first | ((with_reducible refine copy_g 23 23 27 6 wr.heap.size 0 len len ⟨w.heap.size, 0, none⟩ len len len (rows6 ys) ?_ ?_ Yba.underlying23 size27 (Nat.min_self len) hrl hsrc ht3 (one_rows6 ys) ?_); (· rfl); (· rfl)))
      clear hsrc hrl ht3 hs3 hb3 hR hb
      generalize w3.setCells wr.heap.size 0 (rows6 ys) = w4 at *
      refine (market w4.heap.size w.heap.size len (some ⟨w.heap.size, 0, none⟩) ys _ hSt.f0 hSt.hao hly hlen hSt.r1 hG).mono ?_
      rintro e w6 ⟨rfl, hb6⟩
      have hS6 := hSt.below hb6
      clear hSt hb6
      generalize wr.heap.size = g2 at *
      generalize w4.heap.size = fb at *
      have hbd := mval_bd ys hG
      go_wp2
      go_loopw [13, 14, 15] (fun v ok i wq => ∃ k : Nat, k ≤ len ∧ i = .int .i64 k ∧ v = .int .u64 (mval (ys.take k)) ∧ ok = .bool (whole (ys.take k)) ∧ StA w wq w.heap.size g2 fb len (some ⟨w.heap.size, 0, none⟩) ys hold hh)
        (fun _ _ i _ => len - (intOf i).toNat)
      case atStart => exact ⟨0, Nat.zero_le _, rfl, rfl, rfl, hS6⟩
      case round =>
        obtain ⟨k, hk, rfl, rfl, rfl, hS⟩ := hrel
        clear hS6
        by_cases hlt : k < len
        · obtain ⟨x, ht⟩ : ∃ x, ys[k]? = some x := ⟨_, List.getElem?_eq_getElem (by rw [hly]; exact hlt)⟩
          obtain ⟨a0, a1, a2, a3, a4, a5⟩ := six_of (hS.r2 k x ht)
          obtain ⟨x0, x1, x2, x3⟩ := hG x (List.mem_of_getElem? ht)
          obtain ⟨m0, m1⟩ := mval_bd _ (hG.take k)
          have HT : Hid (ys.take (k + 1) = ys.take k ++ [x]) := take_snoc ys k x ht
          have HV : Hid (mval (ys.take (k + 1)) = stepV (mval (ys.take k)) x) := by rw [HT.out]; exact mval_snoc _ _
          have HW : Hid (whole (ys.take (k + 1)) = (whole (ys.take k) && known x)) := by rw [HT.out]; exact whole_snoc _ _
          clear ht HT hbd
          generalize mval (ys.take k) = mv at *
          generalize whole (ys.take k) = wl at *
          obtain ⟨xb, xc, xv, xr, xs', xh⟩ := x
          simp only at *
          cases xb with
          | true =>
            go_wp2
            go_roundw
            case rel => exact ⟨k + 1, by omega, by go_num, by rw [HV.out]; simp [stepV, known], by rw [HW.out]; simp [known], hS.below ((Below.refl _ _).alloc (Nat.le_refl _) _)⟩
            case measure => simp [intOf]; omega
          | false =>
            cases xr with
            | false =>
              go_wp2
              go_roundw
              case rel => exact ⟨k + 1, by omega, by go_num, by rw [HV.out]; simp [stepV, known], by rw [HW.out]; simp [known], hS.below ((Below.refl _ _).alloc (Nat.le_refl _) _)⟩
              case measure => simp [intOf]; omega
            | true =>
              cases xh with
              | false =>
                go_wp2
                go_roundw
                case rel => exact ⟨k + 1, by omega, by go_num, by rw [HV.out]; simp [stepV, known], by rw [HW.out]; simp [known], hS.below ((Below.refl _ _).alloc (Nat.le_refl _) _)⟩
                case measure => simp [intOf]; omega
              | true =>
                have hlb := lo_bd xc xs'
                obtain ⟨l0, l1⟩ := hlb
                have HK : Hid (stepV mv ⟨false, xc, xv, true, xs', true⟩ = sat mv (xc * xs')) := by simp [stepV, known, Hid]
                cases hhi : (hiOf xc xs' != 0) with
                | true =>
                  have HSAT : Hid (stepV mv ⟨false, xc, xv, true, xs', true⟩ = 9223372036854775807) := by rw [HK.out]; exact sat_hi mv xc xs' m0 m1 x0 x2 hhi
                  clear HK
                  go_wp2_with (go_at_call 6; refine (mul64I _ _ _ x0 x1 x2 x3).mono ?_; rintro e w7 ⟨rfl, rfl⟩)
                  go_roundw
                  case rel => exact ⟨k + 1, by omega, by go_num, by rw [HV.out, HSAT.out], by rw [HW.out]; simp [known], hS.below ((Below.refl _ _).alloc (Nat.le_refl _) _)⟩
                  case measure => simp [intOf]; omega
                | false =>
                  by_cases hlo : 9223372036854775807 - mv < loOf xc xs'
                  · have HSAT : Hid (stepV mv ⟨false, xc, xv, true, xs', true⟩ = 9223372036854775807) := by rw [HK.out]; exact sat_lo mv xc xs' m0 m1 x0 x2 hlo
                    clear HK
                    go_wp2_with (go_at_call 6; refine (mul64I _ _ _ x0 x1 x2 x3).mono ?_; rintro e w7 ⟨rfl, rfl⟩)
                    go_roundw
                    case rel => exact ⟨k + 1, by omega, by go_num, by rw [HV.out, HSAT.out], by rw [HW.out]; simp [known], hS.below ((Below.refl _ _).alloc (Nat.le_refl _) _)⟩
                    case measure => simp [intOf]; omega
                  · have HSAT : Hid (stepV mv ⟨false, xc, xv, true, xs', true⟩ = mv + loOf xc xs') := by rw [HK.out]; exact sat_no mv xc xs' m0 m1 x0 x2 hhi hlo
                    have hdl : decide (9223372036854775807 - mv < loOf xc xs') = false := by simpa using hlo
                    clear HK
                    go_wp2_with (go_at_call 6; refine (mul64I _ _ _ x0 x1 x2 x3).mono ?_; rintro e w7 ⟨rfl, rfl⟩)
                    go_roundw
                    case rel => exact ⟨k + 1, by omega, by go_num, by rw [HV.out, HSAT.out], by rw [HW.out]; simp [known], hS.below ((Below.refl _ _).alloc (Nat.le_refl _) _)⟩
                    case measure => simp [intOf]; omega
        · obtain ⟨e1, e2, e3⟩ : ys.take k = ys ∧ (mval ys != mval ys) = false ∧ (whole ys != whole ys) = false := ⟨List.take_of_length_le (by omega), by simp, by simp⟩
          rw [e1]
          have f0 := hS.f0
          have f1 := hS.f1
          have f2 := hS.f2
          have e4 : (hold != hold) = false := by simp
          have e5 : (hh != hh) = false := by simp
          clear e1
          go_wp2
          clear f0 f1 f2 e2 e3 e4 e5
          go_loopw [20] (fun i wq => ∃ k : Nat, k ≤ len ∧ i = .int .i64 k ∧ StA w wq w.heap.size g2 fb len (some ⟨w.heap.size, 0, none⟩) ys hold hh)
            (fun i _ => len - (intOf i).toNat)
          case atStart => exact ⟨0, Nat.zero_le _, rfl, hS⟩
          case round =>
            clear hS
            obtain ⟨k, hk, rfl, hS⟩ := hrel
            by_cases hlt : k < len
            · obtain ⟨x, ht⟩ : ∃ x, ys[k]? = some x := ⟨_, List.getElem?_eq_getElem (by rw [hly]; exact hlt)⟩
              obtain ⟨a0, a1, a2, a3, a4, a5⟩ := six_of (hS.r2 k x ht)
              obtain ⟨b0, b1, b2, b3, b4, b5⟩ := six_of (hS.r1 k x ht)
              have f0 := hS.f0
              have hne := neq27 x
              have j1 : (0 : Int) ≤ (k : Int) := by omega
              have j2 : (k : Int) < (len : Int) := by omega
              clear ht hG
              go_wp2
              go_quiet (fail)
              go_wp2
              go_roundw
              case rel => exact ⟨k + 1, by omega, by go_num, hS.below (below_drewN (Below.refl _ _) nq)⟩
              case measure => simp [intOf]; omega
            · go_wp2
              go_ret
              exact ⟨rfl, hS.bel⟩
end Go.Proofs.Ybulkeavy
