/-
  'deflate.LawS6362CWhole' (function 3): the walk.
-/
import Derived.Test.YbulkeassTail26
namespace Go.Proofs.Ybulkeass
open Go.RowKit
attribute [local go_sem ↓] Go.wp_at_zero Go.wp_at_succ

theorem size35 : (Yba.prog.info? 35).map (·.size) = some 1 := by kernel_rfl
theorem row3 (w : World) : (w.alloc (.cells #[.int .u8 1, .int .u8 2, .int .u8 3] 5)).rowIs w.heap.size 5 3 hdr3 :=
  World.rowIs_alloc w _ 5 _ fun i hi => by
    have : i < 3 := hi
    rcases i with _ | _ | _ | i
    · rfl
    · rfl
    · rfl
    · omega
theorem same_of {w : World} {b n o : Nat} {t : TypeId} {c : Nat → Value} {v : Value} (_ : w.rowIs b t n (upd c o v)) : upd c o v o = v := upd_same _ _ _
theorem Zs.set {w wx : World} {c : Nat → Value} (h : Zs w wx c) {k : Nat} (hk : k < 16384) (v : Int) : Zs w (wx.setCell ⟨w.heap.size, 5 + k, none⟩ (.int .u32 v)) (upd c (5 + k) (.int .u32 v)) :=
  h.put (h.row.set (5 + k) (.int .u32 v)) (but_setCell _ _ _ _) (fun _ _ => ⟨_, rfl⟩) (fun a _ => by omega) (fun a _ => by omega)
theorem Zs.drew {w wx : World} {c : Nat → Value} (h : Zs w wx c) {n : Nat} : Zs w (wx.drewN n) c := h.gr (gr_drewN _ _)
theorem errors_new (s : ByteArray) (w : World) : Calls Yba.prog 4 #[.string s] w fun e w' => ∃ g, e = .returned (.iface 54 (.pointer (some ⟨g, 0, none⟩))) ∧ Gr w w' := by
  go_enter Yba.func4, Yba.ntmps4
  go_wp2
  go_ret
  exact ⟨_, rfl, (Below.refl _ _).alloc (Nat.le_refl _) _⟩

set_option maxRecDepth 100000 in
set_option maxHeartbeats 4000000 in
theorem law_walk (a0 : Bool) (a1 : Option Addr) (len1 cap1 : Nat) (z1 : List Int) (a2 : Int) (a3 : Int) (a4 : Bool) (a5 : Int) (a6 : Bool) (a7 : Option Addr) (len7 cap7 : Nat) (z7 : List Int) (a8 : Option Addr) (len8 cap8 : Nat) (z8 : List Int) (a9 : Option Addr) (len9 cap9 : Nat) (z9 : List Int) (a10 : Int) (a11 : Int) (w : World) (w1 : Row .u8 w a1 len1 z1) (w5 : 0 ≤ a5 ∧ a5 < 4294967296) (w7 : Row .u32 w a7 len7 z7) (w8 : Row .u32 w a8 len8 z8) (w9 : Row .u8 w a9 len9 z9) (w11 : 0 ≤ a11 ∧ a11 < 256)
    (hsum : len1 + len7 + len8 + len9 ≤ 1048576) :
    Calls Yba.prog 3 #[.bool a0, .slice a1 len1 cap1, .int .i64 a2, .int .u32 a3, .bool a4, .int .u32 a5, .bool a6, .slice a7 len7 cap7, .slice a8 len8 cap8, .slice a9 len9 cap9, .int .u64 a10, .int .u8 a11] w fun e w' => e = .returned (.bool true) ∧ Below w.heap.size w w' := by
  have HS : ((1048576 : Int) < (len1 : Int) + len7 + len8 + len9) = False := by simp; omega
  have w1n : a1 = none → len1 = 0 := w1.1
  have w8n : a8 = none → len8 = 0 := w8.1
  have w9n : a9 = none → len9 = 0 := w9.1
  go_enter Yba.func3, Yba.ntmps3
  go_upto_if 66 with ((with_reducible refine alloc_g 47 20155 chk zero47 ?_); intro wz z gz hgz hzl hzc hzr hzg; obtain ⟨c, hZ, hc1, hcT⟩ := zs_new hgz hzl hzc hzr hzg; subst hgz; clear hzl hzc hzr hzg)
  go_cut [] from 66 to 79 (fun wx => ∃ c ia il ic, Zs w wx c ∧ c 1 = .slice ia il ic ∧ InpOK a0 len1 ia il ic ∧ c 16390 = .slice none 0 0)
  case first =>
    cases a0
    · go_wp2_with (first
        | ((with_reducible refine make_g 22 5 (.int .u8 0) 1 len1 (len1 + 7) Yba.underlying22 info5 rfl .i64 .i64 ?_ ?_ (by omega) (by omega) (by omega) ?_); (· rfl); (· first | rfl | go_num); intro wn g hge hrg hgr; have hgl : w.heap.size < g := (by rw [← hge]; exact hZ.row.lt); replace hZ := hZ.gr hgr; clear hgr)
        | ((with_reducible refine copy_g 22 22 5 len1 cap1 a1 (ints .u8 z1 len1) hrg ?_ ?_ Yba.underlying22 size5 (ints_len _ _ _) (by omega) w1n (w1.src hZ.bel) (ints_one _ _ _) ?_); (· rfl); (· rfl); intro wm hrm hBm; replace hZ := hZ.but hBm hgl; clear hBm hrm)
        | ((with_reducible refine store1_g 22 1 (.slice (some ⟨g, 0, none⟩) len1 (len1 + 7)) hZ.row ?_ ?_ (by decide) size22 rfl ?_); (· rfl); (· rfl); intro wk hr hB; replace hZ := hZ.put hr hB (by intro h; omega) (by intro h; omega) (by intro h; omega); clear hr hB))
      go_meet
      exact ⟨_, _, _, _, hZ, upd_same _ _ _, .inr ⟨rfl, ⟨_, rfl⟩, rfl, rfl⟩, (upd_other _ _ _ (by decide)).trans hcT⟩
    · go_wp2
      go_meet
      exact ⟨c, none, 0, 0, hZ, hc1, .inl ⟨rfl, rfl, rfl, rfl⟩, hcT⟩
  case rest =>
    clear hZ hc1 hcT
    obtain ⟨c, ia, il, ic, hZ, hc1, hIn, hcT⟩ := hcut
    clear w1 w1n
    go_upto_if 88 with (first
      | ((with_reducible refine store1_g 3 2 (.int .i64 a2) hZ.row ?_ ?_ (by decide) size3 rfl ?_); (· rfl); (· first | rfl | go_num); intro wk hr hB; replace hZ := hZ.put hr hB (by first | (intro h _; omega) | (intro _ h; omega)) (by first | (intro h _; omega) | (intro _ h; omega)) (by first | (intro h _; omega) | (intro _ h; omega)); clear hr hB; replace hc1 := (upd_other _ 2 (.int .i64 a2) (i := 1) (by decide)).trans hc1; replace hcT := (upd_other _ 2 (.int .i64 a2) (i := 16390) (by decide)).trans hcT)
      | ((with_reducible refine store1_g 23 3 (.int .u32 a3) hZ.row ?_ ?_ (by decide) size23 rfl ?_); (· rfl); (· first | rfl | go_num); intro wk hr hB; replace hZ := hZ.put hr hB (by first | (intro h _; omega) | (intro _ h; omega)) (by first | (intro h _; omega) | (intro _ h; omega)) (by first | (intro h _; omega) | (intro _ h; omega)); clear hr hB; replace hc1 := (upd_other _ 3 (.int .u32 a3) (i := 1) (by decide)).trans hc1; replace hcT := (upd_other _ 3 (.int .u32 a3) (i := 16390) (by decide)).trans hcT))
    go_cut [] from 88 to 92 (fun wx => ∃ c, Zs w wx c ∧ c 1 = .slice ia il ic ∧ c 16390 = .slice none 0 0)
    case first =>
      cases a4
      · go_wp2
        go_meet
        exact ⟨_, hZ, hc1, hcT⟩
      · go_wp2_with (first
          | (go_at_call 4; refine (errors_new _ _).mono ?_; rintro e we ⟨ge, rfl, hgr⟩; replace hZ := hZ.gr hgr; clear hgr)
          | ((with_reducible refine store1_g 30 4 (.iface 54 (.pointer (some ⟨ge, 0, none⟩))) hZ.row ?_ ?_ (by decide) size30 rfl ?_); (· rfl); (· first | rfl | go_num); intro wk hr hB; replace hZ := hZ.put hr hB (by first | (intro h _; omega) | (intro _ h; omega)) (by first | (intro h _; omega) | (intro _ h; omega)) (by first | (intro h _; omega) | (intro _ h; omega)); clear hr hB; replace hc1 := (upd_other _ 4 (.iface 54 (.pointer (some ⟨ge, 0, none⟩))) (i := 1) (by decide)).trans hc1; replace hcT := (upd_other _ 4 (.iface 54 (.pointer (some ⟨ge, 0, none⟩))) (i := 16390) (by decide)).trans hcT))
        go_meet
        exact ⟨_, hZ, hc1, hcT⟩
    case rest =>
      clear hZ hc1 hcT
      obtain ⟨c, hZ, hc1, hcT⟩ := hcut
      go_upto_if 93 with fail
      go_cut [27] from 93 to 100 (fun o wx => ∃ off : Int, o = .int .i64 off ∧ 0 ≤ off ∧ off ≤ 1073741824 ∧ wx = wc)
      case first =>
        cases a6
        · go_wp2
          go_meet
          exact ⟨_, rfl, by omega, by omega, rfl⟩
        · go_wp2
          go_meet
          exact ⟨_, rfl, by omega, by omega, rfl⟩
      case rest =>
        obtain ⟨off, rfl, ho0, ho1, rfl⟩ := hcut
        go_upto_if 108 with (((with_reducible refine store1_g 3 16389 (.int .i64 off) hZ.row ?_ ?_ (by decide) size3 rfl ?_); (· rfl); (· first | rfl | go_num); intro wk hr hB; replace hZ := hZ.put hr hB (by first | (intro h _; omega) | (intro _ h; omega)) (by first | (intro h _; omega) | (intro _ h; omega)) (by first | (intro h _; omega) | (intro _ h; omega)); clear hr hB; replace hc1 := (upd_other _ 16389 (.int .i64 off) (i := 1) (by decide)).trans hc1; replace hcT := (upd_other _ 16389 (.int .i64 off) (i := 16390) (by decide)).trans hcT); have hcO := upd_same c 16389 (.int .i64 off))
        go_cut [28] from 105 to 108 (fun o wx => ∃ m : Nat, o = .int .i64 m ∧ m ≤ len7 ∧ m ≤ 16384 ∧ wx = wk)
        case first =>
          by_cases h7 : 16384 < len7
          · go_wp2
            go_meet
            exact ⟨16384, rfl, by omega, by omega, rfl⟩
          · go_wp2
            go_meet
            exact ⟨len7, rfl, by omega, by omega, rfl⟩
        case rest =>
          obtain ⟨m, rfl, hm7, hm, rfl⟩ := hcut
          go_wp2
          go_loopw [29] (fun i wr => ∃ k : Nat, k ≤ m ∧ i = .int .i64 k ∧ ∃ c, Zs w wr c ∧ c 1 = .slice ia il ic ∧ c 16390 = .slice none 0 0 ∧ c 16389 = .int .i64 off) (fun i _ => m - (intOf i).toNat)
          case atStart => exact ⟨0, Nat.zero_le _, rfl, _, hZ, hc1, hcT, hcO⟩
          case round =>
            clear hZ hc1 hcT hcO
            obtain ⟨k, hk, rfl, c, hZ, hc1, hcT, hcO⟩ := hrel
            by_cases hlt : k < m
            · obtain ⟨x, hx⟩ : ∃ x, a7 = some x := by
                cases a7 with
                | none => have := w7.1 rfl; omega
                | some x => exact ⟨x, rfl⟩
              obtain ⟨b7, o7, rfl, hlt7, hc7⟩ := w7.2 x hx (by omega)
              subst hx
              have k7 : wr.cell? ⟨b7, o7 + k, none⟩ = some (.int .u32 (z7.getD k 0)) := (hZ.bel.cell (p := ⟨b7, o7 + k, none⟩) hlt7).trans (hc7 k (by omega))
              have kz := hZ.row.cell (i := 5 + k) (by omega)
              have kf := hZ.row.frozen (5 + k)
              clear hc7
              generalize z7.getD k 0 = v7 at *
              go_wp2
              go_region
              go_wp2
              go_roundw
              case rel => exact ⟨k + 1, by omega, by go_num, _, (hZ.set (by omega) v7).drew, (upd_other _ _ _ (by omega)).trans hc1, (upd_other _ _ _ (by omega)).trans hcT, (upd_other _ _ _ (by omega)).trans hcO⟩
              case measure => simp [intOf]; omega
            · obtain rfl : k = m := by omega
              have q8 := neqNil24
              go_upto_if 124 with fail
              go_cut [] from 112 to 137 (fun wx => ∃ c tv, Zs w wx c ∧ c 1 = .slice ia il ic ∧ c 16389 = .int .i64 off ∧ c 16390 = tv ∧ TokOK w wx wx.heap.size len8 z8 tv)
              case first =>
                cases a8 with
                | none =>
                  have H8 : Hid (len8 = 0) := w8n rfl
                  clear w8n
                  go_wp2
                  go_meet
                  exact ⟨_, _, hZ, hc1, hcO, hcT, .inl ⟨H8.out, rfl⟩⟩
                | some x8 =>
                  go_wp2_with (first
                    | ((with_reducible refine make_g 24 23 (.int .u32 0) 4 len8 (len8 + 3) Yba.underlying24 info23 rfl .i64 .i64 ?_ ?_ (by omega) (by omega) (by omega) ?_); (· rfl); (· first | rfl | go_num); intro wn g hge hrg hgr; have hgl : w.heap.size < g := (by rw [← hge]; exact hZ.row.lt); replace hZ := hZ.gr hgr; clear hgr)
                    | ((with_reducible refine copy_g 24 24 23 len8 cap8 (some x8) (ints .u32 z8 len8) hrg ?_ ?_ Yba.underlying24 size23 (ints_len _ _ _) (by omega) w8n (w8.src hZ.bel) (ints_one _ _ _) ?_); (· rfl); (· rfl); intro wm hrm hBm; replace hZ := hZ.but hBm hgl; clear hBm)
                    | ((with_reducible refine store1_g 24 16390 (.slice (some ⟨g, 0, none⟩) len8 (len8 + 3)) hZ.row ?_ ?_ (by decide) size24 rfl ?_); (· rfl); (· rfl); intro wk hr hB; replace hZ := hZ.put hr hB (by intro h; omega) (by intro h; omega) (by intro h; omega); have hrk := hB.row hrm (by omega); clear hr hB hrm))
                  go_meet
                  exact ⟨_, _, hZ, (upd_other _ _ _ (by decide)).trans hc1, (upd_other _ _ _ (by decide)).trans hcO, upd_same _ _ _, .inr ⟨g, _, hgl, hrk.lt, rfl, hrk, fun i hi => by simp [hi, ints, seg]⟩⟩
              case rest =>
                clear hZ hc1 hcT hcO w8n
                obtain ⟨c, tv, hZ, hc1, hcO, hcT, hTk⟩ := hcut
                obtain ⟨N, hN⟩ : ∃ N, N = wc.heap.size := ⟨_, rfl⟩
                have hNle : N ≤ wc.heap.size := by omega
                rw [← hN] at hTk
                clear hN
                go_upto_region 39 with (first
                  | ((with_reducible refine store1_g 23 16391 (.int .u32 a3) hZ.row ?_ ?_ (by decide) size23 rfl ?_); (· rfl); (· first | rfl | go_num); intro wk hr hB; replace hZ := hZ.put hr hB (by first | (intro h _; omega) | (intro _ h; omega)) (by first | (intro h _; omega) | (intro _ h; omega) | (intro _ _; exact ⟨_, _, rfl⟩)) (by first | (intro h _; omega) | (intro _ h; omega) | (intro _ _; exact ⟨_, _, rfl⟩)); replace hNle := (by rw [hB.size]; exact hNle : N ≤ wk.heap.size); replace hTk := hTk.keep (Nat.le_refl _) (fun g h1 _ _ => hB.blk g (by omega)); replace hc1 := (upd_other _ 16391 (.int .u32 a3) (i := 1) (by decide)).trans hc1; replace hcO := (upd_other _ 16391 (.int .u32 a3) (i := 16389) (by decide)).trans hcO; replace hcT := (upd_other _ 16391 (.int .u32 a3) (i := 16390) (by decide)).trans hcT; clear hr hB)
                  | ((with_reducible refine store1_g 23 16678 (.int .u32 (a2 % 4294967296)) hZ.row ?_ ?_ (by decide) size23 rfl ?_); (· rfl); (· first | rfl | go_num); intro wk hr hB; replace hZ := hZ.put hr hB (by first | (intro h _; omega) | (intro _ h; omega)) (by first | (intro h _; omega) | (intro _ h; omega) | (intro _ _; exact ⟨_, _, rfl⟩)) (by first | (intro h _; omega) | (intro _ h; omega) | (intro _ _; exact ⟨_, _, rfl⟩)); replace hNle := (by rw [hB.size]; exact hNle : N ≤ wk.heap.size); replace hTk := hTk.keep (Nat.le_refl _) (fun g h1 _ _ => hB.blk g (by omega)); replace hc1 := (upd_other _ 16678 (.int .u32 (a2 % 4294967296)) (i := 1) (by decide)).trans hc1; replace hcO := (upd_other _ 16678 (.int .u32 (a2 % 4294967296)) (i := 16389) (by decide)).trans hcO; replace hcT := (upd_other _ 16678 (.int .u32 (a2 % 4294967296)) (i := 16390) (by decide)).trans hcT; clear hr hB)
                  | ((with_reducible refine make_g 22 5 (.int .u8 0) 1 len9 (len9 + 2) Yba.underlying22 info5 rfl .i64 .i64 ?_ ?_ (by omega) (by omega) (by omega) ?_); (· rfl); (· first | rfl | go_num); intro wn g9 hge hG9 hgr; have hg9 : w.heap.size < g9 := (by rw [← hge]; exact hZ.row.lt); have hN9 : N ≤ g9 := (by rw [← hge]; exact hNle); replace hZ := hZ.gr hgr; replace hNle := Nat.le_trans hNle hgr.size; replace hTk := hTk.keep (Nat.le_refl _) (fun g _ _ h2 => hgr.block g h2); clear hgr)
                  | ((with_reducible refine copy_g 22 22 5 len9 cap9 a9 (ints .u8 z9 len9) hG9 ?_ ?_ Yba.underlying22 size5 (ints_len _ _ _) (by omega) w9n (w9.src hZ.bel) (ints_one _ _ _) ?_); (· rfl); (· rfl); intro wm hrm hBm; replace hZ := hZ.but hBm hg9; replace hNle := (by rw [hBm.size]; exact hNle : N ≤ wm.heap.size); replace hTk := hTk.keep (Nat.le_refl _) (fun g _ h2 _ => hBm.blk g (by omega)); clear hBm hG9; have hG9 := hrm; clear hrm)
                  | ((with_reducible refine store1_g 22 16707 (.slice (some ⟨g9, 0, none⟩) len9 (len9 + 2)) hZ.row ?_ ?_ (by decide) size22 rfl ?_); (· rfl); (· first | rfl | go_num); intro wk hr hB; replace hZ := hZ.put hr hB (by first | (intro h _; omega) | (intro _ h; omega)) (by first | (intro h _; omega) | (intro _ h; omega) | (intro _ _; exact ⟨_, _, rfl⟩)) (by first | (intro h _; omega) | (intro _ h; omega) | (intro _ _; exact ⟨_, _, rfl⟩)); replace hNle := (by rw [hB.size]; exact hNle : N ≤ wk.heap.size); replace hTk := hTk.keep (Nat.le_refl _) (fun g h1 _ _ => hB.blk g (by omega)); replace hc1 := (upd_other _ 16707 (.slice (some ⟨g9, 0, none⟩) len9 (len9 + 2)) (i := 1) (by decide)).trans hc1; replace hcO := (upd_other _ 16707 (.slice (some ⟨g9, 0, none⟩) len9 (len9 + 2)) (i := 16389) (by decide)).trans hcO; replace hcT := (upd_other _ 16707 (.slice (some ⟨g9, 0, none⟩) len9 (len9 + 2)) (i := 16390) (by decide)).trans hcT; replace hG9 := hB.row hG9 (by omega); have hcG := same_of hr; clear hr hB)
                  | ((with_reducible refine store1_g 25 16708 (.int .u64 a10) hZ.row ?_ ?_ (by decide) size25 rfl ?_); (· rfl); (· first | rfl | go_num); intro wk hr hB; replace hZ := hZ.put hr hB (by first | (intro h _; omega) | (intro _ h; omega)) (by first | (intro h _; omega) | (intro _ h; omega) | (intro _ _; exact ⟨_, _, rfl⟩)) (by first | (intro h _; omega) | (intro _ h; omega) | (intro _ _; exact ⟨_, _, rfl⟩)); replace hNle := (by rw [hB.size]; exact hNle : N ≤ wk.heap.size); replace hTk := hTk.keep (Nat.le_refl _) (fun g h1 _ _ => hB.blk g (by omega)); replace hc1 := (upd_other _ 16708 (.int .u64 a10) (i := 1) (by decide)).trans hc1; replace hcO := (upd_other _ 16708 (.int .u64 a10) (i := 16389) (by decide)).trans hcO; replace hcT := (upd_other _ 16708 (.int .u64 a10) (i := 16390) (by decide)).trans hcT; replace hcG := (upd_other _ 16708 (.int .u64 a10) (i := 16707) (by decide)).trans hcG; replace hG9 := hB.row hG9 (by omega); clear hr hB)
                  | ((with_reducible refine store1_g 34 16709 (.int .u64 (a11 % 32)) hZ.row ?_ ?_ (by decide) size34 rfl ?_); (· rfl); (· first | rfl | go_num); intro wk hr hB; replace hZ := hZ.put hr hB (by first | (intro h _; omega) | (intro _ h; omega)) (by first | (intro h _; omega) | (intro _ h; omega) | (intro _ _; exact ⟨_, _, rfl⟩)) (by first | (intro h _; omega) | (intro _ h; omega) | (intro _ _; exact ⟨_, _, rfl⟩)); replace hNle := (by rw [hB.size]; exact hNle : N ≤ wk.heap.size); replace hTk := hTk.keep (Nat.le_refl _) (fun g h1 _ _ => hB.blk g (by omega)); replace hc1 := (upd_other _ 16709 (.int .u64 (a11 % 32)) (i := 1) (by decide)).trans hc1; replace hcO := (upd_other _ 16709 (.int .u64 (a11 % 32)) (i := 16389) (by decide)).trans hcO; replace hcT := (upd_other _ 16709 (.int .u64 (a11 % 32)) (i := 16390) (by decide)).trans hcT; replace hcG := (upd_other _ 16709 (.int .u64 (a11 % 32)) (i := 16707) (by decide)).trans hcG; replace hG9 := hB.row hG9 (by omega); clear hr hB)
                  | ((with_reducible refine store1_g 22 20154 (.slice (some ⟨wk.heap.size, 0, none⟩) 3 3) (hZ.row.alloc (.cells #[.int .u8 1, .int .u8 2, .int .u8 3] 5)) ?_ ?_ (by decide) size22 rfl ?_); (· rfl); (· first | rfl | go_num); intro wl hr hB; have hHr := row3 wk; have hgr : Gr wk (wk.alloc (.cells #[.int .u8 1, .int .u8 2, .int .u8 3] 5)) := (Below.refl _ _).alloc (Nat.le_refl _) _; replace hZ := hZ.gr hgr; replace hNle := Nat.le_trans hNle hgr.size; replace hTk := hTk.keep (Nat.le_refl _) (fun g _ _ h2 => hgr.block g h2); have hgh : g9 < wk.heap.size := hG9.lt; replace hG9 := hgr.row hG9; clear hgr; obtain ⟨gh, hghe⟩ : ∃ gh, wk.heap.size = gh := ⟨_, rfl⟩; rw [hghe] at hr hHr hgh; replace hZ := hZ.put hr hB (by first | (intro h _; omega) | (intro _ h; omega)) (by first | (intro h _; omega) | (intro _ h; omega) | (intro _ _; exact ⟨_, _, rfl⟩)) (by first | (intro h _; omega) | (intro _ h; omega) | (intro _ _; exact ⟨_, _, rfl⟩)); replace hNle := (by rw [hB.size]; exact hNle : N ≤ wl.heap.size); replace hTk := hTk.keep (Nat.le_refl _) (fun g h1 _ _ => hB.blk g (by omega)); replace hc1 := (upd_other _ 20154 (.slice (some ⟨gh, 0, none⟩) 3 3) (i := 1) (by decide)).trans hc1; replace hcO := (upd_other _ 20154 (.slice (some ⟨gh, 0, none⟩) 3 3) (i := 16389) (by decide)).trans hcO; replace hcT := (upd_other _ 20154 (.slice (some ⟨gh, 0, none⟩) 3 3) (i := 16390) (by decide)).trans hcT; replace hcG := (upd_other _ 20154 (.slice (some ⟨gh, 0, none⟩) 3 3) (i := 16707) (by decide)).trans hcG; replace hG9 := hB.row hG9 (by omega); replace hHr := hB.row hHr (by omega); have hcH := same_of hr; clear hr hB)
                  | ((with_reducible refine store1_g 5 17003 (.int .u8 7) hZ.row ?_ ?_ (by decide) size5 rfl ?_); (· rfl); (· first | rfl | go_num); intro wk hr hB; replace hZ := hZ.put hr hB (by first | (intro h _; omega) | (intro _ h; omega)) (by first | (intro h _; omega) | (intro _ h; omega) | (intro _ _; exact ⟨_, _, rfl⟩)) (by first | (intro h _; omega) | (intro _ h; omega) | (intro _ _; exact ⟨_, _, rfl⟩)); replace hNle := (by rw [hB.size]; exact hNle : N ≤ wk.heap.size); replace hTk := hTk.keep (Nat.le_refl _) (fun g h1 _ _ => hB.blk g (by omega)); replace hc1 := (upd_other _ 17003 (.int .u8 7) (i := 1) (by decide)).trans hc1; replace hcO := (upd_other _ 17003 (.int .u8 7) (i := 16389) (by decide)).trans hcO; replace hcT := (upd_other _ 17003 (.int .u8 7) (i := 16390) (by decide)).trans hcT; replace hcG := (upd_other _ 17003 (.int .u8 7) (i := 16707) (by decide)).trans hcG; replace hcH := (upd_other _ 17003 (.int .u8 7) (i := 20154) (by decide)).trans hcH; replace hG9 := hB.row hG9 (by omega); replace hHr := hB.row hHr (by omega); clear hr hB)
                  | ((with_reducible refine store1_g 35 17288 (.int .u16 9) hZ.row ?_ ?_ (by decide) size35 rfl ?_); (· rfl); (· first | rfl | go_num); intro wk hr hB; replace hZ := hZ.put hr hB (by first | (intro h _; omega) | (intro _ h; omega)) (by first | (intro h _; omega) | (intro _ h; omega) | (intro _ _; exact ⟨_, _, rfl⟩)) (by first | (intro h _; omega) | (intro _ h; omega) | (intro _ _; exact ⟨_, _, rfl⟩)); replace hNle := (by rw [hB.size]; exact hNle : N ≤ wk.heap.size); replace hTk := hTk.keep (Nat.le_refl _) (fun g h1 _ _ => hB.blk g (by omega)); replace hc1 := (upd_other _ 17288 (.int .u16 9) (i := 1) (by decide)).trans hc1; replace hcO := (upd_other _ 17288 (.int .u16 9) (i := 16389) (by decide)).trans hcO; replace hcT := (upd_other _ 17288 (.int .u16 9) (i := 16390) (by decide)).trans hcT; replace hcG := (upd_other _ 17288 (.int .u16 9) (i := 16707) (by decide)).trans hcG; replace hcH := (upd_other _ 17288 (.int .u16 9) (i := 20154) (by decide)).trans hcH; replace hG9 := hB.row hG9 (by omega); replace hHr := hB.row hHr (by omega); clear hr hB)
                  | ((with_reducible refine store1_g 5 18151 (.int .u8 3) hZ.row ?_ ?_ (by decide) size5 rfl ?_); (· rfl); (· first | rfl | go_num); intro wk hr hB; replace hZ := hZ.put hr hB (by first | (intro h _; omega) | (intro _ h; omega)) (by first | (intro h _; omega) | (intro _ h; omega) | (intro _ _; exact ⟨_, _, rfl⟩)) (by first | (intro h _; omega) | (intro _ h; omega) | (intro _ _; exact ⟨_, _, rfl⟩)); replace hNle := (by rw [hB.size]; exact hNle : N ≤ wk.heap.size); replace hTk := hTk.keep (Nat.le_refl _) (fun g h1 _ _ => hB.blk g (by omega)); replace hc1 := (upd_other _ 18151 (.int .u8 3) (i := 1) (by decide)).trans hc1; replace hcO := (upd_other _ 18151 (.int .u8 3) (i := 16389) (by decide)).trans hcO; replace hcT := (upd_other _ 18151 (.int .u8 3) (i := 16390) (by decide)).trans hcT; replace hcG := (upd_other _ 18151 (.int .u8 3) (i := 16707) (by decide)).trans hcG; replace hcH := (upd_other _ 18151 (.int .u8 3) (i := 20154) (by decide)).trans hcH; replace hG9 := hB.row hG9 (by omega); replace hHr := hB.row hHr (by omega); clear hr hB))
                obtain ⟨ta, tc, htv, hTk⟩ : ∃ ta tc, tv = .slice ta len8 tc ∧ TokOK w wk N len8 z8 (.slice ta len8 tc) := by
                  rcases hTk with ⟨h0, h1⟩ | ⟨g, f, h1, h2, h3, h4, h5⟩
                  · exact ⟨none, 0, by rw [h1, h0], .inl ⟨h0, by rw [h0]⟩⟩
                  · exact ⟨_, _, h3, .inr ⟨g, f, h1, h2, rfl, h4, h5⟩⟩
                subst htv
                have hil : il ≤ 1048576 := by
                  rcases hIn with ⟨_, _, h, _⟩ | ⟨_, _, h, _⟩ <;> omega
                simp only [Act.put]
                go_cut [] from 198 to 203 (fun wx => ∃ c9, S26 w wx a0 len1 off ia il ic ta len8 tc len9 z8 N g9 gh c9)
                case first =>
                  go_wp2_with (((with_reducible refine store1_g 23 18441 (.int .u32 9) hZ.row ?_ ?_ (by decide) size23 rfl ?_); (· rfl); (· first | rfl | go_num); intro wk hr hB; replace hZ := hZ.put hr hB (by first | (intro h _; omega) | (intro _ h; omega)) (by first | (intro h _; omega) | (intro _ h; omega) | (intro _ _; exact ⟨_, _, rfl⟩)) (by first | (intro h _; omega) | (intro _ h; omega) | (intro _ _; exact ⟨_, _, rfl⟩)); replace hNle := (by rw [hB.size]; exact hNle : N ≤ wk.heap.size); replace hTk := hTk.keep (Nat.le_refl _) (fun g h1 _ _ => hB.blk g (by omega)); replace hc1 := (upd_other _ 18441 (.int .u32 9) (i := 1) (by decide)).trans hc1; replace hcO := (upd_other _ 18441 (.int .u32 9) (i := 16389) (by decide)).trans hcO; replace hcT := (upd_other _ 18441 (.int .u32 9) (i := 16390) (by decide)).trans hcT; replace hcG := (upd_other _ 18441 (.int .u32 9) (i := 16707) (by decide)).trans hcG; replace hcH := (upd_other _ 18441 (.int .u32 9) (i := 20154) (by decide)).trans hcH; replace hG9 := hB.row hG9 (by omega); replace hHr := hB.row hHr (by omega); clear hr hB))
                  go_meet
                  exact ⟨_, hZ, hc1, hcO, hcT, hcG, hcH, ⟨_, hG9⟩, hHr, hTk, hg9, hN9, hgh, hIn, ho0, ho1, hil, by omega, by omega⟩
                case rest =>
                  obtain ⟨c9, hS⟩ := hcut
                  apply_assumption
                  exact (tail26 w _ a0 len1 a8 cap8 a9 cap9 off ia il ic ta len8 tc len9 z8 N g9 gh c9 w8 hS).use rfl

set_option maxRecDepth 100000 in
theorem law_long (a0 : Bool) (a1 : Option Addr) (len1 cap1 : Nat) (a2 : Int) (a3 : Int) (a4 : Bool) (a5 : Int) (a6 : Bool) (a7 : Option Addr) (len7 cap7 : Nat) (a8 : Option Addr) (len8 cap8 : Nat) (a9 : Option Addr) (len9 cap9 : Nat) (a10 : Int) (a11 : Int) (w : World)
    (h1 : len1 ≤ 140737488355328) (h7 : len7 ≤ 140737488355328) (h8 : len8 ≤ 140737488355328) (h9 : len9 ≤ 140737488355328) (hsum : 1048576 < len1 + len7 + len8 + len9) :
    Calls Yba.prog 3 #[.bool a0, .slice a1 len1 cap1, .int .i64 a2, .int .u32 a3, .bool a4, .int .u32 a5, .bool a6, .slice a7 len7 cap7, .slice a8 len8 cap8, .slice a9 len9 cap9, .int .u64 a10, .int .u8 a11] w fun e w' => e = .returned (.bool true) ∧ Below w.heap.size w w' := by
  have HS : ((1048576 : Int) < (len1 : Int) + len7 + len8 + len9) = True := by simp; omega
  go_enter Yba.func3, Yba.ntmps3
  go_wp2
  go_ret
  exact ⟨rfl, Below.refl _ _⟩
end Go.Proofs.Ybulkeass
