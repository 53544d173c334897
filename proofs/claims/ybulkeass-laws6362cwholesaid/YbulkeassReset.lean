/-
  '(*blockWriter).reset' (function 7) and '(*Writer).Reset' (function 5): the walks.
-/
import Derived.Test.YbulkeassMove
import Derived.OwnWalk
import Derived.Deep.AppendLies
import Derived.Lib.SliceRun
namespace Go.Proofs.Ybulkeass
open Go.RowKit
attribute [local go_sem ↓] Go.wp_at_zero Go.wp_at_succ

theorem size22 : (Yba.prog.info? 22).map (·.size) = some 1 := by kernel_rfl
theorem size24 : (Yba.prog.info? 24).map (·.size) = some 1 := by kernel_rfl
theorem size25 : (Yba.prog.info? 25).map (·.size) = some 1 := by kernel_rfl
theorem size34 : (Yba.prog.info? 34).map (·.size) = some 1 := by kernel_rfl
theorem size28 : (Yba.prog.info? 28).map (·.size) = some 1 := by kernel_rfl
theorem size30 : (Yba.prog.info? 30).map (·.size) = some 1 := by kernel_rfl
theorem size5 : (Yba.prog.info? 5).map (·.size) = some 1 := by kernel_rfl
theorem info5 : (Yba.prog.info? 5).map (fun i => (i.zero, i.size, i.bytes)) = some (some (.int .u8 0), 1, 1) := by kernel_rfl
theorem info23 : (Yba.prog.info? 23).map (fun i => (i.zero, i.size, i.bytes)) = some (some (.int .u32 0), 1, 4) := by kernel_rfl

set_option maxRecDepth 100000 in
theorem reset7 (b g ol oc : Nat) (c : Nat → Value) (w : World) (hZ : w.rowIs b 47 20155 c) (ho : c 16707 = .slice (some ⟨g, 0, none⟩) ol oc) :
    Calls Yba.prog 7 #[.pointer (some ⟨b, 16707, none⟩)] w fun e w' => e = .returned (.tuple #[]) ∧ w'.rowIs b 47 20155 (upd (upd (upd c 16707 (.slice (some ⟨g, 0, none⟩) 0 oc)) 16708 (.int .u64 0)) 16709 (.int .u64 0)) ∧ But b w w' := by
  have k0 := hZ.cell (i := 16707) (by decide)
  rw [ho] at k0
  go_enter Yba.func7, Yba.ntmps7
  go_wp2_with (first
    | ((with_reducible refine store1_g 22 16707 (.slice (some ⟨g, 0, none⟩) 0 oc) hZ ?_ ?_ (by decide) size22 rfl ?_); (· rfl); (· rfl); intro w1 hZ1 hB1; clear k0)
    | ((with_reducible refine store1_g 25 16708 (.int .u64 0) hZ1 ?_ ?_ (by decide) size25 rfl ?_); (· rfl); (· rfl); intro w2 hZ2 hB2)
    | ((with_reducible refine store1_g 34 16709 (.int .u64 0) hZ2 ?_ ?_ (by decide) size34 rfl ?_); (· rfl); (· rfl); intro w3 hZ3 hB3))
  go_end0
  exact ⟨rfl, hZ3, (hB1.trans hB2).trans hB3⟩

theorem owns_of_row {w : World} {g m : Nat} {e : TypeId} {f : Nat → Value} (h : w.rowIs g e m f) (hm : m ≤ maxLen) : w.ownsRow 0 e 1 (.slice (some ⟨g, 0, none⟩) 0 m) 0 [] := by
  obtain ⟨cur, hb, hs, _⟩ := h
  exact ⟨by simp, .inr ⟨g, m, cur, rfl, Nat.zero_le _, hb, Nat.zero_le _, hm, by omega, by simp⟩⟩
theorem row_of_owns {w : World} {g m : Nat} {e : TypeId} {u v : Value} (h : w.ownsRow 0 e 1 (.slice (some ⟨g, 0, none⟩) 2 m) 2 [u, v]) : ∃ f, w.rowIs g e m f ∧ f 0 = u ∧ f 1 = v := by
  rcases h.2 with ⟨h1, _⟩ | ⟨g', cap, cur, hv, _, hh, hn, hc, hs, ht⟩
  · cases h1
  · cases hv
    have hsz : cur.size = m := by omega
    have t0 : (cur.toList.take (2 * 1))[0]? = some u := by rw [ht]; rfl
    have t1 : (cur.toList.take (2 * 1))[1]? = some v := by rw [ht]; rfl
    refine ⟨fun i => cur.getD i undef, ⟨cur, hh, hsz, fun i hi => ?_⟩, ?_, ?_⟩
    · have : i < cur.size := by omega
      simp [this]
    · have : 0 < cur.size := by omega
      simp [this] at t0 ⊢; exact t0
    · have : 1 < cur.size := by omega
      simp [this] at t1 ⊢; exact t1
theorem news2 (w : World) (u v : Value) (e : TypeId) : ∀ j x, [u, v][j]? = some x → (w.alloc (.cells #[u, v] e)).cell? ((⟨w.heap.size, 0, none⟩ : Addr).add j) = some x :=
  World.news_of_block (heap_alloc_new w _)

theorem Fr.grown {b g : Nat} {w u v : World} (h : Fr b g w u) (k : u.grownBy v (some g)) : Fr b g w v :=
  ⟨Nat.le_trans h.size k.size, fun i h1 h2 h3 => (k.block i (Nat.lt_of_lt_of_le h1 h.size) (by simpa using h3)).trans (h.blk i h1 h2 h3), fun B h1 h2 h3 => (h.bel B h1 h2 h3).trans ((Below.refl _ _).grown k (Nat.le_trans h3 h.size) (fun k hk => by cases hk; exact h2))⟩
theorem Fr.loosen {b g g' : Nat} {w u : World} (h : Fr b g w u) (hg : w.heap.size ≤ g) : Fr b g' w u :=
  ⟨h.size, fun i h1 h2 _ => h.blk i h1 h2 (by omega), fun B h1 _ h3 => h.bel B h1 (by omega) h3⟩

/-- WHAT IS KNOWN BEHIND Reset -/
structure Rst (b go : Nat) (off d : Int) (wv : Value) (c : Nat → Value) (w w' : World) (c' : Nat → Value) (gi ic : Nat) (tv : Value) (g oc : Nat) (f : Nat → Value) : Prop where
  row : w'.rowIs b 47 20155 c'
  fr : Fr b go w w'
  outr : w'.rowIs g 5 oc f
  f0 : f 0 = .int .u8 120
  f1 : f 1 = .int .u8 1
  c0 : c' 0 = wv
  c1 : c' 1 = .slice (some ⟨gi, 0, none⟩) 0 ic
  c2 : c' 2 = .int .i64 0
  c3 : c' 3 = .int .u32 1
  c4 : c' 4 = .nilIface
  cO : c' 16389 = .int .i64 (newOff off d)
  cT : c' 16390 = tv
  cG : c' 16707 = .slice (some ⟨g, 0, none⟩) 2 oc
  cB : c' 16708 = .int .u64 0
  cN : c' 16709 = .int .u64 0
  hsh : ∀ i, i < 16384 → c' (5 + i) = newH off d (c (5 + i))
  rest : ∀ j, (16391 ≤ j ∧ j < 16707) ∨ 16710 ≤ j → c' j = c j

theorem eqlNil (w : World) (a : Addr) (n m : Nat) : (binOp .eql 22 (.slice (some a) n m) (.slice none 0 0)).run Yba.prog w = .ok (.bool false) w := by
  simpa using Lib.run_eql_slice_nil (P := Yba.prog) w 22 5 (some a) n m 0 0 Yba.underlying22
theorem eqlNil0 (w : World) : (binOp .eql 22 (.slice none 0 0) (.slice none 0 0)).run Yba.prog w = .ok (.bool true) w := by
  simpa using Lib.run_eql_slice_nil (P := Yba.prog) w 22 5 none 0 0 0 0 Yba.underlying22

set_option maxRecDepth 100000 in
theorem reset_some (b gi il ic go ol oc : Nat) (c fo : Nat → Value) (off : Int) (wv : Value) (w : World) (hZ0 : w.rowIs b 47 20155 c) (hh : ∀ i, i < 16384 → ∃ n : Int, c (5 + i) = .int .u32 n) (hof : c 16389 = .int .i64 off) (h0 : 0 ≤ off) (h3 : off + (il + 1) ≤ 2147483648)
    (hin : c 1 = .slice (some ⟨gi, 0, none⟩) il ic) (hout : c 16707 = .slice (some ⟨go, 0, none⟩) ol oc) (hgo : w.rowIs go 5 oc fo) (hoc : 2 ≤ oc) (hm : oc ≤ maxLen) (hne : go ≠ b) (hwv : wv.oneCell' = true) :
    Calls Yba.prog 5 #[.pointer (some ⟨b, 0, none⟩), wv] w fun e w' => e = .returned (.tuple #[]) ∧ ∃ c' f, Rst b go off (il + 1) wv c w w' c' gi ic (c 16390) go oc f := by
  obtain ⟨i0, hi, hz0, hz1, hz2⟩ := info_parts info5
  have hF : Fr b go w w := Fr.refl _ _ _
  have hG := hgo
  have q := eqlNil
  have hil : (il : Int) + 1 ≤ 2147483648 := by omega
  go_enter Yba.func5, Yba.ntmps5
  go_wp2_with (first
    | ((with_reducible refine load1_g 22 1 (.slice (some ⟨gi, 0, none⟩) il ic) hZ0 ?_ hin (by decide) Yba.underlying22 rfl ?_); (· rfl))
    | ((with_reducible refine store1_g 28 0 wv hZ0 ?_ ?_ (by decide) size28 hwv ?_); (· rfl); (· rfl); intro w1 hZ1 hB; replace hF := hF.but hB; replace hG := hB.row hG hne; clear hB)
    | ((with_reducible refine load1_g 22 1 (.slice (some ⟨gi, 0, none⟩) il ic) hZ1 ?_ ((upd_other _ _ _ (by decide)).trans hin) (by decide) Yba.underlying22 rfl ?_); (· rfl))
    | (go_at_call 6; refine (move_any b _ off ((il : Nat) + 1) _ hZ1 (fun i hi => by rw [upd_other _ _ _ (by omega)]; exact hh i hi) ((upd_other _ _ _ (by decide)).trans hof) h0 (by omega) h3).mono ?_; rintro e w2 ⟨rfl, c2, hZ2, hB, hO2, hH2, hR2⟩; replace hF := hF.but hB; replace hG := hB.row hG hne; clear hB; have hin2 : c2 1 = .slice (some ⟨gi, 0, none⟩) il ic := (hR2 1 (by decide)).trans ((upd_other _ _ _ (by decide)).trans hin))
    | ((with_reducible refine load1_g 22 1 (.slice (some ⟨gi, 0, none⟩) il ic) hZ2 ?_ hin2 (by decide) Yba.underlying22 rfl ?_); (· rfl))
    | ((with_reducible refine store1_g 22 1 (.slice (some ⟨gi, 0, none⟩) 0 ic) hZ2 ?_ ?_ (by decide) size22 rfl ?_); (· rfl); (· first | rfl | go_num); intro w3 hZ3 hB; replace hF := hF.but hB; replace hG := hB.row hG hne; clear hB; skip)
    | ((with_reducible refine store1_g 3 2 (.int .i64 0) hZ3 ?_ ?_ (by decide) size3 rfl ?_); (· rfl); (· first | rfl | go_num); intro w4 hZ4 hB; replace hF := hF.but hB; replace hG := hB.row hG hne; clear hB)
    | ((with_reducible refine store1_g 23 3 (.int .u32 1) hZ4 ?_ ?_ (by decide) size23 rfl ?_); (· rfl); (· first | rfl | go_num); intro w5 hZ5 hB; replace hF := hF.but hB; replace hG := hB.row hG hne; clear hB)
    | ((with_reducible refine store1_g 30 4 .nilIface hZ5 ?_ ?_ (by decide) size30 rfl ?_); (· rfl); (· first | rfl | go_num); intro w6 hZ6 hB; replace hF := hF.but hB; replace hG := hB.row hG hne; clear hB; have hout6 : upd (upd (upd (upd c2 1 (.slice (some ⟨gi, 0, none⟩) 0 ic)) 2 (.int .i64 0)) 3 (.int .u32 1)) 4 .nilIface 16707 = .slice (some ⟨go, 0, none⟩) ol oc := by simp [upd, hR2, hout])
    | (go_at_call 7; refine (reset7 b go ol oc _ _ hZ6 hout6).mono ?_; rintro e w7 ⟨rfl, hZ7, hB⟩; replace hF := hF.but hB; replace hG := hB.row hG hne; clear hB)
    | ((with_reducible refine load1_g 22 16707 (.slice (some ⟨go, 0, none⟩) 0 oc) hZ7 ?_ (by simp [upd]) (by decide) Yba.underlying22 rfl ?_); (· rfl))
    | (at_builtin; refine wpList_append_fits _ rfl _ _ 22 rfl 0 5 i0 1 Yba.underlying22 hi hz1 go 0 oc [] rfl (owns_of_row (hG.alloc _) hm) ⟨w7.heap.size, 0, none⟩ 2 2 [.int .u8 120, .int .u8 1] rfl rfl (news2 w7 _ _ _) (by simp [Value.oneCell']) (by omega) ?_; intro w8 hown8 hgrow8; have hZ8 := (hZ7.alloc (.cells #[.int .u8 120, .int .u8 1] 5)).of_block (hgrow8.block b (hZ7.alloc _).lt (by simpa using hne.symm)))
    | ((with_reducible refine store1_g 22 16707 (.slice (some ⟨go, 0, none⟩) 2 oc) hZ8 ?_ ?_ (by decide) size22 rfl ?_); (· rfl); (· rfl); intro w9 hZ9 hB9))
  go_end0
  obtain ⟨f, hf, hf0, hf1⟩ := row_of_owns (by simpa using hown8)
  exact ⟨rfl, _, f, ⟨hZ9, ((hF.gr ((Below.refl _ _).alloc (Nat.le_refl _) _)).grown hgrow8).but hB9, hB9.row hf hne, hf0, hf1, by simp [upd, hR2], by simp [upd], by simp [upd], by simp [upd], by simp [upd], by simp [upd, hO2], by simp [upd, hR2], by simp [upd], by simp [upd], by simp [upd], fun i hi => by
    simp only [upd]
    repeat rw [if_neg (by omega)]
    rw [hH2 i hi, upd_other _ _ _ (by omega)], fun j hj => by
    simp only [upd]
    repeat rw [if_neg (by omega)]
    rw [hR2 j (by omega), upd_other _ _ _ (by omega)]⟩⟩

set_option maxRecDepth 100000 in
theorem reset_nil (b go : Nat) (c : Nat → Value) (off : Int) (wv : Value) (w : World) (hZ0 : w.rowIs b 47 20155 c) (hh : ∀ i, i < 16384 → ∃ n : Int, c (5 + i) = .int .u32 n) (hof : c 16389 = .int .i64 off) (h0 : 0 ≤ off) (h3 : off + ((0 : Nat) + 1) ≤ 2147483648)
    (hin : c 1 = .slice none 0 0) (hwv : wv.oneCell' = true) :
    Calls Yba.prog 5 #[.pointer (some ⟨b, 0, none⟩), wv] w fun e w' => e = .returned (.tuple #[]) ∧ ∃ c' f gi gt g, w.heap.size ≤ g ∧ Rst b go off ((0 : Nat) + 1) wv c w w' c' gi 98303 (.slice (some ⟨gt, 0, none⟩) 0 65535) g 65599 f := by
  obtain ⟨i0, hi, hz0, hz1, hz2⟩ := info_parts info5
  have hbl := hZ0.lt
  have q := eqlNil0
  have hm : 65599 ≤ maxLen := by unfold maxLen; omega
  go_enter Yba.func5, Yba.ntmps5
  go_wp2_with (first
    | ((with_reducible refine load1_g 22 1 (.slice none 0 0) hZ0 ?_ hin (by decide) Yba.underlying22 rfl ?_); (· rfl))
    | ((with_reducible refine make_g 22 5 (.int .u8 0) 1 0 98303 Yba.underlying22 info5 rfl .i64 .i64 ?_ ?_ (by decide) (by decide) (by decide) ?_); (· rfl); (· rfl); intro wa gi hge hra hgr; have hFa : Fr b b w wa := (Fr.refl _ _ _).gr hgr; have hZa := hgr.row hZ0; clear hgr hra)
    | ((with_reducible refine store1_g 22 1 (.slice (some ⟨gi, 0, none⟩) 0 98303) hZa ?_ ?_ (by decide) size22 rfl ?_); (· rfl); (· rfl); intro wb hZb hB; replace hFa := hFa.but hB; clear hB)
    | ((with_reducible refine make_g 24 23 (.int .u32 0) 4 0 65535 Yba.underlying24 info23 rfl .i64 .i64 ?_ ?_ (by decide) (by decide) (by decide) ?_); (· rfl); (· rfl); intro wc gt hge2 hra hgr; replace hFa := hFa.gr hgr; have hZc := hgr.row hZb; clear hgr hra)
    | ((with_reducible refine store1_g 24 16390 (.slice (some ⟨gt, 0, none⟩) 0 65535) hZc ?_ ?_ (by decide) size24 rfl ?_); (· rfl); (· rfl); intro wd hZd hB; replace hFa := hFa.but hB; clear hB)
    | ((with_reducible refine make_g 22 5 (.int .u8 0) 1 0 65599 Yba.underlying22 info5 rfl .i64 .i64 ?_ ?_ (by decide) (by decide) (by decide) ?_); (· rfl); (· rfl); intro we g hge3 hG hgr; have hgw : w.heap.size ≤ g := (by rw [← hge3]; exact hFa.size); replace hFa := hFa.gr hgr; have hZe := hgr.row hZd; clear hgr)
    | ((with_reducible refine store1_g 22 16707 (.slice (some ⟨g, 0, none⟩) 0 65599) hZe ?_ ?_ (by decide) size22 rfl ?_); (· rfl); (· rfl); intro wf hZf hB; have hne : g ≠ b := (by omega); have hF : Fr b g w wf := ⟨(hFa.but hB).size, fun i h1 h2 _ => (hFa.but hB).blk i h1 h2 h2, fun B h1 _ h3 => (hFa.but hB).bel B h1 h1 h3⟩; replace hG := hB.row hG hne; clear hB hFa; have hin1 : upd (upd (upd c 1 (.slice (some ⟨gi, 0, none⟩) 0 98303)) 16390 (.slice (some ⟨gt, 0, none⟩) 0 65535)) 16707 (.slice (some ⟨g, 0, none⟩) 0 65599) 1 = .slice (some ⟨gi, 0, none⟩) 0 98303 := (by simp [upd]); have hof1 : upd (upd (upd c 1 (.slice (some ⟨gi, 0, none⟩) 0 98303)) 16390 (.slice (some ⟨gt, 0, none⟩) 0 65535)) 16707 (.slice (some ⟨g, 0, none⟩) 0 65599) 16389 = .int .i64 off := (by simp [upd, hof]); have hh1 : ∀ i, i < 16384 → ∃ n : Int, upd (upd (upd c 1 (.slice (some ⟨gi, 0, none⟩) 0 98303)) 16390 (.slice (some ⟨gt, 0, none⟩) 0 65535)) 16707 (.slice (some ⟨g, 0, none⟩) 0 65599) (5 + i) = .int .u32 n := fun i hi => by rw [upd_other _ _ _ (by omega), upd_other _ _ _ (by omega), upd_other _ _ _ (by omega)]; exact hh i hi)
    | ((with_reducible refine store1_g 28 0 wv hZf ?_ ?_ (by decide) size28 hwv ?_); (· rfl); (· rfl); intro w1 hZ1 hB; replace hF := hF.but hB; replace hG := hB.row hG hne; clear hB)
    | ((with_reducible refine load1_g 22 1 (.slice (some ⟨gi, 0, none⟩) 0 98303) hZ1 ?_ ((upd_other _ _ _ (by decide)).trans hin1) (by decide) Yba.underlying22 rfl ?_); (· rfl))
    | (go_at_call 6; refine (move_any b _ off ((0 : Nat) + 1) _ hZ1 (fun i hi => by rw [upd_other _ _ _ (by omega)]; exact hh1 i hi) ((upd_other _ _ _ (by decide)).trans hof1) h0 (by omega) h3).mono ?_; rintro e w2 ⟨rfl, c2, hZ2, hB, hO2, hH2, hR2⟩; replace hF := hF.but hB; replace hG := hB.row hG hne; clear hB; have hin2 : c2 1 = .slice (some ⟨gi, 0, none⟩) 0 98303 := (hR2 1 (by decide)).trans ((upd_other _ _ _ (by decide)).trans hin1))
    | ((with_reducible refine load1_g 22 1 (.slice (some ⟨gi, 0, none⟩) 0 98303) hZ2 ?_ hin2 (by decide) Yba.underlying22 rfl ?_); (· rfl))
    | ((with_reducible refine store1_g 22 1 (.slice (some ⟨gi, 0, none⟩) 0 98303) hZ2 ?_ ?_ (by decide) size22 rfl ?_); (· rfl); (· first | rfl | go_num); intro w3 hZ3 hB; replace hF := hF.but hB; replace hG := hB.row hG hne; clear hB; skip)
    | ((with_reducible refine store1_g 3 2 (.int .i64 0) hZ3 ?_ ?_ (by decide) size3 rfl ?_); (· rfl); (· first | rfl | go_num); intro w4 hZ4 hB; replace hF := hF.but hB; replace hG := hB.row hG hne; clear hB)
    | ((with_reducible refine store1_g 23 3 (.int .u32 1) hZ4 ?_ ?_ (by decide) size23 rfl ?_); (· rfl); (· first | rfl | go_num); intro w5 hZ5 hB; replace hF := hF.but hB; replace hG := hB.row hG hne; clear hB)
    | ((with_reducible refine store1_g 30 4 .nilIface hZ5 ?_ ?_ (by decide) size30 rfl ?_); (· rfl); (· first | rfl | go_num); intro w6 hZ6 hB; replace hF := hF.but hB; replace hG := hB.row hG hne; clear hB; have hout6 : upd (upd (upd (upd c2 1 (.slice (some ⟨gi, 0, none⟩) 0 98303)) 2 (.int .i64 0)) 3 (.int .u32 1)) 4 .nilIface 16707 = .slice (some ⟨g, 0, none⟩) 0 65599 := by simp [upd, hR2, upd])
    | (go_at_call 7; refine (reset7 b g 0 65599 _ _ hZ6 hout6).mono ?_; rintro e w7 ⟨rfl, hZ7, hB⟩; replace hF := hF.but hB; replace hG := hB.row hG hne; clear hB)
    | ((with_reducible refine load1_g 22 16707 (.slice (some ⟨g, 0, none⟩) 0 65599) hZ7 ?_ (by simp [upd]) (by decide) Yba.underlying22 rfl ?_); (· rfl))
    | (at_builtin; refine wpList_append_fits _ rfl _ _ 22 rfl 0 5 i0 1 Yba.underlying22 hi hz1 g 0 65599 [] rfl (owns_of_row (hG.alloc _) hm) ⟨w7.heap.size, 0, none⟩ 2 2 [.int .u8 120, .int .u8 1] rfl rfl (news2 w7 _ _ _) (by simp [Value.oneCell']) (by omega) ?_; intro w8 hown8 hgrow8; have hZ8 := (hZ7.alloc (.cells #[.int .u8 120, .int .u8 1] 5)).of_block (hgrow8.block b (hZ7.alloc _).lt (by simpa using hne.symm)))
    | ((with_reducible refine store1_g 22 16707 (.slice (some ⟨g, 0, none⟩) 2 65599) hZ8 ?_ ?_ (by decide) size22 rfl ?_); (· rfl); (· rfl); intro w9 hZ9 hB9))
  go_end0
  obtain ⟨f, hf, hf0, hf1⟩ := row_of_owns (by simpa using hown8)
  exact ⟨rfl, _, f, gi, gt, g, hgw, ⟨hZ9, (((hF.gr ((Below.refl _ _).alloc (Nat.le_refl _) _)).grown hgrow8).but hB9).loosen hgw, hB9.row hf hne, hf0, hf1, by simp [upd, hR2], by simp [upd], by simp [upd], by simp [upd], by simp [upd], by simp [upd, hO2], by simp [upd, hR2], by simp [upd], by simp [upd], by simp [upd], fun i hi => by
    simp only [upd]
    repeat rw [if_neg (by omega)]
    rw [hH2 i hi, upd_other _ _ _ (by omega)]; rw [upd_other _ _ _ (by omega), upd_other _ _ _ (by omega), upd_other _ _ _ (by omega)], fun j hj => by
    simp only [upd]
    repeat rw [if_neg (by omega)]
    rw [hR2 j (by omega), upd_other _ _ _ (by omega)]; rw [upd_other _ _ _ (by omega), upd_other _ _ _ (by omega), upd_other _ _ _ (by omega)]⟩⟩
end Go.Proofs.Ybulkeass
