/-
  '(*parser).last' (function 8) and '(*parser).furthest' (function 6) by their contracts.
-/
import Derived.Test.YbulkeatgSame
import Derived.RegionTactic
import Derived.BigRegion
namespace Go.Proofs.Ybulkeatg
open Go.RowKit
attribute [local go_sem ↓] Go.wp_at_zero Go.wp_at_succ

theorem al {w : World} {a : Addr} {v : Value} (h : w.cell? a = some v) (o : Obj) : (w.alloc o).cell? a = some v := by
  rw [World.cell?_alloc_lt _ _ _ (World.block_lt_of_cell? w _ h)]; exact h

theorem there_new (w : World) (cs : Array Value) (T : TypeId) : (w.alloc (.cells cs T)).there w.heap.size 0 cs.size := fun j hj => by
  have hb : (w.alloc (.cells cs T)).heap[w.heap.size]? = some (.cells cs T (0, 0)) := heap_alloc_new w _
  refine ⟨?_, ?_⟩
  · rw [Nat.zero_add, cell_of_row _ _ j cs T (0, 0) hb, Array.getElem?_eq_getElem hj]; rfl
  · unfold World.frozen?; rw [hb]; simp
theorem res_cell {fn : Func} {p : Tmp} {W : World} {g : Nat} {t : Tok} {tmps : Array Value} (h : fn.results = #[.cell p 31]) (hp : tmps.getD p undef = .pointer (some ⟨g, 0, none⟩)) (hr : W.rangeAt g 0 (c9 t)) :
    (results fn tmps).run Yba.prog W = .ok (.agg (c9 t).toArray) W := by
  have hl := run_loadVar_mid (P := Yba.prog) W g 0 31 (c9 t) _ hr Yba.underlying31 rfl size31
  have hp' : tmps[p]?.getD undef = .pointer (some ⟨g, 0, none⟩) := by simpa using hp
  simp only [results, h]
  simp [hp', asAddr, hl]

/-- what the walks know of the parser's block: its current token, 'ahead' and 'held' -/
def Psr (w : World) (pb : Nat) (t : Tok) (va vh : Value) : Prop := w.rangeAt pb 1 (c9 t) ∧ w.cell? ⟨pb, 10, none⟩ = some va ∧ w.cell? ⟨pb, 12, none⟩ = some vh

set_option maxHeartbeats 1000000 in
theorem last_tok (pb : Nat) (t : Tok) (ao : Option Addr) (c : Nat) (vh : Value) (w : World) (h : Psr w pb t (.slice ao 0 c) vh) :
    Calls Yba.prog 8 #[.pointer (some ⟨pb, 0, none⟩)] w fun e w' => e = .returned (.agg (c9 t).toArray) ∧ Below w.heap.size w w' := by
  obtain ⟨hr, h10, h12⟩ := h
  obtain ⟨⟨b0, b1, b2, b3, b4, b5⟩, b6, b7, b8⟩ := nine_of hr
  simp only [Nat.reduceAdd] at b1 b2 b3 b4 b5 b6 b7 b8
  clear hr
  have g10 := al h10
  have d0 := al b0; have d1 := al b1; have d2 := al b2; have d3 := al b3; have d4 := al b4; have d5 := al b5; have d6 := al b6; have d7 := al b7; have d8 := al b8
  clear h10 h12 b0 b1 b2 b3 b4 b5 b6 b7 b8
  go_enter Yba.func8, Yba.ntmps8
  go_wp2
  refine bodyPost_ret (v := .agg #[.int .u8 t.k, .string t.s, .int .i64 t.a, .int .i64 t.b, .int .i64 t.c, .int .i64 t.d, .int .i64 0, .int .i64 0, .int .i64 0]) (by simp [results, Yba.results8, go_sem]) rfl ⟨rfl, ?_⟩
  exact (Below.refl _ _).alloc (Nat.le_refl _) _

set_option maxHeartbeats 1000000 in
theorem last_ahead (pb : Nat) (t0 t : Tok) (g n : Nat) (vh : Value) (w : World) (h : Psr w pb t0 (.slice (some ⟨g, 0, none⟩) (n + 1) (n + 1)) vh) (hn : n < 1048576) (hr : w.rangeAt g (n * 9) (c9 t)) :
    Calls Yba.prog 8 #[.pointer (some ⟨pb, 0, none⟩)] w fun e w' => e = .returned (.agg (c9 t).toArray) ∧ Below w.heap.size w w' := by
  obtain ⟨_, h10, h12⟩ := h
  obtain ⟨⟨b0, b1, b2, b3, b4, b5⟩, b6, b7, b8⟩ := nine_of hr
  clear hr
  have g10 := al h10
  have d0 := al b0; have d1 := al b1; have d2 := al b2; have d3 := al b3; have d4 := al b4; have d5 := al b5; have d6 := al b6; have d7 := al b7; have d8 := al b8
  clear h10 h12 b0 b1 b2 b3 b4 b5 b6 b7 b8
  go_enter Yba.func8, Yba.ntmps8
  go_wp2
  go_region
  go_wp2
  refine bodyPost_ret (v := .agg #[.int .u8 t.k, .string t.s, .int .i64 t.a, .int .i64 t.b, .int .i64 t.c, .int .i64 t.d, .int .i64 0, .int .i64 0, .int .i64 0]) (by simp [results, Yba.results8, go_sem]) rfl ⟨rfl, ?_⟩
  exact ((Below.refl _ _).alloc (Nat.le_refl _) _).drew

set_option maxHeartbeats 1000000 in
theorem furthest_held (pb : Nat) (t0 t : Tok) (va : Value) (g n : Nat) (w : World) (h : Psr w pb t0 va (.slice (some ⟨g, 0, none⟩) (n + 1) (n + 1))) (hn : n < 1048576) (hr : w.rangeAt g (n * 9) (c9 t)) :
    Calls Yba.prog 6 #[.pointer (some ⟨pb, 0, none⟩)] w fun e w' => e = .returned (.agg (c9 t).toArray) ∧ Below w.heap.size w w' := by
  obtain ⟨_, h10, h12⟩ := h
  obtain ⟨⟨b0, b1, b2, b3, b4, b5⟩, b6, b7, b8⟩ := nine_of hr
  clear hr
  have g12 := al h12
  have d0 := al b0; have d1 := al b1; have d2 := al b2; have d3 := al b3; have d4 := al b4; have d5 := al b5; have d6 := al b6; have d7 := al b7; have d8 := al b8
  clear h10 h12 b0 b1 b2 b3 b4 b5 b6 b7 b8
  go_enter Yba.func6, Yba.ntmps6
  go_wp2
  go_region
  go_wp2
  refine bodyPost_ret (v := .agg #[.int .u8 t.k, .string t.s, .int .i64 t.a, .int .i64 t.b, .int .i64 t.c, .int .i64 t.d, .int .i64 0, .int .i64 0, .int .i64 0]) (by simp [results, Yba.results6, go_sem]) rfl ⟨rfl, ?_⟩
  exact ((Below.refl _ _).alloc (Nat.le_refl _) _).drew

theorem Psr.alloc {w : World} {pb : Nat} {t : Tok} {va vh : Value} (h : Psr w pb t va vh) (o : Obj) : Psr (w.alloc o) pb t va vh :=
  ⟨World.rangeAt_alloc h.1 o, al h.2.1 o, al h.2.2 o⟩

set_option maxHeartbeats 1000000 in
theorem furthest_last (pb : Nat) (t0 t : Tok) (va : Value) (ao : Option Addr) (c : Nat) (w : World) (h : Psr w pb t0 va (.slice ao 0 c))
    (hlast : ∀ o, Calls Yba.prog 8 #[.pointer (some ⟨pb, 0, none⟩)] (w.alloc o) fun e w' => e = .returned (.agg (c9 t).toArray) ∧ Below (w.alloc o).heap.size (w.alloc o) w') :
    Calls Yba.prog 6 #[.pointer (some ⟨pb, 0, none⟩)] w fun e w' => e = .returned (.agg (c9 t).toArray) ∧ Below w.heap.size w w' := by
  have g12 := al h.2.2
  have HL : Hid (∀ o, Calls Yba.prog 8 #[.pointer (some ⟨pb, 0, none⟩)] (w.alloc o) fun e w' => e = .returned (.agg (c9 t).toArray) ∧ Below (w.alloc o).heap.size (w.alloc o) w') := hlast
  clear hlast
  go_enter Yba.func6, Yba.ntmps6
  go_wp2_with fail
  refine (HL.out _).mono ?_
  rintro e w2 ⟨rfl, hb2⟩
  have ht0 : World.there (w.alloc (Obj.cells #[.int .u8 0, .string { data := #[] }, .int .i64 0, .int .i64 0, .int .i64 0, .int .i64 0, .int .i64 0, .int .i64 0, .int .i64 0] 31)) w.heap.size 0 9 := there_new w _ 31
  have ht2 : w2.there w.heap.size 0 9 := there_below hb2 (by simp) ht0
  have hr2 : (w2.setCells w.heap.size 0 (c9 t)).rangeAt w.heap.size 0 (c9 t) := World.rangeAt_setCells_same _ _ _ _ ht2
  clear ht0
  go_wp2_with ((with_reducible refine store_g 31 w.heap.size 0 (c9 t) 9 ?_ ?_ ht2 (len9 t) size31 (one9 t) ?_); (· rfl); (· rfl))
  refine bodyPost_ret (v := .agg (c9 t).toArray) (res_cell Yba.results6 rfl hr2) rfl ⟨rfl, ?_⟩
  exact (((Below.refl _ _).alloc (Nat.le_refl _) _).trans (hb2.mono (by simp))).trans (below_setCells _ _ _ _)
end Go.Proofs.Ybulkeatg
