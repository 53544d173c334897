/-
  '(*run).state' (function 8) by its contracts.
-/
import Derived.Test.YbulkeavyFld
import Derived.Deep.RegionHeld3
import Derived.Deep.DrawnRows
import Derived.Deep.AppendLies
import Derived.Deep.RegionLaw
namespace Go.Proofs.Ybulkeavy
open Go.RowKit
attribute [local go_sem ↓] Go.wp_at_zero Go.wp_at_succ

theorem box_kept {w w2 : World} {C D : Array Value} (hb2 : Below ((w.alloc (.cells C 60)).alloc (.cells D 60)).drew.heap.size ((w.alloc (.cells C 60)).alloc (.cells D 60)).drew w2) :
    w2.heap[w.heap.size]? = some (.cells C 60 (0, 0)) ∧ w2.heap[w.heap.size + 1]? = some (.cells D 60 (0, 0)) ∧ (∀ b o, b < w.heap.size → w2.cell? ⟨b, o, none⟩ = w.cell? ⟨b, o, none⟩) ∧ w.heap.size + 1 < w2.heap.size ∧ Below w.heap.size w w2 := by
  have e1 : (w.alloc (.cells C 60)).heap.size = w.heap.size + 1 := by simp
  have e2 : ((w.alloc (.cells C 60)).alloc (.cells D 60)).drew.heap.size = w.heap.size + 2 := by simp
  have hn := heap_alloc_new (w.alloc (.cells C 60)) (.cells D 60)
  rw [e1] at hn
  have ho : ((w.alloc (.cells C 60)).alloc (.cells D 60)).heap[w.heap.size]? = some (.cells C 60 (0, 0)) := by
    rw [Below.heap_alloc _ _ _ (by omega)]; exact heap_alloc_new w _
  have hB : Below w.heap.size w ((w.alloc (.cells C 60)).alloc (.cells D 60)).drew := (((Below.refl _ _).alloc (Nat.le_refl _) _).alloc (by omega) _).drew
  have hB2 := hB.trans (hb2.mono (by omega))
  refine ⟨(hb2.block _ (by omega)).trans ho, (hb2.block _ (by omega)).trans hn, fun b o h => hB2.cell (p := ⟨b, o, none⟩) h, ?_, hB2⟩
  have := hb2.size
  omega

theorem blk_free {w : World} {b : Nat} {C : Array Value} {T : TypeId} (h : w.heap[b]? = some (.cells C T (0, 0))) (j : Nat) : w.frozen? ⟨b, j, none⟩ = false := by
  unfold World.frozen?; rw [h]; simp

theorem setCells_other (b o : Nat) (vs : List Value) (w : World) (k : Nat) (h : k ≠ b) : (w.setCells b o vs).heap[k]? = w.heap[k]? := by
  induction vs generalizing o w with
  | nil => rfl
  | cons v r ih => rw [World.setCells, ih, Below.heap_setCell _ _ _ _ h]
theorem there_blk {w : World} {b : Nat} {C : Array Value} {T : TypeId} (h : w.heap[b]? = some (.cells C T (0, 0))) : w.there b 0 C.size := fun j hj => by
  refine ⟨?_, ?_⟩
  · rw [Nat.zero_add, cell_of_row _ _ j C T (0, 0) h, Array.getElem?_eq_getElem hj]; rfl
  · exact blk_free h (0 + j)
theorem fin_state {w w2 : World} {D : Array Value} (vs L : List Value) (hD : w2.heap[w.heap.size + 1]? = some (.cells D 60 (0, 0))) (hDs : D.size = 10) (hL : L.length = 10) (hB2 : Below w.heap.size w w2) :
    ((w2.setCells w.heap.size 6 vs).setCells (w.heap.size + 1) 0 L).rangeAt (w.heap.size + 1) 0 L ∧ Below w.heap.size w ((w2.setCells w.heap.size 6 vs).setCells (w.heap.size + 1) 0 L) ∧
      ∀ g, w.heap.size + 2 ≤ g → ((w2.setCells w.heap.size 6 vs).setCells (w.heap.size + 1) 0 L).heap[g]? = w2.heap[g]? := by
  refine ⟨World.rangeAt_setCells_same _ _ _ _ ?_, ?_, ?_⟩
  · rw [hL]
    refine World.there_setCells ?_ _ _ _
    rw [← hDs]; exact there_blk hD
  · exact (hB2.trans (below_setCells _ _ _ _)).trans ((below_setCells _ _ _ _).mono (by omega))
  · intro g hg
    rw [setCells_other _ _ _ _ _ (by omega), setCells_other _ _ _ _ _ (by omega)]
theorem size60 : (Yba.prog.info? 60).map (·.size) = some 10 := by kernel_rfl
theorem res10 {fn : Func} {p : Tmp} {W : World} {g : Nat} (L : List Value) {tmps : Array Value} (h : fn.results = #[.cell p 60]) (hp : tmps.getD p undef = .pointer (some ⟨g, 0, none⟩)) (hL : L.length = 10) (hr : W.rangeAt g 0 L) :
    (results fn tmps).run Yba.prog W = .ok (.agg L.toArray) W := by
  have hl := run_loadVar_mid (P := Yba.prog) W g 0 60 L _ hr Yba.underlying60 rfl (by rw [hL]; exact size60)
  have hp' : tmps[p]?.getD undef = .pointer (some ⟨g, 0, none⟩) := by simpa using hp
  simp only [results, h]
  simp [hp', asAddr, hl]

set_option maxHeartbeats 1000000 in
theorem state_le (rb : Nat) (date kind days : Int) (comp sym test cl ed trig : ByteArray) (fa : Option Addr) (fl fc : Nat) (op na open' blind : Bool) (w : World) (h3 : w.cell? ⟨rb, 3, none⟩ = some (.string trig)) (h4 : w.cell? ⟨rb, 4, none⟩ = some (.int .i64 days)) (h6 : w.cell? ⟨rb, 6, none⟩ = some (.bool open')) (h7 : w.cell? ⟨rb, 7, none⟩ = some (.bool blind)) (hd : days ≤ 0) :
    Calls Yba.prog 8 #[.pointer (some ⟨rb, 0, none⟩), .agg #[.int .i32 date, .string comp, .int .i64 kind, .string sym, .string test, .string cl, .slice fa fl fc, .bool op, .bool na, .string ed]] w fun e w' => ∃ g, e = .returned (.agg #[.int .i32 date, .string comp, .int .i64 kind, .string sym, .string test, .string trig, .slice (some ⟨g, 0, none⟩) 1 1, .bool open', .bool blind, .string ed]) ∧ w'.heap[g]? = some (.cells #[.string { data := #[114, 117, 110] }, .string { data := #[110, 117, 109, 98, 101, 114] }, .string { data := #[] }, .string { data := #[105, 110, 116] }, .string { data := #[] }, .int .i64 days, .int .i64 0] 45 (0, 0)) ∧ w.heap.size ≤ g ∧ Below w.heap.size w w' := by
  have hrb : rb < w.heap.size := World.block_lt_of_cell? w _ h3
  have g3 := fun o => al h3 o
  have k6 := fun o1 o2 => al (al h6 o1) o2
  have k7 := fun o1 o2 => al (al h7 o1) o2
  have k3 := fun o1 o2 => al (al h3 o1) o2
  have K4 : Hid (∀ o1 o2, ((w.alloc o1).alloc o2).cell? ⟨rb, 4, none⟩ = some (.int .i64 days)) := fun o1 o2 => al (al h4 o1) o2
  have hrn : w.heap.size ≠ rb := by omega
  have hrn1 : w.heap.size + 1 ≠ rb := by omega
  have H4 : Hid (w.cell? ⟨rb, 4, none⟩ = some (.int .i64 days)) := h4
  have H6 : Hid (w.cell? ⟨rb, 6, none⟩ = some (.bool open')) := h6
  have H7 : Hid (w.cell? ⟨rb, 7, none⟩ = some (.bool blind)) := h7
  clear h3 h6 h7 h4
  go_enter Yba.func8, Yba.ntmps8
  go_wp2
  go_region_held3 (fun w' => w'.cell? ⟨rb, 6, none⟩ = some (.bool open') ∧ w'.cell? ⟨rb, 7, none⟩ = some (.bool blind))
    (go_keep)
    ((go_at_call 11; refine (figures_any rb days _ ?_).mono ?_; (· exact K4.out _ _); rintro e w2 ⟨g, rfl, hg, hgs, hb2⟩; obtain ⟨hC, hD, hold2, hs2, hB2⟩ := box_kept hb2; have m4 := (hold2 rb 4 hrb).trans H4.out; have m6 := (hold2 rb 6 hrb).trans H6.out; have m7 := (hold2 rb 7 hrb).trans H7.out; have c0 : w2.cell? ⟨w.heap.size, 0, none⟩ = some _ := cell_of_row _ _ 0 _ _ _ hC; have c1 : w2.cell? ⟨w.heap.size, 1, none⟩ = some _ := cell_of_row _ _ 1 _ _ _ hC; have c2 : w2.cell? ⟨w.heap.size, 2, none⟩ = some _ := cell_of_row _ _ 2 _ _ _ hC; have c3 : w2.cell? ⟨w.heap.size, 3, none⟩ = some _ := cell_of_row _ _ 3 _ _ _ hC; have c4 : w2.cell? ⟨w.heap.size, 4, none⟩ = some _ := cell_of_row _ _ 4 _ _ _ hC; have c5 : w2.cell? ⟨w.heap.size, 5, none⟩ = some _ := cell_of_row _ _ 5 _ _ _ hC; have c6 : w2.cell? ⟨w.heap.size, 6, none⟩ = some _ := cell_of_row _ _ 6 _ _ _ hC; have c7 : w2.cell? ⟨w.heap.size, 7, none⟩ = some _ := cell_of_row _ _ 7 _ _ _ hC; have c8 : w2.cell? ⟨w.heap.size, 8, none⟩ = some _ := cell_of_row _ _ 8 _ _ _ hC; have c9 : w2.cell? ⟨w.heap.size, 9, none⟩ = some _ := cell_of_row _ _ 9 _ _ _ hC; have z6 := blk_free hC 6; have z7 := blk_free hC 7; have z8 := blk_free hC 8; have d0 : w2.cell? ⟨w.heap.size + 1, 0, none⟩ = some _ := cell_of_row _ _ 0 _ _ _ hD; have d1 : w2.cell? ⟨w.heap.size + 1, 1, none⟩ = some _ := cell_of_row _ _ 1 _ _ _ hD; have d2 : w2.cell? ⟨w.heap.size + 1, 2, none⟩ = some _ := cell_of_row _ _ 2 _ _ _ hD; have d3 : w2.cell? ⟨w.heap.size + 1, 3, none⟩ = some _ := cell_of_row _ _ 3 _ _ _ hD; have d4 : w2.cell? ⟨w.heap.size + 1, 4, none⟩ = some _ := cell_of_row _ _ 4 _ _ _ hD; have d5 : w2.cell? ⟨w.heap.size + 1, 5, none⟩ = some _ := cell_of_row _ _ 5 _ _ _ hD; have d6 : w2.cell? ⟨w.heap.size + 1, 6, none⟩ = some _ := cell_of_row _ _ 6 _ _ _ hD; have d7 : w2.cell? ⟨w.heap.size + 1, 7, none⟩ = some _ := cell_of_row _ _ 7 _ _ _ hD; have d8 : w2.cell? ⟨w.heap.size + 1, 8, none⟩ = some _ := cell_of_row _ _ 8 _ _ _ hD; have d9 : w2.cell? ⟨w.heap.size + 1, 9, none⟩ = some _ := cell_of_row _ _ 9 _ _ _ hD; have y0 := blk_free hD 0; have y1 := blk_free hD 1; have y2 := blk_free hD 2; have y3 := blk_free hD 3; have y4 := blk_free hD 4; have y5 := blk_free hD 5; have y6 := blk_free hD 6; have y7 := blk_free hD 7; have y8 := blk_free hD 8; have y9 := blk_free hD 9; have HK := And.intro hC hD; clear hold2 hb2))
  go_wp2
  have hgs' : w.heap.size + 2 ≤ g := by simpa using hgs
  obtain ⟨F1, F2, F3⟩ := fin_state (w := w) (w2 := w2) [.slice (some ⟨g, 0, none⟩) 1 1, .bool open', .bool blind] [.int .i32 date, .string comp, .int .i64 kind, .string sym, .string test, .string trig, .slice (some ⟨g, 0, none⟩) 1 1, .bool open', .bool blind, .string ed] hD rfl rfl hB2
  exact bodyPost_ret (v := .agg #[.int .i32 date, .string comp, .int .i64 kind, .string sym, .string test, .string trig, .slice (some ⟨g, 0, none⟩) 1 1, .bool open', .bool blind, .string ed]) (res10 [.int .i32 date, .string comp, .int .i64 kind, .string sym, .string test, .string trig, .slice (some ⟨g, 0, none⟩) 1 1, .bool open', .bool blind, .string ed] Yba.results8 rfl rfl F1) rfl ⟨g, rfl, (F3 g hgs').trans hg, by omega, F2⟩

theorem setCell_blk {w : World} {b : Nat} {C : Array Value} {T : TypeId} {fr : Nat × Nat} (h : w.heap[b]? = some (.cells C T fr)) (j : Nat) (v : Value) : (w.setCell ⟨b, j, none⟩ v).heap[b]? = some (.cells (C.setIfInBounds j v) T fr) := by
  simp [World.setCell, Array.getElem?_modify, h]

/-- behind the three stores into 'base' -/
theorem mid_facts {w w2 : World} {rb g : Nat} {date kind since : Int} {comp sym test ed trig : ByteArray} {fa : Option Addr} {fl fc : Nat} {op na open' blind : Bool} {D F : Array Value} (hC : w2.heap[w.heap.size]? = some (.cells #[.int .i32 date, .string comp, .int .i64 kind, .string sym, .string test, .string trig, .slice fa fl fc, .bool op, .bool na, .string ed] 60 (0, 0))) (hD : w2.heap[w.heap.size + 1]? = some (.cells D 60 (0, 0)))
    (hg : w2.heap[g]? = some (.cells F 45 (0, 0))) (hgs : w.heap.size + 2 ≤ g) (hB2 : Below w.heap.size w w2) (hrb : rb < w.heap.size) (m5 : w2.cell? ⟨rb, 5, none⟩ = some (.int .i32 since)) (w3 : World) (e3 : w3 = ((w2.setCell ⟨w.heap.size, 6, none⟩ (.slice (some ⟨g, 0, none⟩) 1 1)).setCell ⟨w.heap.size, 7, none⟩ (.bool open')).setCell ⟨w.heap.size, 8, none⟩ (.bool blind)) :
    w3.heap[w.heap.size]? = some (.cells #[.int .i32 date, .string comp, .int .i64 kind, .string sym, .string test, .string trig, .slice (some ⟨g, 0, none⟩) 1 1, .bool open', .bool blind, .string ed] 60 (0, 0)) ∧ w3.heap[w.heap.size + 1]? = some (.cells D 60 (0, 0)) ∧ w3.heap[g]? = some (.cells F 45 (0, 0)) ∧ Below w.heap.size w w3 ∧ w3.cell? ⟨rb, 5, none⟩ = some (.int .i32 since) ∧ g < w3.heap.size := by
  have e : w3 = w2.setCells w.heap.size 6 [.slice (some ⟨g, 0, none⟩) 1 1, .bool open', .bool blind] := e3
  have hg3 : w3.heap[g]? = some (.cells F 45 (0, 0)) := by rw [e, setCells_other _ _ _ _ _ (by omega)]; exact hg
  refine ⟨?_, by rw [e, setCells_other _ _ _ _ _ (by omega)]; exact hD, hg3, by rw [e]; exact hB2.trans (below_setCells _ _ _ _), ?_, ?_⟩
  · rw [e3]
    exact setCell_blk (setCell_blk (setCell_blk hC 6 _) 7 _) 8 _
  · rw [e, ← m5]
    exact (below_setCells _ _ _ _).cell (p := ⟨rb, 5, none⟩) hrb
  · rcases Nat.lt_or_ge g w3.heap.size with h | h
    · exact h
    · rw [Array.getElem?_eq_none h] at hg3; cases hg3

theorem info45 : (Yba.prog.info? 45).map (fun i => (i.zero, i.size, i.bytes)) = some (some (.agg #[.string { data := #[] }, .string { data := #[] }, .string { data := #[] }, .string { data := #[] }, .string { data := #[] }, .int .i64 0, .int .i64 0]), 7, 96) := by kernel_rfl
theorem one_fD (key : ByteArray) (d : Int) : ∀ v ∈ fD key d, v.oneCell' = true := by simp [fD, Value.oneCell']
theorem one_fI (key : ByteArray) (d : Int) : ∀ v ∈ fI key d, v.oneCell' = true := by simp [fI, Value.oneCell']
theorem newsD (w : World) (key : ByteArray) (d : Int) : ∀ j v, (fD key d)[j]? = some v → (w.alloc (.cells #[.string key, .string { data := #[112, 97, 105, 114] }, .string { data := #[] }, .string { data := #[100, 97, 116, 101] }, .string { data := #[] }, .int .i64 d, .int .i64 0] 45)).cell? ((⟨w.heap.size, 0, none⟩ : Addr).add j) = some v :=
  World.news_of_block (heap_alloc_new w _)
theorem own_one {w : World} {base g : Nat} {key : ByteArray} {n : Int} (h : w.heap[g]? = some (.cells #[.string key, .string { data := #[110, 117, 109, 98, 101, 114] }, .string { data := #[] }, .string { data := #[105, 110, 116] }, .string { data := #[] }, .int .i64 n, .int .i64 0] 45 (0, 0))) (hb : base ≤ g) : w.ownsRow base 45 7 (.slice (some ⟨g, 0, none⟩) 1 1) 1 (fI key n) :=
  ⟨rfl, .inr ⟨g, 1, _, rfl, hb, h, Nat.le_refl _, by unfold maxLen; omega, rfl, rfl⟩⟩

theorem app_facts {w w3 w4 w5 : World} {g g' n cap' : Nat} {C D : Array Value} {o : Obj} {xs : List Value} (hC : w3.heap[w.heap.size]? = some (.cells C 60 (0, 0))) (hD : w3.heap[w.heap.size + 1]? = some (.cells D 60 (0, 0))) (hgs : w.heap.size + 2 ≤ g) (hB3 : Below w.heap.size w w3) (hgl : g < w3.heap.size)
    (hb4 : Below w3.drew.heap.size w3.drew w4) (hgr : (w4.alloc o).grownBy w5 (Value.slice (some ⟨g, 0, none⟩) 1 1).ownBlock) (hown : w5.ownsRow (w.heap.size + 2) 45 7 (.slice (some ⟨g', 0, none⟩) n cap') n xs) :
    w5.heap[w.heap.size]? = some (.cells C 60 (0, 0)) ∧ w5.heap[w.heap.size + 1]? = some (.cells D 60 (0, 0)) ∧ Below w.heap.size w w5 ∧ w.heap.size + 2 ≤ g' ∧ g' < w5.heap.size := by
  have hs3 : w3.drew.heap.size = w3.heap.size := rfl
  have hs4 := hb4.size
  have key : Below (w.heap.size + 2) w3 w5 := by
    have a : Below (w.heap.size + 2) w3 w4 := ((Below.refl _ _).drew).trans (hb4.mono (by omega))
    have b : Below (w.heap.size + 2) w3 (w4.alloc o) := a.alloc (by omega) o
    exact b.grown hgr (by simp; omega) (fun k hk => by simp [Value.ownBlock] at hk; omega)
  exact ⟨(key.block _ (by omega)).trans hC, (key.block _ (by omega)).trans hD, hB3.trans (key.mono (by omega)), (hown.lt g' rfl).1, (hown.lt g' rfl).2⟩

theorem fin_gt {w w5 : World} {g' cap' : Nat} {xs vs L : List Value} (hown : w5.ownsRow (w.heap.size + 2) 45 7 (.slice (some ⟨g', 0, none⟩) 2 cap') 2 xs) (hg' : w.heap.size + 2 ≤ g')
    (F3 : ∀ g, w.heap.size + 2 ≤ g → ((w5.setCells w.heap.size 6 vs).setCells (w.heap.size + 1) 0 L).heap[g]? = w5.heap[g]?) :
    ((w5.setCells w.heap.size 6 vs).setCells (w.heap.size + 1) 0 L).rangeAt g' 0 xs := by
  intro j v hv
  have hj : j < 2 * 7 := by have := (List.getElem?_eq_some_iff.1 hv).1; rwa [hown.1] at this
  have := hown.cellAt j hj
  rw [World.cell?_of_block (w := w5) (a := ⟨g', 0 + j, none⟩) (F3 g' hg'), Nat.zero_add, this, hv]

theorem fin_sz {w5 : World} {b g' : Nat} (vs L : List Value) (h : g' < w5.heap.size) : g' < ((w5.setCells b 6 vs).setCells (b + 1) 0 L).heap.size := by
  rw [size_setCells, size_setCells]; exact h

set_option maxHeartbeats 2000000 in
theorem state_gt (rb : Nat) (date kind days since : Int) (comp sym test cl ed trig : ByteArray) (fa : Option Addr) (fl fc : Nat) (op na open' blind : Bool) (w : World) (h3 : w.cell? ⟨rb, 3, none⟩ = some (.string trig)) (h4 : w.cell? ⟨rb, 4, none⟩ = some (.int .i64 days)) (h5 : w.cell? ⟨rb, 5, none⟩ = some (.int .i32 since)) (h6 : w.cell? ⟨rb, 6, none⟩ = some (.bool open')) (h7 : w.cell? ⟨rb, 7, none⟩ = some (.bool blind)) (hd : 0 < days) (s0 : -2147483648 ≤ since) (s1 : since ≤ 2147483647) :
    Calls Yba.prog 8 #[.pointer (some ⟨rb, 0, none⟩), .agg #[.int .i32 date, .string comp, .int .i64 kind, .string sym, .string test, .string cl, .slice fa fl fc, .bool op, .bool na, .string ed]] w fun e w' => ∃ g cap, e = .returned (.agg #[.int .i32 date, .string comp, .int .i64 kind, .string sym, .string test, .string trig, .slice (some ⟨g, 0, none⟩) 2 cap, .bool open', .bool blind, .string ed]) ∧ w'.rangeAt g 0 (fI { data := #[114, 117, 110] } days ++ fD { data := #[115, 105, 110, 99, 101] } since) ∧ w.heap.size ≤ g ∧ g < w'.heap.size ∧ Below w.heap.size w w' := by
  obtain ⟨i0, hi, hz0, hz1, hz2⟩ := info_parts info45
  have hrb : rb < w.heap.size := World.block_lt_of_cell? w _ h3
  have g3 := fun o => al h3 o
  have k6 := fun o1 o2 => al (al h6 o1) o2
  have k7 := fun o1 o2 => al (al h7 o1) o2
  have k3 := fun o1 o2 => al (al h3 o1) o2
  have K4 : Hid (∀ o1 o2, ((w.alloc o1).alloc o2).cell? ⟨rb, 4, none⟩ = some (.int .i64 days)) := fun o1 o2 => al (al h4 o1) o2
  have hrn : w.heap.size ≠ rb := by omega
  have hrn1 : w.heap.size + 1 ≠ rb := by omega
  have H4 : Hid (w.cell? ⟨rb, 4, none⟩ = some (.int .i64 days)) := h4
  have H5 : Hid (w.cell? ⟨rb, 5, none⟩ = some (.int .i32 since)) := h5
  have H6 : Hid (w.cell? ⟨rb, 6, none⟩ = some (.bool open')) := h6
  have H7 : Hid (w.cell? ⟨rb, 7, none⟩ = some (.bool blind)) := h7
  clear h3 h5 h6 h7 h4
  go_enter Yba.func8, Yba.ntmps8
  go_wp2
  go_region_held3 (fun w' => w'.cell? ⟨rb, 6, none⟩ = some (.bool open') ∧ w'.cell? ⟨rb, 7, none⟩ = some (.bool blind))
    (go_keep)
    ((go_at_call 11; refine (figures_any rb days _ ?_).mono ?_; (· exact K4.out _ _); rintro e w2 ⟨g, rfl, hg, hgs, hb2⟩; obtain ⟨hC, hD, hold2, hs2, hB2⟩ := box_kept hb2; have m4 := (hold2 rb 4 hrb).trans H4.out; have m6 := (hold2 rb 6 hrb).trans H6.out; have m7 := (hold2 rb 7 hrb).trans H7.out; have M5 : Hid (w2.cell? ⟨rb, 5, none⟩ = some (.int .i32 since)) := (hold2 rb 5 hrb).trans H5.out; have c6 : w2.cell? ⟨w.heap.size, 6, none⟩ = some _ := cell_of_row _ _ 6 _ _ _ hC; have c7 : w2.cell? ⟨w.heap.size, 7, none⟩ = some _ := cell_of_row _ _ 7 _ _ _ hC; have c8 : w2.cell? ⟨w.heap.size, 8, none⟩ = some _ := cell_of_row _ _ 8 _ _ _ hC; have z6 := blk_free hC 6; have z7 := blk_free hC 7; have z8 := blk_free hC 8; clear hold2 hb2))
  go_wp2
  have hgs' : w.heap.size + 2 ≤ g := by simpa using hgs
  obtain ⟨w3, e3⟩ : ∃ w3, w3 = ((w2.setCell ⟨w.heap.size, 6, none⟩ (.slice (some ⟨g, 0, none⟩) 1 1)).setCell ⟨w.heap.size, 7, none⟩ (.bool open')).setCell ⟨w.heap.size, 8, none⟩ (.bool blind) := ⟨_, rfl⟩
  obtain ⟨hC3, hD3, hg3, hB3, m53, hgl⟩ := mid_facts hC hD hg hgs' hB2 hrb M5.out w3 e3
  rw [← e3]
  clear e3 hC hD hg hB2 M5 m4 m6 m7 c6 c7 c8 z6 z7 z8 hs2 hgs k6 k7 k3 g3 H4 H5 H6 H7 K4
  have c63 : w3.cell? ⟨w.heap.size, 6, none⟩ = some _ := cell_of_row _ _ 6 _ _ _ hC3
  have hBs : w.heap.size < w3.drew.heap.size := by show w.heap.size < w3.heap.size; omega
  have hs3 : w3.drew.heap.size = w3.heap.size := rfl
  go_region_law ((first | (refine step_append_lies _ (by rfl) _ _ 41 (by rfl) (w.heap.size + 2) 45 i0 _ 7 96 Yba.underlying41 hi hz0 hz1 hz2 rfl (by decide) (.slice (some ⟨g, 0, none⟩) 1 1) 1 (fI { data := #[114, 117, 110] } days) (by rfl) (hown4.alloc _) ⟨w4.heap.size, 0, none⟩ 1 1 (fD { data := #[115, 105, 110, 99, 101] } since) (by rfl) rfl (newsD w4 _ _) (one_fD _ _) (by decide) (by unfold maxLen; omega) (by omega) (by simp; omega) (w4.heap.size + 1) (by simp) ?_; intro g' cap' w5 hown5 hgr5 _ _; obtain ⟨hC5, hD5, hB5, hg5, hl5⟩ := app_facts hC3 hD3 hgs' hB3 hgl hb4 hgr5 hown5; have c0 : w5.cell? ⟨w.heap.size, 0, none⟩ = some _ := cell_of_row _ _ 0 _ _ _ hC5; have c1 : w5.cell? ⟨w.heap.size, 1, none⟩ = some _ := cell_of_row _ _ 1 _ _ _ hC5; have c2 : w5.cell? ⟨w.heap.size, 2, none⟩ = some _ := cell_of_row _ _ 2 _ _ _ hC5; have c3 : w5.cell? ⟨w.heap.size, 3, none⟩ = some _ := cell_of_row _ _ 3 _ _ _ hC5; have c4 : w5.cell? ⟨w.heap.size, 4, none⟩ = some _ := cell_of_row _ _ 4 _ _ _ hC5; have c5 : w5.cell? ⟨w.heap.size, 5, none⟩ = some _ := cell_of_row _ _ 5 _ _ _ hC5; have c6 : w5.cell? ⟨w.heap.size, 6, none⟩ = some _ := cell_of_row _ _ 6 _ _ _ hC5; have c7 : w5.cell? ⟨w.heap.size, 7, none⟩ = some _ := cell_of_row _ _ 7 _ _ _ hC5; have c8 : w5.cell? ⟨w.heap.size, 8, none⟩ = some _ := cell_of_row _ _ 8 _ _ _ hC5; have c9 : w5.cell? ⟨w.heap.size, 9, none⟩ = some _ := cell_of_row _ _ 9 _ _ _ hC5; have z6 := blk_free hC5 6; have d0 : w5.cell? ⟨w.heap.size + 1, 0, none⟩ = some _ := cell_of_row _ _ 0 _ _ _ hD5; have d1 : w5.cell? ⟨w.heap.size + 1, 1, none⟩ = some _ := cell_of_row _ _ 1 _ _ _ hD5; have d2 : w5.cell? ⟨w.heap.size + 1, 2, none⟩ = some _ := cell_of_row _ _ 2 _ _ _ hD5; have d3 : w5.cell? ⟨w.heap.size + 1, 3, none⟩ = some _ := cell_of_row _ _ 3 _ _ _ hD5; have d4 : w5.cell? ⟨w.heap.size + 1, 4, none⟩ = some _ := cell_of_row _ _ 4 _ _ _ hD5; have d5 : w5.cell? ⟨w.heap.size + 1, 5, none⟩ = some _ := cell_of_row _ _ 5 _ _ _ hD5; have d6 : w5.cell? ⟨w.heap.size + 1, 6, none⟩ = some _ := cell_of_row _ _ 6 _ _ _ hD5; have d7 : w5.cell? ⟨w.heap.size + 1, 7, none⟩ = some _ := cell_of_row _ _ 7 _ _ _ hD5; have d8 : w5.cell? ⟨w.heap.size + 1, 8, none⟩ = some _ := cell_of_row _ _ 8 _ _ _ hD5; have d9 : w5.cell? ⟨w.heap.size + 1, 9, none⟩ = some _ := cell_of_row _ _ 9 _ _ _ hD5; have y0 := blk_free hD5 0; have y1 := blk_free hD5 1; have y2 := blk_free hD5 2; have y3 := blk_free hD5 3; have y4 := blk_free hD5 4; have y5 := blk_free hD5 5; have y6 := blk_free hD5 6; have y7 := blk_free hD5 7; have y8 := blk_free hD5 8; have y9 := blk_free hD5 9) | (go_simp; go_at_call 9; refine (date_any _ _ _ s0 s1).mono ?_; rintro e w4 ⟨rfl, hb4⟩; have hC4 := (hb4.block w.heap.size hBs).trans hC3; have c64 : w4.cell? ⟨w.heap.size, 6, none⟩ = some _ := cell_of_row _ _ 6 _ _ _ hC4; have c64a := al c64; have hown4 := own_one (base := w.heap.size + 2) ((hb4.block g hgl).trans hg3) hgs'; have hs4 := hb4.size)))
  all_goals
    go_wp2
    have hfs := fin_state (w := w) (w2 := w5) [.slice (some ⟨g', 0, none⟩) 2 cap'] [.int .i32 date, .string comp, .int .i64 kind, .string sym, .string test, .string trig, (.slice (some ⟨g', 0, none⟩) 2 cap'), .bool open', .bool blind, .string ed] hD5 rfl rfl hB5
    obtain ⟨F1, F2, F3⟩ := hfs
    have G1 := fin_gt hown5 hg5 F3
    have G2 : w.heap.size ≤ g' := by omega
    have G3 := fin_sz (g' := g') (w5 := w5) (b := w.heap.size) [.slice (some ⟨g', 0, none⟩) 2 cap'] [.int .i32 date, .string comp, .int .i64 kind, .string sym, .string test, .string trig, (.slice (some ⟨g', 0, none⟩) 2 cap'), .bool open', .bool blind, .string ed] hl5
    clear F3 hown5 hg5 hl5 hgr5
    exact bodyPost_ret (v := .agg #[.int .i32 date, .string comp, .int .i64 kind, .string sym, .string test, .string trig, (.slice (some ⟨g', 0, none⟩) 2 cap'), .bool open', .bool blind, .string ed]) (res10 [.int .i32 date, .string comp, .int .i64 kind, .string sym, .string test, .string trig, (.slice (some ⟨g', 0, none⟩) 2 cap'), .bool open', .bool blind, .string ed] Yba.results8 rfl rfl F1) rfl ⟨g', cap', rfl, G1, G2, G3, F2⟩
end Go.Proofs.Ybulkeavy
