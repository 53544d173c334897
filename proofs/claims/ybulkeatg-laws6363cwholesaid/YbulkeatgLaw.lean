/-
  'parser.LawS6363CWhole' (function 3): the walk.
-/
import Derived.Test.YbulkeatgAny
import Derived.Deep.AppendLies
import Derived.BigQuiet
import Derived.WalkSmall
import Derived.Deep.QuietTactic
namespace Go.Proofs.Ybulkeatg
open Go.RowKit
attribute [local go_sem ↓] Go.wp_at_zero Go.wp_at_succ

def rows (ts : List Tok) : List Value := ts.flatMap c9

/-- the slice 'all' so far: n tokens 'ts' in a row of the call's own behind block T7, in which the current token lies -/
def AllR (w wr : World) (T7 : Nat) (t : Tok) (g n cap : Nat) (ts : List Tok) : Prop :=
  wr.ownsRow (T7 + 1) 31 9 (.slice (some ⟨g, 0, none⟩) n cap) n (rows ts) ∧ wr.rangeAt T7 0 (c9 t) ∧ Below w.heap.size w wr ∧ T7 < wr.heap.size ∧ w.heap.size ≤ T7

theorem own_below {wr w3 : World} {base : Nat} {e : TypeId} {size : Nat} {v : Value} {n : Nat} {xs : List Value} (h : wr.ownsRow base e size v n xs) (hb : Below wr.heap.size wr w3) : w3.ownsRow base e size v n xs := by
  refine ⟨h.1, ?_⟩
  rcases h.2 with h2 | ⟨g, cap, cur, hv, hg, hh, r⟩
  · exact .inl h2
  · have hlt : g < wr.heap.size := (h.lt g (by rw [hv]; rfl)).2
    exact .inr ⟨g, cap, cur, hv, hg, by rw [hb.block g hlt]; exact hh, r⟩

theorem all_start (w w2 : World) (t : Tok) (hb2 : Below w.heap.size w w2) :
    AllR w ((w2.alloc (.cells #[.int .u8 t.k, .string t.s, .int .i64 t.a, .int .i64 t.b, .int .i64 t.c, .int .i64 t.d, .int .i64 0, .int .i64 0, .int .i64 0] 31)).alloc (.cells #[.int .u8 t.k, .string t.s, .int .i64 t.a, .int .i64 t.b, .int .i64 t.c, .int .i64 t.d, .int .i64 0, .int .i64 0, .int .i64 0] 31)) w2.heap.size t (w2.heap.size + 1) 1 1 [t] := by
  have e1 : (w2.alloc (.cells #[.int .u8 t.k, .string t.s, .int .i64 t.a, .int .i64 t.b, .int .i64 t.c, .int .i64 t.d, .int .i64 0, .int .i64 0, .int .i64 0] 31)).heap.size = w2.heap.size + 1 := by simp
  refine ⟨?_, ?_, ?_, by simp; omega, hb2.size⟩
  · have := World.ownsRow_lit (base := w2.heap.size + 1) (e := 31) (size := 9) (w2.alloc (.cells #[.int .u8 t.k, .string t.s, .int .i64 t.a, .int .i64 t.b, .int .i64 t.c, .int .i64 t.d, .int .i64 0, .int .i64 0, .int .i64 0] 31)) #[.int .u8 t.k, .string t.s, .int .i64 t.a, .int .i64 t.b, .int .i64 t.c, .int .i64 t.d, .int .i64 0, .int .i64 0, .int .i64 0] 1 (by rw [e1]; exact Nat.le_refl _) (by unfold maxLen; omega) rfl
    rw [e1] at this
    exact this
  · refine World.rangeAt_alloc ?_ _
    intro j v hv
    rw [Nat.zero_add, cell_of_row _ _ j _ _ _ (heap_alloc_new w2 _)]
    simpa [c9] using hv
  · exact (hb2.alloc hb2.size _).alloc (by rw [e1]; have := hb2.size; omega) _

theorem all_step {w wr w3 w5 : World} {T7 : Nat} {t : Tok} {g n cap g' cap' : Nat} {ts : List Tok} (u : Tok) (o : Obj) (h : AllR w wr T7 t g n cap ts) (hb3 : Below wr.heap.size wr w3)
    (hown : w5.ownsRow (T7 + 1) 31 9 (.slice (some ⟨g', 0, none⟩) (n + 1) cap') (n + 1) (rows ts ++ c9 u)) (hg : (w3.alloc o).grownBy w5 (Value.slice (some ⟨g, 0, none⟩) n cap).ownBlock) :
    AllR w w5 T7 t g' (n + 1) cap' (ts ++ [u]) := by
  obtain ⟨h1, h2, h3, h4, h5⟩ := h
  have hgT : T7 + 1 ≤ g := (h1.lt g rfl).1
  have hs3 := hb3.size
  have hb : Below (T7 + 1) (w3.alloc o) w5 := (Below.refl _ _).grown hg (by simp; omega) (fun k hk => by simp [Value.ownBlock] at hk; omega)
  refine ⟨?_, ?_, ?_, ?_, h5⟩
  · have e : rows (ts ++ [u]) = rows ts ++ c9 u := by simp [rows]
    rw [e]; exact hown
  · exact rangeAt_below hb (by omega) (World.rangeAt_alloc (rangeAt_below hb3 h4 h2) o)
  · exact ((h3.trans (hb3.mono h3.size)).alloc (by have := h3.size; omega) o).trans (hb.mono (by omega))
  · have := hb.size; simp at this; omega

theorem rows_len (ts : List Tok) : (rows ts).length = ts.length * 9 := by
  induction ts with
  | nil => rfl
  | cons t r ih =>
    have e : rows (t :: r) = c9 t ++ rows r := rfl
    rw [e, List.length_append, ih, len9, List.length_cons]; omega

theorem all_last {w wr : World} {T7 : Nat} {t : Tok} {g cap : Nat} {ts1 ts2 : List Tok} {len1 len2 : Nat} (h : AllR w wr T7 t g (len1 + 1 + len2) cap (t :: ts1 ++ ts2)) (h1 : ts1.length = len1) (h2 : ts2.length = len2) :
    wr.rangeAt g ((len1 + len2) * 9) (c9 (lastOf t ts1 ts2)) := by
  have e : t :: ts1 ++ ts2 = (t :: (ts1 ++ ts2)).dropLast ++ [lastOf t ts1 ts2] := (List.dropLast_concat_getLast (l := t :: (ts1 ++ ts2)) (by simp)).symm
  have hl : ((t :: (ts1 ++ ts2)).dropLast).length = len1 + len2 := by simp; omega
  have hown := h.1
  rw [e, show rows ((t :: (ts1 ++ ts2)).dropLast ++ [lastOf t ts1 ts2]) = rows (t :: (ts1 ++ ts2)).dropLast ++ c9 (lastOf t ts1 ts2) by simp [rows]] at hown
  intro j v hv
  have hj : j < 9 := by have := (List.getElem?_eq_some_iff.1 hv).1; rwa [len9] at this
  rw [hown.cellAt _ (by omega), List.getElem?_append_right (by rw [rows_len, hl]; omega), rows_len, hl]
  rw [show (len1 + len2) * 9 + j - (len1 + len2) * 9 = j by omega]
  exact hv

theorem conv_from (w0 : World) (a : Option Addr) (len cap : Nat) (ts : List Tok) (w : World) (h : TokRow w0.heap.size w0 a len ts) (hc : a = none → cap = 0) (hlen : len ≤ 1048576) (hb : Below w0.heap.size w0 w) :
    Calls Yba.prog 5 #[.slice a len cap] w fun e w' => ∃ ao, e = .returned (.slice ao len len) ∧ ConvR w' a ao ts ∧ Below w.heap.size w w' :=
  conv_any w0.heap.size a len cap ts w (h.below hb (Nat.le_refl _)) hc hb.size hlen

theorem keep9 {w w' : World} {C T : Nat} {t : Tok} (hb : Below C w w') (hT : T < C) (h : w.cell? ⟨T, 0, none⟩ = some (.int .u8 t.k) ∧ w.cell? ⟨T, 1, none⟩ = some (.string t.s) ∧ w.cell? ⟨T, 2, none⟩ = some (.int .i64 t.a) ∧ w.cell? ⟨T, 3, none⟩ = some (.int .i64 t.b) ∧ w.cell? ⟨T, 4, none⟩ = some (.int .i64 t.c) ∧ w.cell? ⟨T, 5, none⟩ = some (.int .i64 t.d) ∧ w.cell? ⟨T, 6, none⟩ = some (.int .i64 0) ∧ w.cell? ⟨T, 7, none⟩ = some (.int .i64 0) ∧ w.cell? ⟨T, 8, none⟩ = some (.int .i64 0)) :
    w'.cell? ⟨T, 0, none⟩ = some (.int .u8 t.k) ∧ w'.cell? ⟨T, 1, none⟩ = some (.string t.s) ∧ w'.cell? ⟨T, 2, none⟩ = some (.int .i64 t.a) ∧ w'.cell? ⟨T, 3, none⟩ = some (.int .i64 t.b) ∧ w'.cell? ⟨T, 4, none⟩ = some (.int .i64 t.c) ∧ w'.cell? ⟨T, 5, none⟩ = some (.int .i64 t.d) ∧ w'.cell? ⟨T, 6, none⟩ = some (.int .i64 0) ∧ w'.cell? ⟨T, 7, none⟩ = some (.int .i64 0) ∧ w'.cell? ⟨T, 8, none⟩ = some (.int .i64 0) := by
  have hc : ∀ o, w'.cell? ⟨T, o, none⟩ = w.cell? ⟨T, o, none⟩ := fun o => hb.cell (p := ⟨T, o, none⟩) hT
  simp only [hc]
  exact h

/-- what is known of the call's own memory once the parser is made -/
structure St (w W : World) (T7 T11 pb : Nat) (t l : Tok) (a1 ao1 a2 ao2 : Option Addr) (len1 len2 : Nat) (ts1 ts2 : List Tok) : Prop where
  bel : Below w.heap.size w W
  tR : W.rangeAt T7 0 (c9 t)
  tL : T7 < W.heap.size
  lR : W.rangeAt T11 0 (c9 l)
  lL : T11 < W.heap.size
  psr : Psr W pb t (.slice ao1 len1 len1) (.slice ao2 len2 len2)
  pL : pb < W.heap.size
  r1 : ConvR W a1 ao1 ts1
  r2 : ConvR W a2 ao2 ts2

theorem St.below {w W W' : World} {T7 T11 pb : Nat} {t l : Tok} {a1 ao1 a2 ao2 : Option Addr} {len1 len2 : Nat} {ts1 ts2 : List Tok} (h : St w W T7 T11 pb t l a1 ao1 a2 ao2 len1 len2 ts1 ts2) (hb : Below W.heap.size W W') :
    St w W' T7 T11 pb t l a1 ao1 a2 ao2 len1 len2 ts1 ts2 :=
  ⟨h.bel.trans (hb.mono h.bel.size), rangeAt_below hb h.tL h.tR, Nat.lt_of_lt_of_le h.tL hb.size, rangeAt_below hb h.lL h.lR, Nat.lt_of_lt_of_le h.lL hb.size, h.psr.below hb h.pL, Nat.lt_of_lt_of_le h.pL hb.size, h.r1.below hb, h.r2.below hb⟩

theorem st_start {w wr w6 w7 : World} {T7 : Nat} {t l : Tok} {a1 ao1 a2 ao2 : Option Addr} {len1 len2 : Nat} {ts1 ts2 : List Tok} (hB : Below w.heap.size w wr) (hT : wr.rangeAt T7 0 (c9 t)) (hL : T7 < wr.heap.size)
    (hb6 : Below (wr.alloc (.cells #[.int .u8 l.k, .string l.s, .int .i64 l.a, .int .i64 l.b, .int .i64 l.c, .int .i64 l.d, .int .i64 0, .int .i64 0, .int .i64 0] 31)).drew.heap.size (wr.alloc (.cells #[.int .u8 l.k, .string l.s, .int .i64 l.a, .int .i64 l.b, .int .i64 l.c, .int .i64 l.d, .int .i64 0, .int .i64 0, .int .i64 0] 31)).drew w6) (r1 : ConvR w6 a1 ao1 ts1) (hb7 : Below w6.heap.size w6 w7) (r2 : ConvR w7 a2 ao2 ts2) :
    St w (w7.alloc (.cells #[.pointer none, .int .u8 t.k, .string t.s, .int .i64 t.a, .int .i64 t.b, .int .i64 t.c, .int .i64 t.d, .int .i64 0, .int .i64 0, .int .i64 0, .slice ao1 len1 len1, .slice none 0 0, .slice ao2 len2 len2, .slice none 0 0, .pointer none, .int .i64 0, .int .i64 0, .nilIface, .pointer none, .map none, .map none] 44)) T7 wr.heap.size w7.heap.size t l a1 ao1 a2 ao2 len1 len2 ts1 ts2 := by
  have e1 : (wr.alloc (.cells #[.int .u8 l.k, .string l.s, .int .i64 l.a, .int .i64 l.b, .int .i64 l.c, .int .i64 l.d, .int .i64 0, .int .i64 0, .int .i64 0] 31)).drew.heap.size = wr.heap.size + 1 := by simp
  have hB1 : Below wr.heap.size wr (wr.alloc (.cells #[.int .u8 l.k, .string l.s, .int .i64 l.a, .int .i64 l.b, .int .i64 l.c, .int .i64 l.d, .int .i64 0, .int .i64 0, .int .i64 0] 31)).drew := ((Below.refl _ _).alloc (Nat.le_refl _) _).drew
  have h6 : Below wr.heap.size wr w6 := hB1.trans (hb6.mono (by omega))
  have h7 : Below wr.heap.size wr w7 := h6.trans (hb7.mono h6.size)
  have h8 : Below wr.heap.size wr (w7.alloc (.cells #[.pointer none, .int .u8 t.k, .string t.s, .int .i64 t.a, .int .i64 t.b, .int .i64 t.c, .int .i64 t.d, .int .i64 0, .int .i64 0, .int .i64 0, .slice ao1 len1 len1, .slice none 0 0, .slice ao2 len2 len2, .slice none 0 0, .pointer none, .int .i64 0, .int .i64 0, .nilIface, .pointer none, .map none, .map none] 44)) := h7.alloc h7.size _
  have h78 : Below w7.heap.size w7 (w7.alloc (.cells #[.pointer none, .int .u8 t.k, .string t.s, .int .i64 t.a, .int .i64 t.b, .int .i64 t.c, .int .i64 t.d, .int .i64 0, .int .i64 0, .int .i64 0, .slice ao1 len1 len1, .slice none 0 0, .slice ao2 len2 len2, .slice none 0 0, .pointer none, .int .i64 0, .int .i64 0, .nilIface, .pointer none, .map none, .map none] 44)) := (Below.refl _ _).alloc (Nat.le_refl _) _
  have hs6 := hb6.size
  have hs7 := hb7.size
  have hs8 : (w7.alloc (.cells #[.pointer none, .int .u8 t.k, .string t.s, .int .i64 t.a, .int .i64 t.b, .int .i64 t.c, .int .i64 t.d, .int .i64 0, .int .i64 0, .int .i64 0, .slice ao1 len1 len1, .slice none 0 0, .slice ao2 len2 len2, .slice none 0 0, .pointer none, .int .i64 0, .int .i64 0, .nilIface, .pointer none, .map none, .map none] 44)).heap.size = w7.heap.size + 1 := by simp
  have hl0 : (wr.alloc (.cells #[.int .u8 l.k, .string l.s, .int .i64 l.a, .int .i64 l.b, .int .i64 l.c, .int .i64 l.d, .int .i64 0, .int .i64 0, .int .i64 0] 31)).drew.rangeAt wr.heap.size 0 (c9 l) := by
    intro j v hv
    rw [Nat.zero_add]
    show (wr.alloc (.cells #[.int .u8 l.k, .string l.s, .int .i64 l.a, .int .i64 l.b, .int .i64 l.c, .int .i64 l.d, .int .i64 0, .int .i64 0, .int .i64 0] 31)).cell? _ = _
    rw [cell_of_row _ _ j _ _ _ (heap_alloc_new wr _)]
    simpa [c9] using hv
  have hC : ∀ j, (w7.alloc (.cells #[.pointer none, .int .u8 t.k, .string t.s, .int .i64 t.a, .int .i64 t.b, .int .i64 t.c, .int .i64 t.d, .int .i64 0, .int .i64 0, .int .i64 0, .slice ao1 len1 len1, .slice none 0 0, .slice ao2 len2 len2, .slice none 0 0, .pointer none, .int .i64 0, .int .i64 0, .nilIface, .pointer none, .map none, .map none] 44)).cell? ⟨w7.heap.size, j, none⟩ = (#[.pointer none, .int .u8 t.k, .string t.s, .int .i64 t.a, .int .i64 t.b, .int .i64 t.c, .int .i64 t.d, .int .i64 0, .int .i64 0, .int .i64 0, .slice ao1 len1 len1, .slice none 0 0, .slice ao2 len2 len2, .slice none 0 0, .pointer none, .int .i64 0, .int .i64 0, .nilIface, .pointer none, .map none, .map none] : Array Value)[j]? := fun j => cell_of_row _ _ j _ _ _ (heap_alloc_new w7 _)
  refine ⟨hB.trans (h8.mono hB.size), rangeAt_below h8 hL hT, by omega, ?_, by omega, ⟨?_, ?_, ?_⟩, by omega, (r1.below hb7).below h78, r2.below h78⟩
  · exact rangeAt_below h78 (by omega) (rangeAt_below hb7 (by omega) (rangeAt_below hb6 (by omega) hl0))
  · intro j v hv
    have hj : j < 9 := by have := (List.getElem?_eq_some_iff.1 hv).1; rwa [len9] at this
    rw [hC, ← hv]
    match j, hj with
    | 0, _ => rfl
    | 1, _ => rfl
    | 2, _ => rfl
    | 3, _ => rfl
    | 4, _ => rfl
    | 5, _ => rfl
    | 6, _ => rfl
    | 7, _ => rfl
    | 8, _ => rfl
  · rw [hC]; rfl
  · rw [hC]; rfl

theorem same_st {w W : World} {T7 T11 pb : Nat} {t l : Tok} {a1 ao1 a2 ao2 : Option Addr} {len1 len2 : Nat} {ts1 ts2 : List Tok} (h : St w W T7 T11 pb t l a1 ao1 a2 ao2 len1 len2 ts1 ts2)
    (a ao : Option Addr) (len cap : Nat) (ts : List Tok) (hr : TokRow w.heap.size w a len ts) (hc : a = none → cap = 0) (hlen : len ≤ 1048576) (r : ConvR W a ao ts) :
    Calls Yba.prog 7 #[.slice ao len len, .slice a len cap] W fun e w' => e = .returned (.bool true) ∧ Below W.heap.size W w' :=
  same_any w.heap.size a ao len cap ts W (hr.below h.bel (Nat.le_refl _)) hc h.bel.size hlen r

theorem neqXX (t : Tok) (w : World) : (binOp .neq 31 (.agg #[.int .u8 t.k, .string t.s, .int .i64 t.a, .int .i64 t.b, .int .i64 t.c, .int .i64 t.d, .int .i64 0, .int .i64 0, .int .i64 0]) (.agg #[.int .u8 t.k, .string t.s, .int .i64 t.a, .int .i64 t.b, .int .i64 t.c, .int .i64 t.d, .int .i64 0, .int .i64 0, .int .i64 0])).run Yba.prog w = .ok (.bool false) w := neq31 t w

theorem newsOf (w : World) (u : Tok) : ∀ j v, (c9 u)[j]? = some v → (w.alloc (.cells #[.int .u8 u.k, .string u.s, .int .i64 u.a, .int .i64 u.b, .int .i64 u.c, .int .i64 u.d, .int .i64 0, .int .i64 0, .int .i64 0] 31)).cell? ((⟨w.heap.size, 0, none⟩ : Addr).add j) = some v :=
  World.news_of_block (heap_alloc_new w _)

theorem law_long (t : Tok) (a1 a2 : Option Addr) (len1 cap1 len2 cap2 : Nat) (w : World) (h : 1048576 < len1 + len2) (h1 : len1 ≤ 140737488351232) (h2 : len2 ≤ 140737488351232) :
    Calls Yba.prog 3 #[.agg (c6 t).toArray, .slice a1 len1 cap1, .slice a2 len2 cap2] w fun e w' => e = .returned (.bool true) ∧ Below w.heap.size w w' := by
  simp only [c6]
  go_enter Yba.func3, Yba.ntmps3
  go_wp2
  go_ret
  exact ⟨rfl, (Below.refl _ _).alloc (Nat.le_refl _) _⟩

set_option maxHeartbeats 2000000 in
theorem law_walk (t : Tok) (a1 a2 : Option Addr) (len1 cap1 len2 cap2 : Nat) (ts1 ts2 : List Tok) (w : World) (hsum : len1 + len2 ≤ 1048576)
    (h1 : TokRow w.heap.size w a1 len1 ts1) (h2 : TokRow w.heap.size w a2 len2 ts2) (hc1 : a1 = none → cap1 = 0) (hc2 : a2 = none → cap2 = 0) :
    Calls Yba.prog 3 #[.agg (c6 t).toArray, .slice a1 len1 cap1, .slice a2 len2 cap2] w fun e w' => e = .returned (.bool true) ∧ Below w.heap.size w w' := by
  obtain ⟨i0, hi, hz0, hz1, hz2⟩ := info_parts info31
  have hl1 : len1 ≤ 1048576 := by omega
  have hl2 : len2 ≤ 1048576 := by omega
  have hd : decide ((1048576 : Int) < (len1 : Int) + (len2 : Int)) = false := by simp; omega
  simp only [c6]
  go_enter Yba.func3, Yba.ntmps3
  go_wp2_with (go_at_call 4; refine (ctokX t _).mono ?_; rintro e w2 ⟨rfl, hb2⟩)
  have hst := all_start w w2 t (((Below.refl _ _).alloc (Nat.le_refl _) _).trans (hb2.mono (by simp)))
  clear hb2
  go_loopw [8, 26] (fun v i wr => ∃ (k g cap : Nat), k ≤ len1 ∧ i = .int .i64 k ∧ v = .slice (some ⟨g, 0, none⟩) (k + 1) cap ∧ AllR w wr w2.heap.size t g (k + 1) cap (t :: ts1.take k))
    (fun _ i _ => len1 - (intOf i).toNat)
  case atStart => exact ⟨0, _, _, Nat.zero_le _, rfl, rfl, hst⟩
  case round =>
    obtain ⟨k, g, cap, hk, rfl, rfl, hA⟩ := hrel
    clear hst
    by_cases hlt : k < len1
    · obtain ⟨b, off, hx, hbB, hr⟩ := h1.2.2 (by omega)
      subst hx
      obtain ⟨u, hu⟩ : ∃ u, ts1[k]? = some u := ⟨_, List.getElem?_eq_getElem (by rw [h1.1]; exact hlt)⟩
      have hrk : wr.rangeAt b (off + k * 6) (c6 u) := rangeAt_below hA.2.2.1 hbB (hr k u hu)
      have HU : Hid (t :: ts1.take (k + 1) = (t :: ts1.take k) ++ [u]) := by
        rw [List.take_add_one, hu]; rfl
      clear hr hu
      go_wp2_with (first | ((with_reducible refine load_g 23 b (off + k * 6) (c6 u) 6 ?_ hrk Yba.underlying23 ?_ (len6 u) size23 ?_); (· rfl); (· rfl)) | (go_at_call 4; refine (ctokX u _).mono ?_; rintro e w3 ⟨rfl, hb3⟩; have hown3 := own_below hA.1 hb3; have hT3 := Nat.lt_of_lt_of_le hA.2.2.2.1 hb3.size) | (at_builtin; refine wpList_append_lies _ rfl _ _ 33 rfl (w2.heap.size + 1) 31 i0 _ 9 80 Yba.underlying33 hi hz0 hz1 hz2 rfl (by decide) _ (k + 1) (rows (t :: ts1.take k)) rfl (hown3.alloc _) ⟨w3.heap.size, 0, none⟩ 1 1 (c9 u) rfl rfl (newsOf w3 u) (one9 u) (by decide) (by unfold maxLen; omega) (by omega) (by simp; omega) (w3.heap.size + 1) (by simp) ?_))
      intro g' cap' w5 hown5 hgrow _ _
      have hA5 := all_step u _ hA hb3 hown5 hgrow
      clear hown5 hgrow hA hown3 hT3 hb3 hrk
      go_wp2
      go_roundw
      case rel => exact ⟨k + 1, g', cap', by omega, by go_num, rfl, by rw [HU.out]; exact hA5⟩
      case measure => simp [intOf]; omega
    · obtain rfl : len1 = k := by omega
      rw [List.take_of_length_le (by rw [h1.1]; exact Nat.le_refl _)] at hA
      go_wp2
      go_loopw [8, 40] (fun v i wr' => ∃ (k g cap : Nat), k ≤ len2 ∧ i = .int .i64 k ∧ v = .slice (some ⟨g, 0, none⟩) (len1 + 1 + k) cap ∧ AllR w wr' w2.heap.size t g (len1 + 1 + k) cap (t :: ts1 ++ ts2.take k))
        (fun _ i _ => len2 - (intOf i).toNat)
      case atStart => exact ⟨0, _, _, Nat.zero_le _, rfl, rfl, by rw [List.take_zero, List.append_nil]; exact hA⟩
      case round =>
        clear hA
        clear hk
        obtain ⟨k, g, cap, hk, rfl, rfl, hA⟩ := hrel
        by_cases hlt : k < len2
        · obtain ⟨b, off, hx, hbB, hr⟩ := h2.2.2 (by omega)
          subst hx
          obtain ⟨u, hu⟩ : ∃ u, ts2[k]? = some u := ⟨_, List.getElem?_eq_getElem (by rw [h2.1]; exact hlt)⟩
          have hrk : wr.rangeAt b (off + k * 6) (c6 u) := rangeAt_below hA.2.2.1 hbB (hr k u hu)
          have HU : Hid (t :: ts1 ++ ts2.take (k + 1) = (t :: ts1 ++ ts2.take k) ++ [u]) := by
            rw [List.take_add_one, hu, List.append_assoc]; rfl
          clear hr hu
          go_wp2_with (first | ((with_reducible refine load_g 23 b (off + k * 6) (c6 u) 6 ?_ hrk Yba.underlying23 ?_ (len6 u) size23 ?_); (· rfl); (· rfl)) | (go_at_call 4; refine (ctokX u _).mono ?_; rintro e w3 ⟨rfl, hb3⟩; have hown3 := own_below hA.1 hb3; have hT3 := Nat.lt_of_lt_of_le hA.2.2.2.1 hb3.size) | (at_builtin; refine wpList_append_lies _ rfl _ _ 33 rfl (w2.heap.size + 1) 31 i0 _ 9 80 Yba.underlying33 hi hz0 hz1 hz2 rfl (by decide) _ (len1 + 1 + k) (rows (t :: ts1 ++ ts2.take k)) rfl (hown3.alloc _) ⟨w3.heap.size, 0, none⟩ 1 1 (c9 u) rfl rfl (newsOf w3 u) (one9 u) (by decide) (by unfold maxLen; omega) (by omega) (by simp; omega) (w3.heap.size + 1) (by simp) ?_))
          intro g' cap' w5 hown5 hgrow _ _
          have hA5 := all_step u _ hA hb3 hown5 hgrow
          clear hown5 hgrow hA hown3 hT3 hb3 hrk
          go_wp2
          go_roundw
          case rel => exact ⟨k + 1, g', cap', by omega, by go_num, rfl, by rw [HU.out]; exact hA5⟩
          case measure => simp [intOf]; omega
        · obtain rfl : len2 = k := by omega
          rw [List.take_of_length_le (by rw [h2.1]; exact Nat.le_refl _)] at hA
          have hlst := all_last hA h1.1 h2.1
          have HL : Hid (∀ w pb ao1 ao2, Psr w pb t (.slice ao1 len1 len1) (.slice ao2 len2 len2) → ConvR w a1 ao1 ts1 → ConvR w a2 ao2 ts2 → Calls Yba.prog 6 #[.pointer (some ⟨pb, 0, none⟩)] w fun e w' => e = .returned (.agg #[.int .u8 (lastOf t ts1 ts2).k, .string (lastOf t ts1 ts2).s, .int .i64 (lastOf t ts1 ts2).a, .int .i64 (lastOf t ts1 ts2).b, .int .i64 (lastOf t ts1 ts2).c, .int .i64 (lastOf t ts1 ts2).d, .int .i64 0, .int .i64 0, .int .i64 0]) ∧ Below w.heap.size w w') := fun w pb ao1 ao2 hp r1 r2 => furthest_any pb t a1 a2 ao1 ao2 len1 len2 ts1 ts2 w hp h1.1 h2.1 hl1 hl2 r1 r2
          generalize lastOf t ts1 ts2 = l at hlst HL
          obtain ⟨⟨b0, b1, b2, b3, b4, b5⟩, b6, b7, b8⟩ := nine_of hlst
          obtain ⟨⟨c0, c1, c2, c3, c4, c5⟩, c6', c7, c8⟩ := nine_of hA.2.1
          simp only [Nat.zero_add] at c1 c2 c3 c4 c5 c6' c7 c8
          have d0 := al c0; have d1 := al c1; have d2 := al c2; have d3 := al c3; have d4 := al c4; have d5 := al c5; have d6 := al c6'; have d7 := al c7; have d8 := al c8
          have hB : Below w.heap.size w wr := hA.2.2.1
          have HT : Hid (w2.heap.size < wr.heap.size ∧ w.heap.size ≤ w2.heap.size) := hA.2.2.2
          have HA : Hid (wr.rangeAt w2.heap.size 0 (c9 t)) := hA.2.1
          clear hA hlst
          clear c0 c1 c2 c3 c4 c5 c6' c7 c8
          go_wp2
          go_region_held3 (fun w' => w'.cell? ⟨w2.heap.size, 0, none⟩ = some (.int .u8 t.k) ∧ w'.cell? ⟨w2.heap.size, 1, none⟩ = some (.string t.s) ∧ w'.cell? ⟨w2.heap.size, 2, none⟩ = some (.int .i64 t.a) ∧ w'.cell? ⟨w2.heap.size, 3, none⟩ = some (.int .i64 t.b) ∧ w'.cell? ⟨w2.heap.size, 4, none⟩ = some (.int .i64 t.c) ∧ w'.cell? ⟨w2.heap.size, 5, none⟩ = some (.int .i64 t.d) ∧ w'.cell? ⟨w2.heap.size, 6, none⟩ = some (.int .i64 0) ∧ w'.cell? ⟨w2.heap.size, 7, none⟩ = some (.int .i64 0) ∧ w'.cell? ⟨w2.heap.size, 8, none⟩ = some (.int .i64 0)) (first | go_keep | exact keep9 hb6 (by have := HT.out.1; simp; omega) ⟨by simpa using d0 _, by simpa using d1 _, by simpa using d2 _, by simpa using d3 _, by simpa using d4 _, by simpa using d5 _, by simpa using d6 _, by simpa using d7 _, by simpa using d8 _⟩ | exact keep9 hb7 (by have := HT.out.1; have := hb6.size; simp at this; omega) (keep9 hb6 (by have := HT.out.1; simp; omega) ⟨by simpa using d0 _, by simpa using d1 _, by simpa using d2 _, by simpa using d3 _, by simpa using d4 _, by simpa using d5 _, by simpa using d6 _, by simpa using d7 _, by simpa using d8 _⟩))
            ((first | (go_at_call_of 5 (Value.slice a1 len1 cap1); refine (conv_from w a1 len1 cap1 ts1 _ h1 hc1 hl1 ?_).mono ?_; (· exact (hB.alloc hB.size _).drew); rintro e w6 ⟨ao1, rfl, r1, hb6⟩) | (go_at_call_of 5 (Value.slice a2 len2 cap2); refine (conv_from w a2 len2 cap2 ts2 _ h2 hc2 hl2 ?_).mono ?_; (· exact ((hB.alloc hB.size _).drew).trans (hb6.mono (by have := hB.size; simp; omega))); rintro e w7 ⟨ao2, rfl, r2, hb7⟩)))
          clear d0 d1 d2 d3 d4 d5 d6 d7 d8 b0 b1 b2 b3 b4 b5 b6 b7 b8
          have hSt := st_start (ao1 := ao1) (ao2 := ao2) (len1 := len1) (len2 := len2) hB HA.out HT.out.1 hb6 r1 hb7 r2
          clear hb6 hb7 r1 r2 hB HA HT
          (try clear hi hz0 hz1 hz2)
          go_wp2_with fail
          refine (HL.out _ _ _ _ hSt.psr hSt.r1 hSt.r2).mono ?_
          rintro e w9 ⟨rfl, hb9⟩
          have hS9 := hSt.below hb9
          clear hSt hb9 HL
          obtain ⟨⟨b0, b1, b2, b3, b4, b5⟩, b6, b7, b8⟩ := nine_of hS9.lR
          simp only [Nat.zero_add] at b1 b2 b3 b4 b5 b6 b7 b8
          have d0 := al b0; have d1 := al b1; have d2 := al b2; have d3 := al b3; have d4 := al b4; have d5 := al b5; have d6 := al b6; have d7 := al b7; have d8 := al b8
          clear b0 b1 b2 b3 b4 b5 b6 b7 b8
          have hne := neqXX l
          go_wp2
          clear d0 d1 d2 d3 d4 d5 d6 d7 d8 hne
          obtain ⟨⟨b0, b1, b2, b3, b4, b5⟩, b6, b7, b8⟩ := nine_of hS9.tR
          simp only [Nat.zero_add] at b1 b2 b3 b4 b5 b6 b7 b8
          have d0 := al b0; have d1 := al b1; have d2 := al b2; have d3 := al b3; have d4 := al b4; have d5 := al b5; have d6 := al b6; have d7 := al b7; have d8 := al b8
          clear b0 b1 b2 b3 b4 b5 b6 b7 b8
          obtain ⟨⟨b0, b1, b2, b3, b4, b5⟩, b6, b7, b8⟩ := nine_of hS9.psr.1
          simp only [Nat.reduceAdd] at b1 b2 b3 b4 b5 b6 b7 b8
          have e0 := al b0; have e1 := al b1; have e2 := al b2; have e3 := al b3; have e4 := al b4; have e5 := al b5; have e6 := al b6; have e7 := al b7; have e8 := al b8
          have p10 := al hS9.psr.2.1
          have p12 := al hS9.psr.2.2
          clear b0 b1 b2 b3 b4 b5 b6 b7 b8
          have hne := neqXX t
          go_quiet (fail)
          clear d0 d1 d2 d3 d4 d5 d6 d7 d8 hne e0 e1 e2 e3 e4 e5 e6 e7 e8
          have hS10 := hS9.below ((Below.refl _ _).alloc (Nat.le_refl _) (.cells #[.int .u8 l.k, .string l.s, .int .i64 l.a, .int .i64 l.b, .int .i64 l.c, .int .i64 l.d, .int .i64 0, .int .i64 0, .int .i64 0] 31))
          clear hS9
          go_wp2_with fail
          have hS11 := hS10.below (below_drewN (Below.refl _ _) nq)
          refine (same_st hS11 a1 ao1 len1 cap1 ts1 h1 hc1 hl1 hS11.r1).mono ?_
          rintro e w12 ⟨rfl, hb12⟩
          have hS12 := hS11.below hb12
          clear hS11 hS10 hb12 p10 p12
          have p12 := hS12.psr.2.2
          go_wp2_with fail
          refine (same_st hS12 a2 ao2 len2 cap2 ts2 h2 hc2 hl2 hS12.r2).mono ?_
          rintro e w13 ⟨rfl, hb13⟩
          have hS13 := hS12.below hb13
          go_wp2
          go_ret
          exact ⟨rfl, hS13.bel⟩

theorem law (t : Tok) (a1 a2 : Option Addr) (len1 cap1 len2 cap2 : Nat) (ts1 ts2 : List Tok) (w : World) (b1 : len1 ≤ 140737488351232) (b2 : len2 ≤ 140737488351232)
    (h1 : TokRow w.heap.size w a1 len1 ts1) (h2 : TokRow w.heap.size w a2 len2 ts2) (hc1 : a1 = none → cap1 = 0) (hc2 : a2 = none → cap2 = 0) :
    Calls Yba.prog 3 #[.agg (c6 t).toArray, .slice a1 len1 cap1, .slice a2 len2 cap2] w fun e w' => e = .returned (.bool true) ∧ Below w.heap.size w w' := by
  by_cases hs : len1 + len2 ≤ 1048576
  · exact law_walk t a1 a2 len1 cap1 len2 cap2 ts1 ts2 w hs h1 h2 hc1 hc2
  · exact law_long t a1 a2 len1 cap1 len2 cap2 w (by omega) b1 b2
end Go.Proofs.Ybulkeatg
