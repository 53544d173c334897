/-
  'parser.zzs6363cconv' (function 5) by its contracts.
-/
import Derived.Test.YbulkeatgTok
import Derived.Test.YbulkeatgMid
import Derived.Lib.SliceRun
namespace Go.Proofs.Ybulkeatg
open Go.RowKit

theorem info31 : (Yba.prog.info? 31).map (fun i => (i.zero, i.size, i.bytes)) = some (some (.agg #[.int .u8 0, .string ⟨#[]⟩, .int .i64 0, .int .i64 0, .int .i64 0, .int .i64 0, .int .i64 0, .int .i64 0, .int .i64 0]), 9, 80) := by kernel_rfl
theorem size23 : (Yba.prog.info? 23).map (·.size) = some 6 := by kernel_rfl
theorem size31 : (Yba.prog.info? 31).map (·.size) = some 9 := by kernel_rfl

/-- WHAT IS TOLD OF A SLICE OF PLAIN TOKENS THAT CAME IN: nil; empty; or a row of 'ts', each six cells, below block B. -/
def TokRow (B : Nat) (w : World) (a : Option Addr) (len : Nat) (ts : List Tok) : Prop :=
  ts.length = len ∧ (a = none → len = 0) ∧ (0 < len → ∃ b off, a = some ⟨b, off, none⟩ ∧ b < B ∧ ∀ i t, ts[i]? = some t → w.rangeAt b (off + i * 6) (c6 t))

theorem rangeAt_below {B : Nat} {w w' : World} (h : Below B w w') {b o : Nat} {cs : List Value} (hb : b < B) (hr : w.rangeAt b o cs) : w'.rangeAt b o cs :=
  fun j v hv => (h.cell (p := ⟨b, o + j, none⟩) hb).trans (hr j v hv)

theorem TokRow.below {B C : Nat} {w w' : World} {a : Option Addr} {len : Nat} {ts : List Tok} (h : TokRow B w a len ts) (hb : Below C w w') (hC : B ≤ C) : TokRow B w' a len ts := by
  obtain ⟨h1, h2, h3⟩ := h
  refine ⟨h1, h2, fun hl => ?_⟩
  obtain ⟨b, off, ha, hbB, hr⟩ := h3 hl
  exact ⟨b, off, ha, hbB, fun i t ht => rangeAt_below hb (by omega) (hr i t ht)⟩

theorem q24 (w : World) (a : Option Addr) (n c n' c' : Nat) : (binOp .eql 24 (.slice a n c) (.slice none n' c')).run Yba.prog w = .ok (.bool a.isNone) w :=
  Lib.run_eql_slice_nil w 24 23 a n c n' c' Yba.underlying24
theorem q33 (w : World) (a : Option Addr) (n c n' c' : Nat) : (binOp .eql 33 (.slice a n c) (.slice none n' c')).run Yba.prog w = .ok (.bool a.isNone) w :=
  Lib.run_eql_slice_nil w 33 31 a n c n' c' Yba.underlying33

theorem conv_nil (w : World) :
    Calls Yba.prog 5 #[.slice none 0 0] w fun e w' => e = .returned (.slice none 0 0) ∧ w' = w := by
  have q := q24
  go_enter Yba.func5, Yba.ntmps5
  go_wp2
  go_ret
  exact ⟨rfl, rfl⟩

theorem one9 (t : Tok) : ∀ v ∈ c9 t, v.oneCell' = true := by simp [c9, Value.oneCell']
theorem len6 (t : Tok) : (c6 t).length = 6 := rfl
theorem len9 (t : Tok) : (c9 t).length = 9 := rfl

theorem below_setCells (b o : Nat) (vs : List Value) (w : World) : Below b w (w.setCells b o vs) := by
  induction vs generalizing o w with
  | nil => exact Below.refl _ _
  | cons v r ih => rw [World.setCells]; exact ((Below.refl b w).setCell (p := ⟨b, o, none⟩) (Nat.le_refl _) v).trans (ih (o + 1) _)
theorem size_setCells (b o : Nat) (vs : List Value) (w : World) : (w.setCells b o vs).heap.size = w.heap.size := by
  induction vs generalizing o w with
  | nil => rfl
  | cons v r ih => rw [World.setCells, ih]; simp [World.setCell]

theorem there_below {B : Nat} {w w' : World} (h : Below B w w') {b o n : Nat} (hb : b < B) (hr : w.there b o n) : w'.there b o n :=
  fun j hj => ⟨by rw [h.cell (p := ⟨b, o + j, none⟩) hb]; exact (hr j hj).1, by rw [h.frozen (p := ⟨b, o + j, none⟩) hb]; exact (hr j hj).2⟩
theorem there_sub {w : World} {b N o n : Nat} (h : w.there b 0 N) (hn : o + n ≤ N) : w.there b o n := fun j hj => by
  have := h (o + j) (by omega)
  simpa using this
theorem there_own {w : World} {base : Nat} {e : TypeId} {size g n cap : Nat} {xs : List Value} (h : w.ownsRow base e size (.slice (some ⟨g, 0, none⟩) n cap) n xs) : w.there g 0 (n * size) := fun j hj => by
  have hl := h.1
  refine ⟨?_, ?_⟩
  · rw [Nat.zero_add, h.cellAt j hj, List.getElem?_eq_getElem (by omega)]; rfl
  · rw [Nat.zero_add]; exact h.frozenAt j

/-- the rows of the converted tokens, in block g from its head on -/
def Rows9 (w : World) (g : Nat) (ts : List Tok) : Prop := ∀ i t, ts[i]? = some t → w.rangeAt g (i * 9) (c9 t)

theorem step_rows (k len : Nat) (ts : List Tok) (t : Tok) (w2 wr : World) (g : Nat) (hlt : k < len) (HT : ts[k]? = some t) (HR : ∀ j t, j < k → ts[j]? = some t → wr.rangeAt g (j * 9) (c9 t))
    (hb2 : Below wr.heap.size wr w2) (hsz : g < wr.heap.size) (hth2 : w2.there g 0 (len * 9)) :
    (w2.setCells g (k * 9) (c9 t)).there g 0 (len * 9) ∧ (∀ j t', j < k + 1 → ts[j]? = some t' → (w2.setCells g (k * 9) (c9 t)).rangeAt g (j * 9) (c9 t')) ∧ g < (w2.setCells g (k * 9) (c9 t)).heap.size := by
  refine ⟨World.there_setCells hth2 _ _ _, ?_, ?_⟩
  · intro j u hj hu
    by_cases hjk : j = k
    · subst hjk
      rw [hu] at HT
      cases HT
      exact World.rangeAt_setCells_same _ _ _ _ (there_sub hth2 (by rw [len9]; omega))
    · exact World.rangeAt_setCells_apart (rangeAt_below hb2 hsz (HR j u (by omega) hu)) _ _ _ (by rw [len9, len9]; omega)
  · rw [size_setCells]; have := hb2.size; omega

set_option maxHeartbeats 1000000 in
theorem conv_some (B : Nat) (x : Addr) (len cap : Nat) (ts : List Tok) (w : World) (h : TokRow B w (some x) len ts) (hB : B ≤ w.heap.size) (hlen : len ≤ 1048576) :
    Calls Yba.prog 5 #[.slice (some x) len cap] w fun e w' => e = .returned (.slice (some ⟨w.heap.size, 0, none⟩) len len) ∧ Rows9 w' w.heap.size ts ∧ Below w.heap.size w w' ∧ w.heap.size < w'.heap.size := by
  have q := q24
  obtain ⟨i0, hi, hz0, hz1, hz2⟩ := info_parts info31
  go_enter Yba.func5, Yba.ntmps5
  go_wp2_with (at_make; refine wpList_make_full _ rfl _ _ 33 rfl w.heap.size 31 i0 _ 9 Yba.underlying33 hi hz0 hz1 _ _ _ _ len rfl rfl rfl rfl (by rw [hz2]; omega) (by unfold maxLen; omega) (Nat.le_refl _) ?_)
  intro w1 hown hgrow
  have hb1 : Below w.heap.size w w1 := (Below.refl _ _).grown hgrow (Nat.le_refl _) (fun k h => by cases h)
  have ht1 : w1.there w.heap.size 0 (len * 9) := there_own hown
  have hs1 : w.heap.size < w1.heap.size := (hown.lt w.heap.size rfl).2
  clear hown hgrow
  go_wp2
  go_loopw [12] (fun i wr => ∃ k : Nat, k ≤ len ∧ i = .int .i64 k ∧ wr.there w.heap.size 0 (len * 9) ∧ (∀ j t, j < k → ts[j]? = some t → wr.rangeAt w.heap.size (j * 9) (c9 t)) ∧ Below w.heap.size w wr ∧ w.heap.size < wr.heap.size)
    (fun i _ => len - (intOf i).toNat)
  case atStart => exact ⟨0, Nat.zero_le _, rfl, ht1, fun j t hj => absurd hj (Nat.not_lt_zero _), hb1, hs1⟩
  case round =>
    obtain ⟨k, hk, rfl, hth, hrows, hb, hsz⟩ := hrel
    clear ht1 hb1 hs1
    by_cases hlt : k < len
    · obtain ⟨b, off, hx, hbB, hr⟩ := h.2.2 (by omega)
      obtain rfl : x = ⟨b, off, none⟩ := by simpa using hx
      clear hx
      obtain ⟨t, ht⟩ : ∃ t, ts[k]? = some t := ⟨_, List.getElem?_eq_getElem (by rw [h.1]; exact hlt)⟩
      have hrk : wr.rangeAt b (off + k * 6) (c6 t) := rangeAt_below hb (by omega) (hr k t ht)
      have HT : Hid (ts[k]? = some t) := ht
      have HR : Hid (∀ j t, j < k → ts[j]? = some t → wr.rangeAt w.heap.size (j * 9) (c9 t)) := hrows
      clear ht hr hrows
      go_wp2_with (first | ((with_reducible refine load_g 23 b (off + k * 6) (c6 t) 6 ?_ hrk Yba.underlying23 ?_ (len6 t) size23 ?_); (· rfl); (· rfl)) | (go_at_call 4; refine (ctok t _).mono ?_; rintro e w2 ⟨rfl, hb2⟩; have hth2 := there_below hb2 hsz hth) | ((with_reducible refine store_g 31 w.heap.size (k * 9) (c9 t) 9 ?_ ?_ (there_sub hth2 (by omega)) (len9 t) size31 (one9 t) ?_); (· rfl); (· rfl)))
      go_roundw
      case rel =>
        have R := step_rows k len ts t w2 wr w.heap.size hlt HT.out HR.out hb2 hsz hth2
        exact ⟨k + 1, by omega, by go_num, R.1, R.2.1, (hb.trans (hb2.mono hb.size)).trans (below_setCells _ _ _ _), R.2.2⟩
      case measure => simp [intOf]; omega
    · go_wp2
      go_ret
      exact ⟨rfl, fun i t ht => hrows i t (by have := (List.getElem?_eq_some_iff.1 ht).1; rw [h.1] at this; omega) ht, hb, hsz⟩
end Go.Proofs.Ybulkeatg
