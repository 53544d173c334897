/-
  'parser.zzs6363csame' (function 7) by its contracts.
-/
import Derived.Test.YbulkeatgConv
import Derived.Deep.RegionHeld3
import Derived.Deep.DrawnRows
namespace Go.Proofs.Ybulkeatg
open Go.RowKit
attribute [local go_sem ↓] Go.wp_at_zero Go.wp_at_succ

theorem neq31 (t : Tok) (w : World) : (binOp .neq 31 (.agg (c9 t).toArray) (.agg (c9 t).toArray)).run Yba.prog w = .ok (.bool false) w := by
  simp [c9, go_sem]

theorem same_nil (w : World) :
    Calls Yba.prog 7 #[.slice none 0 0, .slice none 0 0] w fun e w' => e = .returned (.bool true) ∧ Below w.heap.size w w' := by
  have q := q24
  have q' := q33
  go_enter Yba.func7, Yba.ntmps7
  go_wp2
  go_loopw [20] (fun i wr => i = .int .i64 0 ∧ Below w.heap.size w wr) (fun _ _ => 0)
  case atStart => exact ⟨rfl, Below.refl _ _⟩
  case round =>
    obtain ⟨rfl, hb⟩ := hrel
    go_wp2
    go_ret
    exact ⟨rfl, hb⟩

/-- one token's cells, one by one -/
def Six (w : World) (b o : Nat) (t : Tok) : Prop := w.cell? ⟨b, o, none⟩ = some (.int .u8 t.k) ∧ w.cell? ⟨b, o + 1, none⟩ = some (.string t.s) ∧ w.cell? ⟨b, o + 2, none⟩ = some (.int .i64 t.a) ∧ w.cell? ⟨b, o + 3, none⟩ = some (.int .i64 t.b) ∧ w.cell? ⟨b, o + 4, none⟩ = some (.int .i64 t.c) ∧ w.cell? ⟨b, o + 5, none⟩ = some (.int .i64 t.d)
theorem six_of {w : World} {b o : Nat} {t : Tok} (h : w.rangeAt b o (c6 t)) : Six w b o t :=
  ⟨h 0 _ rfl, h 1 _ rfl, h 2 _ rfl, h 3 _ rfl, h 4 _ rfl, h 5 _ rfl⟩
theorem nine_of {w : World} {b o : Nat} {t : Tok} (h : w.rangeAt b o (c9 t)) : Six w b o t ∧ w.cell? ⟨b, o + 6, none⟩ = some (.int .i64 0) ∧ w.cell? ⟨b, o + 7, none⟩ = some (.int .i64 0) ∧ w.cell? ⟨b, o + 8, none⟩ = some (.int .i64 0) :=
  ⟨⟨h 0 _ rfl, h 1 _ rfl, h 2 _ rfl, h 3 _ rfl, h 4 _ rfl, h 5 _ rfl⟩, h 6 _ rfl, h 7 _ rfl, h 8 _ rfl⟩
theorem neq31x (t : Tok) (w : World) : (binOp .neq 31 (.agg #[.int .u8 t.k, .string t.s, .int .i64 t.a, .int .i64 t.b, .int .i64 t.c, .int .i64 t.d, .int .i64 0, .int .i64 0, .int .i64 0]) (.agg (c9 t).toArray)).run Yba.prog w = .ok (.bool false) w := neq31 t w

set_option maxHeartbeats 1000000 in
theorem same_some (B g : Nat) (x : Addr) (len cap : Nat) (ts : List Tok) (w : World) (h : TokRow B w (some x) len ts) (hB : B ≤ w.heap.size) (hlen : len ≤ 1048576) (hg : g < w.heap.size) (hrows : Rows9 w g ts) :
    Calls Yba.prog 7 #[.slice (some ⟨g, 0, none⟩) len len, .slice (some x) len cap] w fun e w' => e = .returned (.bool true) ∧ Below w.heap.size w w' := by
  have q := q24
  have q' := q33
  go_enter Yba.func7, Yba.ntmps7
  go_wp2
  go_loopw [20] (fun i wr => ∃ k : Nat, k ≤ len ∧ i = .int .i64 k ∧ Below w.heap.size w wr) (fun i _ => len - (intOf i).toNat)
  case atStart => exact ⟨0, Nat.zero_le _, rfl, Below.refl _ _⟩
  case round =>
    obtain ⟨k, hk, rfl, hb⟩ := hrel
    by_cases hlt : k < len
    · obtain ⟨b, off, hx, hbB, hr⟩ := h.2.2 (by omega)
      obtain rfl : x = ⟨b, off, none⟩ := by simpa using hx
      clear hx
      obtain ⟨t, ht⟩ : ∃ t, ts[k]? = some t := ⟨_, List.getElem?_eq_getElem (by rw [h.1]; exact hlt)⟩
      have hrk : wr.rangeAt b (off + k * 6) (c6 t) := rangeAt_below hb (by omega) (hr k t ht)
      have hgk : wr.rangeAt g (k * 9) (c9 t) := rangeAt_below hb hg (hrows k t ht)
      obtain ⟨a0, a1, a2, a3, a4, a5⟩ := six_of hrk
      obtain ⟨⟨b0, b1, b2, b3, b4, b5⟩, b6, b7, b8⟩ := nine_of hgk
      have hne := neq31x t
      have HB : Hid (b < wr.heap.size) := by have := hb.size; exact (by omega : b < wr.heap.size)
      have HG : Hid (g < wr.heap.size) := by have := hb.size; exact (by omega : g < wr.heap.size)
      have i1 : (0 : Int) ≤ (k : Int) := by omega
      have i2 : (k : Int) < (len : Int) := by omega
      clear h hr ht hrows hrk hgk
      go_wp2
      go_region_held3 (fun w' => (w'.cell? ⟨g, k * 9, none⟩ = some (.int .u8 t.k) ∧ w'.cell? ⟨g, k * 9 + 1, none⟩ = some (.string t.s) ∧ w'.cell? ⟨g, k * 9 + 2, none⟩ = some (.int .i64 t.a) ∧ w'.cell? ⟨g, k * 9 + 3, none⟩ = some (.int .i64 t.b) ∧ w'.cell? ⟨g, k * 9 + 4, none⟩ = some (.int .i64 t.c) ∧ w'.cell? ⟨g, k * 9 + 5, none⟩ = some (.int .i64 t.d) ∧ w'.cell? ⟨g, k * 9 + 6, none⟩ = some (.int .i64 0) ∧ w'.cell? ⟨g, k * 9 + 7, none⟩ = some (.int .i64 0) ∧ w'.cell? ⟨g, k * 9 + 8, none⟩ = some (.int .i64 0)) ∧
          w'.cell? ⟨b, off + k * 6, none⟩ = some (.int .u8 t.k) ∧ w'.cell? ⟨b, off + k * 6 + 1, none⟩ = some (.string t.s) ∧ w'.cell? ⟨b, off + k * 6 + 2, none⟩ = some (.int .i64 t.a) ∧ w'.cell? ⟨b, off + k * 6 + 3, none⟩ = some (.int .i64 t.b) ∧ w'.cell? ⟨b, off + k * 6 + 4, none⟩ = some (.int .i64 t.c) ∧ w'.cell? ⟨b, off + k * 6 + 5, none⟩ = some (.int .i64 t.d))
        (first | go_keep | (have hc : ∀ (bb oo : Nat), bb < wr.heap.size → w2.cell? ⟨bb, oo, none⟩ = wr.cell? ⟨bb, oo, none⟩ := (fun bb oo hh => (hb2.cell (p := ⟨bb, oo, none⟩) (by simpa using hh)).trans (by simp)); have hgg := HG.out; have hbb := HB.out; simp only [hc _ _ hgg, hc _ _ hbb]; exact ⟨⟨b0, b1, b2, b3, b4, b5, b6, b7, b8⟩, a0, a1, a2, a3, a4, a5⟩)) ((go_at_call 4; refine (ctok t _).mono ?_; rintro e w2 ⟨rfl, hb2⟩))
      go_wp2
      go_roundw
      case rel => exact ⟨k + 1, by omega, by go_num, hb.drew.trans (Below.mono hb2 hb.size)⟩
      case measure => simp [intOf]; omega
    · go_wp2
      go_ret
      exact ⟨rfl, hb⟩
end Go.Proofs.Ybulkeatg
