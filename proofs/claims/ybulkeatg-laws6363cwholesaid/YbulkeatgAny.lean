/-
  The contracts of conv, same, furthest in the one form that the law's walk takes.
-/
import Derived.Test.YbulkeatgFurthest
namespace Go.Proofs.Ybulkeatg
open Go.RowKit

/-- what 'conv' hands back: nil for nil; else a new row of the tokens -/
def ConvR (w : World) (a ao : Option Addr) (ts : List Tok) : Prop :=
  (a = none ∧ ao = none ∧ ts = []) ∨ ∃ x g, a = some x ∧ ao = some ⟨g, 0, none⟩ ∧ g < w.heap.size ∧ Rows9 w g ts

theorem Rows9.below {B : Nat} {w w' : World} {g : Nat} {ts : List Tok} (h : Rows9 w g ts) (hb : Below B w w') (hg : g < B) : Rows9 w' g ts :=
  fun i t ht => rangeAt_below hb hg (h i t ht)
theorem ConvR.below {w w' : World} {a ao : Option Addr} {ts : List Tok} (h : ConvR w a ao ts) (hb : Below w.heap.size w w') : ConvR w' a ao ts := by
  rcases h with h | ⟨x, g, h1, h2, h3, h4⟩
  · exact .inl h
  · exact .inr ⟨x, g, h1, h2, by have := hb.size; omega, h4.below hb h3⟩
theorem Psr.below {w w' : World} {pb : Nat} {t : Tok} {va vh : Value} (h : Psr w pb t va vh) (hb : Below w.heap.size w w') (hp : pb < w.heap.size) : Psr w' pb t va vh :=
  ⟨rangeAt_below hb hp h.1, (hb.cell (p := ⟨pb, 10, none⟩) hp).trans h.2.1, (hb.cell (p := ⟨pb, 12, none⟩) hp).trans h.2.2⟩

theorem ctokX (t : Tok) (w : World) :
    Calls Yba.prog 4 #[.agg (c6 t).toArray] w fun e w' => e = .returned (.agg #[.int .u8 t.k, .string t.s, .int .i64 t.a, .int .i64 t.b, .int .i64 t.c, .int .i64 t.d, .int .i64 0, .int .i64 0, .int .i64 0]) ∧ Below w.heap.size w w' := ctok t w

theorem conv_any (B : Nat) (a : Option Addr) (len cap : Nat) (ts : List Tok) (w : World) (h : TokRow B w a len ts) (hc : a = none → cap = 0) (hB : B ≤ w.heap.size) (hlen : len ≤ 1048576) :
    Calls Yba.prog 5 #[.slice a len cap] w fun e w' => ∃ ao, e = .returned (.slice ao len len) ∧ ConvR w' a ao ts ∧ Below w.heap.size w w' := by
  cases a with
  | none =>
    obtain rfl : len = 0 := h.2.1 rfl
    obtain rfl : cap = 0 := hc rfl
    exact (conv_nil w).mono fun e w' ⟨he, hw⟩ => ⟨none, he, .inl ⟨rfl, rfl, List.length_eq_zero_iff.1 h.1⟩, by rw [hw]; exact Below.refl _ _⟩
  | some x => exact (conv_some B x len cap ts w h hB hlen).mono fun e w' ⟨he, h1, h2, h3⟩ => ⟨_, he, .inr ⟨x, _, rfl, rfl, h3, h1⟩, h2⟩

theorem same_any (B : Nat) (a ao : Option Addr) (len cap : Nat) (ts : List Tok) (w : World) (h : TokRow B w a len ts) (hc : a = none → cap = 0) (hB : B ≤ w.heap.size) (hlen : len ≤ 1048576) (hr : ConvR w a ao ts) :
    Calls Yba.prog 7 #[.slice ao len len, .slice a len cap] w fun e w' => e = .returned (.bool true) ∧ Below w.heap.size w w' := by
  rcases hr with ⟨rfl, rfl, _⟩ | ⟨x, g, rfl, rfl, hg, hr⟩
  · obtain rfl : len = 0 := h.2.1 rfl
    obtain rfl : cap = 0 := hc rfl
    exact same_nil w
  · exact same_some B g x len cap ts w h hB hlen hg hr

/-- the last of the tokens t, ts1.., ts2.. -/
def lastOf (t : Tok) (ts1 ts2 : List Tok) : Tok := (t :: (ts1 ++ ts2)).getLast (by simp)

theorem convR_len {w : World} {a ao : Option Addr} {ts : List Tok} {n : Nat} (h : ConvR w a ao ts) (hl : ts.length = n + 1) : ∃ g, ao = some ⟨g, 0, none⟩ ∧ g < w.heap.size ∧ ∃ t, ts.getLast? = some t ∧ w.rangeAt g (n * 9) (c9 t) := by
  rcases h with ⟨_, _, rfl⟩ | ⟨x, g, _, h2, h3, h4⟩
  · simp at hl
  · refine ⟨g, h2, h3, ts[n]'(by omega), ?_, h4 n _ (List.getElem?_eq_getElem (by omega))⟩
    rw [List.getLast?_eq_getElem?, show ts.length - 1 = n by omega]
    exact List.getElem?_eq_getElem (by omega)

theorem furthest_any (pb : Nat) (t : Tok) (a1 a2 ao1 ao2 : Option Addr) (len1 len2 : Nat) (ts1 ts2 : List Tok) (w : World) (h : Psr w pb t (.slice ao1 len1 len1) (.slice ao2 len2 len2))
    (h1 : ts1.length = len1) (h2 : ts2.length = len2) (hl1 : len1 ≤ 1048576) (hl2 : len2 ≤ 1048576) (r1 : ConvR w a1 ao1 ts1) (r2 : ConvR w a2 ao2 ts2) :
    Calls Yba.prog 6 #[.pointer (some ⟨pb, 0, none⟩)] w fun e w' => e = .returned (.agg (c9 (lastOf t ts1 ts2)).toArray) ∧ Below w.heap.size w w' := by
  cases len2 with
  | succ n =>
    obtain ⟨g, rfl, hg, u, hu, hr⟩ := convR_len r2 h2
    have e : lastOf t ts1 ts2 = u := by
      have : (t :: (ts1 ++ ts2)).getLast? = some u := by rw [List.getLast?_cons, List.getLast?_append, hu]; rfl
      rw [lastOf]; rw [List.getLast?_eq_some_getLast (by simp)] at this; exact Option.some.inj this
    rw [e]
    exact furthest_held pb t u _ g n w h (by omega) hr
  | zero =>
    obtain rfl : ts2 = [] := List.length_eq_zero_iff.1 h2
    cases len1 with
    | succ n =>
      obtain ⟨g, rfl, hg, u, hu, hr⟩ := convR_len r1 h1
      have e : lastOf t ts1 [] = u := by
        have : (t :: (ts1 ++ [])).getLast? = some u := by rw [List.append_nil, List.getLast?_cons, hu]; rfl
        rw [lastOf]; rw [List.getLast?_eq_some_getLast (by simp)] at this; exact Option.some.inj this
      rw [e]
      exact furthest_last pb t u _ ao2 0 w h (fun o => last_ahead pb t u g n _ _ (h.alloc o) (by omega) (World.rangeAt_alloc hr o))
    | zero =>
      obtain rfl : ts1 = [] := List.length_eq_zero_iff.1 h1
      exact furthest_last pb t t _ ao2 0 w h (fun o => last_tok pb t _ _ _ _ (h.alloc o))
end Go.Proofs.Ybulkeatg
