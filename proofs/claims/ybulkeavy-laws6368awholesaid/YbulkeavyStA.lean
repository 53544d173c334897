/-
  What 'scan.LawS6368AWhole' knows of its own memory, and the plain facts that its rounds want.
-/
import Derived.Test.YbulkeavyMarket
import Derived.Test.YbulkeavyShelf
namespace Go.Proofs.Ybulkeavy
open Go.RowKit

/-- the share record that the law makes of the plain data: the sign bits of the close and of the share count are cleared -/
def mask (x : Int) : Int := bits .and .i64 x 9223372036854775807
def mk (x : Cls) : Cls := { x with c := mask x.c, s := mask x.s }

theorem len_z6 (x : Cls) : (z6 x).length = 6 := rfl
theorem one_z6 (x : Cls) : ∀ v ∈ z6 x, v.oneCell' = true := by simp [z6, Value.oneCell']
def rows6 (ys : List Cls) : List Value := ys.flatMap z6
theorem rows6_cons (y : Cls) (r : List Cls) : rows6 (y :: r) = z6 y ++ rows6 r := rfl
theorem rows6_len (ys : List Cls) : (rows6 ys).length = ys.length * 6 := by
  induction ys with
  | nil => rfl
  | cons y r ih => rw [rows6_cons, List.length_append, ih, len_z6, List.length_cons]; omega
theorem rows6_get (ys : List Cls) : ∀ (i : Nat) (y : Cls) (j : Nat), ys[i]? = some y → j < 6 → (rows6 ys)[i * 6 + j]? = (z6 y)[j]? := by
  induction ys with
  | nil => intro i y j h; simp at h
  | cons z r ih =>
    intro i y j h hj
    rw [rows6_cons]
    cases i with
    | zero =>
      simp only [List.getElem?_cons_zero, Option.some.injEq] at h
      subst h
      rw [Nat.zero_mul, Nat.zero_add, List.getElem?_append_left (by rw [len_z6]; exact hj)]
    | succ i =>
      simp only [List.getElem?_cons_succ] at h
      rw [List.getElem?_append_right (by rw [len_z6]; omega), len_z6, show (i + 1) * 6 + j - 6 = i * 6 + j by omega]
      exact ih i y j h hj
theorem one_rows6 (ys : List Cls) : ∀ v ∈ rows6 ys, v.oneCell' = true := by
  intro v hv
  obtain ⟨y, _, hy⟩ := List.mem_flatMap.1 hv
  exact one_z6 y v hy
theorem Rows6.all {w : World} {g : Nat} {ys : List Cls} (h : Rows6 w g ys) : ∀ j v, (rows6 ys)[j]? = some v → w.cell? ((⟨g, 0, none⟩ : Addr).add j) = some v := by
  intro j v hv
  have hj : j < ys.length * 6 := by have := (List.getElem?_eq_some_iff.1 hv).1; rwa [rows6_len] at this
  have hi : j / 6 < ys.length := by omega
  have e := rows6_get ys (j / 6) ys[j / 6] (j % 6) (List.getElem?_eq_getElem hi) (by omega)
  rw [show j / 6 * 6 + j % 6 = j by omega, hv] at e
  have := h (j / 6) ys[j / 6] (List.getElem?_eq_getElem hi) (j % 6) v e.symm
  rw [show j / 6 * 6 + j % 6 = j by omega] at this
  rw [Go.Addr.add_mid, Nat.zero_add]
  exact this
theorem rows6_of {w : World} {g : Nat} {ys : List Cls} (h : w.rangeAt g 0 (rows6 ys)) : Rows6 w g ys := by
  intro i y hy j v hv
  have hj : j < 6 := by have := (List.getElem?_eq_some_iff.1 hv).1; rwa [len_z6] at this
  have := h (i * 6 + j) v (by rw [rows6_get ys i y j hy hj]; exact hv)
  rwa [Nat.zero_add] at this

/-- what is known once 'facts' is made -/
structure StA (w W : World) (g1 g2 fb n : Nat) (ao : Option Addr) (ys : List Cls) (hold : Int) (hh : Bool) : Prop where
  bel : Below w.heap.size w W
  r1 : Rows6 W g1 ys
  hao : 0 < n → ao = some ⟨g1, 0, none⟩ ∧ g1 < W.heap.size
  r2 : Rows6 W g2 ys
  l2 : g2 < W.heap.size
  f0 : W.cell? ⟨fb, 0, none⟩ = some (.slice ao n n)
  f1 : W.cell? ⟨fb, 1, none⟩ = some (.int .i64 hold)
  f2 : W.cell? ⟨fb, 2, none⟩ = some (.bool hh)
  lf : fb < W.heap.size
  len : ys.length = n

theorem StA.below {w W W' : World} {g1 g2 fb n : Nat} {ao : Option Addr} {ys : List Cls} {hold : Int} {hh : Bool} (h : StA w W g1 g2 fb n ao ys hold hh) (hb : Below W.heap.size W W') : StA w W' g1 g2 fb n ao ys hold hh := by
  refine ⟨h.bel.trans (hb.mono h.bel.size), ?_, ?_, h.r2.below hb h.l2, Nat.lt_of_lt_of_le h.l2 hb.size, (hb.cell (p := ⟨fb, 0, none⟩) h.lf).trans h.f0, (hb.cell (p := ⟨fb, 1, none⟩) h.lf).trans h.f1, (hb.cell (p := ⟨fb, 2, none⟩) h.lf).trans h.f2, Nat.lt_of_lt_of_le h.lf hb.size, h.len⟩
  · by_cases hn : 0 < n
    · exact h.r1.below hb (h.hao hn).2
    · intro i x hx
      have := (List.getElem?_eq_some_iff.1 hx).1
      rw [h.len] at this; omega
  · exact fun hn => ⟨(h.hao hn).1, Nat.lt_of_lt_of_le (h.hao hn).2 hb.size⟩

theorem st_startA {w wr w3 : World} {g1 n : Nat} {ao : Option Addr} {ys : List Cls} {hold : Int} {hh : Bool} (hB : Below w.heap.size w wr) (h1 : Rows6 wr g1 ys) (hao : 0 < n → ao = some ⟨g1, 0, none⟩ ∧ g1 < wr.heap.size) (hlen : ys.length = n)
    (hb3 : Below wr.heap.size wr w3) (ht3 : w3.there wr.heap.size 0 (n * 6)) (hs3 : wr.heap.size < w3.heap.size) :
    StA w ((w3.setCells wr.heap.size 0 (rows6 ys)).alloc (.cells #[.slice ao n n, .int .i64 hold, .bool hh] 30)) g1 wr.heap.size (w3.setCells wr.heap.size 0 (rows6 ys)).heap.size n ao ys hold hh := by
  have e4 : (w3.setCells wr.heap.size 0 (rows6 ys)).heap.size = w3.heap.size := size_setCells _ _ _ _
  have h4 : Below wr.heap.size wr (w3.setCells wr.heap.size 0 (rows6 ys)) := hb3.trans (below_setCells _ _ _ _)
  have h45 : Below w3.heap.size (w3.setCells wr.heap.size 0 (rows6 ys)) ((w3.setCells wr.heap.size 0 (rows6 ys)).alloc (.cells #[.slice ao n n, .int .i64 hold, .bool hh] 30)) := (Below.refl _ _).alloc (by rw [e4]; exact Nat.le_refl _) _
  have h5 : Below wr.heap.size wr ((w3.setCells wr.heap.size 0 (rows6 ys)).alloc (.cells #[.slice ao n n, .int .i64 hold, .bool hh] 30)) := h4.trans (h45.mono (by omega))
  have hs5 : ((w3.setCells wr.heap.size 0 (rows6 ys)).alloc (.cells #[.slice ao n n, .int .i64 hold, .bool hh] 30)).heap.size = w3.heap.size + 1 := by simp [e4]
  have hC : ∀ j, ((w3.setCells wr.heap.size 0 (rows6 ys)).alloc (.cells #[.slice ao n n, .int .i64 hold, .bool hh] 30)).cell? ⟨w3.heap.size, j, none⟩ = (#[.slice ao n n, .int .i64 hold, .bool hh] : Array Value)[j]? := fun j => by
    have := heap_alloc_new (w3.setCells wr.heap.size 0 (rows6 ys)) (.cells #[.slice ao n n, .int .i64 hold, .bool hh] 30)
    rw [e4] at this
    exact cell_of_row _ _ j _ _ _ this
  rw [e4]
  refine ⟨hB.trans (h5.mono hB.size), ?_, ?_, ?_, by omega, by rw [hC]; rfl, by rw [hC]; rfl, by rw [hC]; rfl, by omega, hlen⟩
  · by_cases hn : 0 < n
    · exact h1.below h5 (hao hn).2
    · intro i x hx
      have := (List.getElem?_eq_some_iff.1 hx).1
      rw [hlen] at this; omega
  · exact fun hn => ⟨(hao hn).1, by have := (hao hn).2; omega⟩
  · refine Rows6.below (rows6_of ?_) h45 hs3
    exact World.rangeAt_setCells_same _ _ _ _ (by rw [rows6_len, hlen]; exact ht3)

/-! bits.Mul64 over Int, and the test on the halves -/
def hiOf (a b : Int) : Int := ((a.toNat * b.toNat / 18446744073709551616 : Nat) : Int)
def loOf (a b : Int) : Int := ((a.toNat * b.toNat % 18446744073709551616 : Nat) : Int)
theorem mul64I (a b : Int) (w : World) (a0 : 0 ≤ a) (a1 : a ≤ 9223372036854775807) (b0 : 0 ≤ b) (b1 : b ≤ 9223372036854775807) :
    Calls Yba.prog 6 #[.int .u64 a, .int .u64 b] w fun e w' => e = .returned (.tuple #[.int .u64 (hiOf a b), .int .u64 (loOf a b)]) ∧ w' = w := by
  have h := Yba.bits_Mul64 a.toNat b.toNat (by omega) (by omega) w
  rw [Int.toNat_of_nonneg a0, Int.toNat_of_nonneg b0] at h
  exact h
theorem prod_toNat (a b : Int) (a0 : 0 ≤ a) (b0 : 0 ≤ b) : a * b = ((a.toNat * b.toNat : Nat) : Int) := by
  rw [Int.natCast_mul, Int.toNat_of_nonneg a0, Int.toNat_of_nonneg b0]
theorem lo_bd (a b : Int) : 0 ≤ loOf a b ∧ loOf a b ≤ 18446744073709551615 := by unfold loOf; omega
theorem sat_hi (v a b : Int) (v0 : 0 ≤ v) (v1 : v ≤ 9223372036854775807) (a0 : 0 ≤ a) (b0 : 0 ≤ b) (h : (hiOf a b != 0) = true) : sat v (a * b) = 9223372036854775807 := by
  rw [prod_toNat a b a0 b0]
  exact sat_over _ _ ((halves v a.toNat b.toNat v0 v1).2 (.inl (by simpa [hiOf] using h)))
theorem sat_lo (v a b : Int) (v0 : 0 ≤ v) (v1 : v ≤ 9223372036854775807) (a0 : 0 ≤ a) (b0 : 0 ≤ b) (h : 9223372036854775807 - v < loOf a b) : sat v (a * b) = 9223372036854775807 := by
  rw [prod_toNat a b a0 b0]
  exact sat_over _ _ ((halves v a.toNat b.toNat v0 v1).2 (.inr h))
theorem sat_no (v a b : Int) (v0 : 0 ≤ v) (v1 : v ≤ 9223372036854775807) (a0 : 0 ≤ a) (b0 : 0 ≤ b) (hh : (hiOf a b != 0) = false) (h : ¬ 9223372036854775807 - v < loOf a b) : sat v (a * b) = v + loOf a b := by
  rw [prod_toNat a b a0 b0]
  have hn : ¬ 9223372036854775807 - v < ((a.toNat * b.toNat : Nat) : Int) := fun hc => by
    rcases (halves v a.toNat b.toNat v0 v1).1 hc with h1 | h1
    · exact h1 (by simpa [hiOf] using hh)
    · exact h h1
  rw [sat_in _ _ hn, loOf, low_is v _ _ v0 hn]
theorem neq27 (x : Cls) (w : World) : (binOp .neq 27 (.agg #[.bool x.b, .int .i64 x.c, .int .i64 x.v, .bool x.r, .int .i64 x.s, .bool x.h]) (.agg #[.bool x.b, .int .i64 x.c, .int .i64 x.v, .bool x.r, .int .i64 x.s, .bool x.h])).run Yba.prog w = .ok (.bool false) w := by
  simp [go_sem]
end Go.Proofs.Ybulkeavy
