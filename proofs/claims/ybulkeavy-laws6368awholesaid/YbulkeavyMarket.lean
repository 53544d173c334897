/-
  'scan.marketValue' (function 5) by its contract.
-/
import Derived.Test.YbulkeavyAdd
import Derived.Test.YbulkeavyMid
namespace Go.Proofs.Ybulkeavy
open Go.RowKit

structure Cls where
  b : Bool
  c : Int
  v : Int
  r : Bool
  s : Int
  h : Bool

def z6 (x : Cls) : List Value := [.bool x.b, .int .i64 x.c, .int .i64 x.v, .bool x.r, .int .i64 x.s, .bool x.h]
def known (x : Cls) : Bool := !x.b && x.r && x.h
def stepV (v : Int) (x : Cls) : Int := if known x then sat v (x.c * x.s) else v
def mval (xs : List Cls) : Int := xs.foldl stepV 0
def whole (xs : List Cls) : Bool := xs.all known
def Good (xs : List Cls) : Prop := ∀ x ∈ xs, 0 ≤ x.c ∧ x.c ≤ 9223372036854775807 ∧ 0 ≤ x.s ∧ x.s ≤ 9223372036854775807

theorem mval_snoc (xs : List Cls) (x : Cls) : mval (xs ++ [x]) = stepV (mval xs) x := by simp [mval]
theorem whole_snoc (xs : List Cls) (x : Cls) : whole (xs ++ [x]) = (whole xs && known x) := by simp [whole]
theorem stepV_bd (v : Int) (x : Cls) (h0 : 0 ≤ v) (h1 : v ≤ 9223372036854775807) (hx : 0 ≤ x.c ∧ x.c ≤ 9223372036854775807 ∧ 0 ≤ x.s ∧ x.s ≤ 9223372036854775807) : 0 ≤ stepV v x ∧ stepV v x ≤ 9223372036854775807 := by
  unfold stepV; split
  · exact sat_bd _ _ h0 h1 (prod_nonneg _ _ hx.1 hx.2.2.1)
  · exact ⟨h0, h1⟩
theorem mval_bd (xs : List Cls) : Good xs → 0 ≤ mval xs ∧ mval xs ≤ 9223372036854775807 := by
  have : ∀ (xs : List Cls) (v : Int), 0 ≤ v → v ≤ 9223372036854775807 → Good xs → 0 ≤ xs.foldl stepV v ∧ xs.foldl stepV v ≤ 9223372036854775807 := by
    intro xs
    induction xs with
    | nil => intro v h0 h1 _; exact ⟨h0, h1⟩
    | cons x r ih =>
      intro v h0 h1 hg
      obtain ⟨a, b⟩ := stepV_bd v x h0 h1 (hg x (by simp))
      exact ih _ a b (fun y hy => hg y (by simp [hy]))
  exact fun hg => this xs 0 (by omega) (by omega) hg
theorem take_snoc (xs : List Cls) (k : Nat) (x : Cls) (h : xs[k]? = some x) : xs.take (k + 1) = xs.take k ++ [x] := by
  rw [List.take_add_one, h]; rfl
theorem Good.take {xs : List Cls} (h : Good xs) (k : Nat) : Good (xs.take k) := fun x hx => h x (List.mem_of_mem_take hx)

def Rows6 (w : World) (g : Nat) (xs : List Cls) : Prop := ∀ i x, xs[i]? = some x → w.rangeAt g (i * 6) (z6 x)
theorem Rows6.below {B : Nat} {w w' : World} {g : Nat} {xs : List Cls} (h : Rows6 w g xs) (hb : Below B w w') (hg : g < B) : Rows6 w' g xs :=
  fun i t ht => rangeAt_below hb hg (h i t ht)
theorem six_of {w : World} {b o : Nat} {x : Cls} (h : w.rangeAt b o (z6 x)) : w.cell? ⟨b, o, none⟩ = some (.bool x.b) ∧ w.cell? ⟨b, o + 1, none⟩ = some (.int .i64 x.c) ∧ w.cell? ⟨b, o + 2, none⟩ = some (.int .i64 x.v) ∧ w.cell? ⟨b, o + 3, none⟩ = some (.bool x.r) ∧ w.cell? ⟨b, o + 4, none⟩ = some (.int .i64 x.s) ∧ w.cell? ⟨b, o + 5, none⟩ = some (.bool x.h) :=
  ⟨h 0 _ rfl, h 1 _ rfl, h 2 _ rfl, h 3 _ rfl, h 4 _ rfl, h 5 _ rfl⟩

set_option maxHeartbeats 1000000 in
theorem market (fb g n : Nat) (ao : Option Addr) (xs : List Cls) (w : World) (hf : w.cell? ⟨fb, 0, none⟩ = some (.slice ao n n)) (hao : 0 < n → ao = some ⟨g, 0, none⟩ ∧ g < w.heap.size)
    (hl : xs.length = n) (hn : n ≤ 1048576) (hr : Rows6 w g xs) (hg : Good xs) :
    Calls Yba.prog 5 #[.pointer (some ⟨fb, 0, none⟩)] w fun e w' => e = .returned (.tuple #[.int .i64 (mval xs), .bool (whole xs)]) ∧ Below w.heap.size w w' := by
  go_enter Yba.func5, Yba.ntmps5
  go_wp2
  go_loopw [4, 5, 13] (fun v wh i wr => ∃ k : Nat, k ≤ n ∧ i = .int .i64 k ∧ v = .int .i64 (mval (xs.take k)) ∧ wh = .bool (whole (xs.take k)) ∧ Below w.heap.size w wr)
    (fun _ _ i _ => n - (intOf i).toNat)
  case atStart => exact ⟨0, Nat.zero_le _, rfl, rfl, rfl, Below.refl _ _⟩
  case round =>
    obtain ⟨k, hk, rfl, rfl, rfl, hb⟩ := hrel
    by_cases hlt : k < n
    · obtain ⟨hx, hgs⟩ := hao (by omega)
      subst hx
      obtain ⟨x, ht⟩ : ∃ x, xs[k]? = some x := ⟨_, List.getElem?_eq_getElem (by rw [hl]; exact hlt)⟩
      obtain ⟨a0, a1, a2, a3, a4, a5⟩ := six_of (rangeAt_below hb hgs (hr k x ht))
      have hgx := hg x (List.mem_of_getElem? ht)
      have hbd := mval_bd _ (hg.take k)
      have HT : Hid (xs.take (k + 1) = xs.take k ++ [x]) := take_snoc xs k x ht
      clear hr hg ht hao
      obtain ⟨m0, m1⟩ := hbd
      obtain ⟨x0, x1, x2, x3⟩ := hgx
      have HV : Hid (mval (xs.take (k + 1)) = stepV (mval (xs.take k)) x) := by rw [HT.out]; exact mval_snoc _ _
      have HW : Hid (whole (xs.take (k + 1)) = (whole (xs.take k) && known x)) := by rw [HT.out]; exact whole_snoc _ _
      generalize mval (xs.take k) = mv at *
      generalize whole (xs.take k) = wl at *
      clear HT
      obtain ⟨xb, xc, xv, xr, xs', xh⟩ := x
      simp only at *
      cases xb with
      | true =>
        go_wp2
        go_roundw
        case rel => exact ⟨k + 1, by omega, by go_num, by rw [HV.out]; simp [stepV, known], by rw [HW.out]; simp [known], hb.alloc hb.size _⟩
        case measure => simp [intOf]; omega
      | false =>
        cases xr with
        | false =>
          go_wp2
          go_roundw
          case rel => exact ⟨k + 1, by omega, by go_num, by rw [HV.out]; simp [stepV, known], by rw [HW.out]; simp [known], hb.alloc hb.size _⟩
          case measure => simp [intOf]; omega
        | true =>
          cases xh with
          | false =>
            go_wp2
            go_roundw
            case rel => exact ⟨k + 1, by omega, by go_num, by rw [HV.out]; simp [stepV, known], by rw [HW.out]; simp [known], hb.alloc hb.size _⟩
            case measure => simp [intOf]; omega
          | true =>
            go_wp2_with (go_at_call 10; refine (addProduct _ _ _ _ m0 m1 x0 x1 x2).mono ?_; rintro e w2 ⟨rfl, rfl⟩)
            go_roundw
            case rel => exact ⟨k + 1, by omega, by go_num, by rw [HV.out]; simp [stepV, known], by rw [HW.out]; simp [known], hb.alloc hb.size _⟩
            case measure => simp [intOf]; omega
    · go_wp2
      go_ret2
      rw [List.take_of_length_le (by omega)]
      exact ⟨rfl, hb⟩
end Go.Proofs.Ybulkeavy
