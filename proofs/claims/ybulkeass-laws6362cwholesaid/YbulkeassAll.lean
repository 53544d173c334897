/-
  Reset at either kind of writer; the copies that the law keeps; equality of arrays with themselves.
-/
import Derived.Test.YbulkeassSt
import Derived.Lib.LazyBuf
namespace Go.Proofs.Ybulkeass
open Go.RowKit

def InpOK (a0 : Bool) (len1 : Nat) (ia : Option Addr) (il ic : Nat) : Prop := (a0 = true ∧ ia = none ∧ il = 0 ∧ ic = 0) ∨ (a0 = false ∧ (∃ g, ia = some ⟨g, 0, none⟩) ∧ il = len1 ∧ ic = len1 + 7)

theorem reset_all (a0 : Bool) (len1 : Nat) (b : Nat) (ia : Option Addr) (il ic go ol oc : Nat) (ta : Option Addr) (tl tc : Nat) (c fo : Nat → Value) (off : Int) (wv : Value) (w : World) (hI : InpOK a0 len1 ia il ic) (hZ0 : w.rowIs b 47 20155 c) (hh : ∀ i, i < 16384 → ∃ n : Int, c (5 + i) = .int .u32 n) (hof : c 16389 = .int .i64 off) (h0 : 0 ≤ off) (h3 : off + ((il : Int) + 1) ≤ 2147483648)
    (hin : c 1 = .slice ia il ic) (htk : c 16390 = .slice ta tl tc) (hout : c 16707 = .slice (some ⟨go, 0, none⟩) ol oc) (hgo : w.rowIs go 5 oc fo) (hoc : 2 ≤ oc) (hm : oc ≤ maxLen) (hne : go ≠ b) (hwv : wv.oneCell' = true) :
    Calls Yba.prog 5 #[.pointer (some ⟨b, 0, none⟩), wv] w fun e w' => e = .returned (.tuple #[]) ∧ ∃ c' f gi ic' ta' tl' tc' g oc', Rst b go off ((il : Int) + 1) wv c w w' c' gi ic' (.slice ta' tl' tc') g oc' f ∧
      ((ia = none ∧ ic' = 98303 ∧ (∃ gt, ta' = some ⟨gt, 0, none⟩) ∧ tl' = 0 ∧ tc' = 65535 ∧ oc' = 65599) ∨ (ia.isNone = false ∧ ic' = ic ∧ ta' = ta ∧ tl' = tl ∧ tc' = tc ∧ oc' = oc)) := by
  rcases hI with ⟨_, rfl, rfl, rfl⟩ | ⟨_, ⟨g, rfl⟩, _, _⟩
  · refine (reset_nil b go c off wv w hZ0 hh hof h0 h3 hin hwv).mono ?_
    rintro e w' ⟨rfl, c', f, gi, gt, g, _, hR⟩
    exact ⟨rfl, c', f, gi, 98303, _, _, _, g, 65599, hR, .inl ⟨rfl, rfl, ⟨gt, rfl⟩, rfl, rfl, rfl⟩⟩
  · refine (reset_some b g il ic go ol oc c fo off wv w hZ0 hh hof h0 h3 hin hout hgo hoc hm hne hwv).mono ?_
    rintro e w' ⟨rfl, c', f, hR⟩
    rw [htk] at hR
    exact ⟨rfl, c', f, g, ic, _, _, _, go, oc, hR, .inr ⟨rfl, rfl, rfl, rfl, rfl, rfl⟩⟩

theorem one_h {w wx : World} {c : Nat → Value} (h : Zs w wx c) : ∀ i, i < 16384 → (c (5 + i)).oneCell' = true := fun i hi => by
  obtain ⟨n, hn⟩ := h.hsh i hi
  rw [hn]; rfl
theorem one1 {w wx : World} {c : Nat → Value} (h : Zs w wx c) (o m : Nat) (h1 : 16391 ≤ o) (h2 : o + m ≤ 16707) : ∀ i, i < m → (c (o + i)).oneCell' = true := fun i hi => by
  obtain ⟨k, n, hn⟩ := h.int1 (o + i) (by omega) (by omega)
  rw [hn]; rfl
theorem one2 {w wx : World} {c : Nat → Value} (h : Zs w wx c) (o m : Nat) (h1 : 16710 ≤ o) (h2 : o + m ≤ 20154) : ∀ i, i < m → (c (o + i)).oneCell' = true := fun i hi => by
  obtain ⟨k, n, hn⟩ := h.int2 (o + i) (by omega) (by omega)
  rw [hn]; rfl

end Go.Proofs.Ybulkeass
