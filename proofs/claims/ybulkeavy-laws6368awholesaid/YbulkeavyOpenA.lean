/-
  The argument of 'scan.LawS6368AWhole', opened: a slice of plain classes.
-/
import Derived.Test.YbulkeavyLawA
import Derived.ProofKit
import Derived.OpenShut
import Derived.Deep.Slices
namespace Go.Proofs.Ybulkeavy
open Go.ChangeShapes Go.WideShapes Go.ChangeAt Go.RowKit
variable {H : Type} {enc : TypeId × Value → H} {w : World} {base : Nat} {spare : Nat → Bool} {held : Bool}

theorem cells25 : Yba.prog.cellsOf 25 = 6 := by kernel_rfl
theorem cells4 : Yba.prog.cellsOf 4 = 1 := by kernel_rfl
theorem cells2 : Yba.prog.cellsOf 2 = 1 := by kernel_rfl

theorem list6 {α : Type} (l : List α) (h : l.length = 6) : ∃ a b c d e f, l = [a, b, c, d, e, f] := by
  match l, h with
  | [a, b, c, d, e, f], _ => exact ⟨a, b, c, d, e, f, rfl⟩

theorem cls_cells {n : Nat} {cs : List Value} {x : DataW H × List MemPlace} (h : DataW.trod enc Yba.prog w base spare held n 25 cs = some x) : ∃ t : Cls, cs = z6 t := by
  obtain ⟨xs, m, _, _, hl, hlen, hf⟩ := DataW.trod_struct Yba.underlying25 h
  obtain ⟨v0, v1, v2, v3, v4, v5, rfl⟩ := list6 cs (by rw [hl, cells25])
  obtain ⟨y0, y1, y2, y3, y4, y5, rfl⟩ := list6 xs (by simpa using hlen)
  have e0 : DataW.trod enc Yba.prog w base spare held m 4 (([v0, v1, v2, v3, v4, v5].drop 0).take (Yba.prog.cellsOf 4)) = some y0 := hf 0 _ rfl
  rw [cells4] at e0
  have e1 : DataW.trod enc Yba.prog w base spare held m 2 (([v0, v1, v2, v3, v4, v5].drop 1).take (Yba.prog.cellsOf 2)) = some y1 := hf 1 _ rfl
  rw [cells2] at e1
  have e2 : DataW.trod enc Yba.prog w base spare held m 2 (([v0, v1, v2, v3, v4, v5].drop 2).take (Yba.prog.cellsOf 2)) = some y2 := hf 2 _ rfl
  rw [cells2] at e2
  have e3 : DataW.trod enc Yba.prog w base spare held m 4 (([v0, v1, v2, v3, v4, v5].drop 3).take (Yba.prog.cellsOf 4)) = some y3 := hf 3 _ rfl
  rw [cells4] at e3
  have e4 : DataW.trod enc Yba.prog w base spare held m 2 (([v0, v1, v2, v3, v4, v5].drop 4).take (Yba.prog.cellsOf 2)) = some y4 := hf 4 _ rfl
  rw [cells2] at e4
  have e5 : DataW.trod enc Yba.prog w base spare held m 4 (([v0, v1, v2, v3, v4, v5].drop 5).take (Yba.prog.cellsOf 4)) = some y5 := hf 5 _ rfl
  rw [cells4] at e5
  obtain ⟨b, q0, _⟩ := DataW.trod_bool Yba.underlying4 e0
  obtain ⟨c, q1, _⟩ := DataW.trod_int Yba.underlying2 e1
  obtain ⟨v, q2, _⟩ := DataW.trod_int Yba.underlying2 e2
  obtain ⟨r, q3, _⟩ := DataW.trod_bool Yba.underlying4 e3
  obtain ⟨s, q4, _⟩ := DataW.trod_int Yba.underlying2 e4
  obtain ⟨hh, q5, _⟩ := DataW.trod_bool Yba.underlying4 e5
  obtain rfl : v0 = _ := (List.cons.inj q0).1
  obtain rfl : v1 = _ := (List.cons.inj q1).1
  obtain rfl : v2 = _ := (List.cons.inj q2).1
  obtain rfl : v3 = _ := (List.cons.inj q3).1
  obtain rfl : v4 = _ := (List.cons.inj q4).1
  obtain rfl : v5 = _ := (List.cons.inj q5).1
  exact ⟨⟨b, c, v, r, s, hh⟩, rfl⟩

theorem open_clss {a : Option Addr} {len cap : Nat} {d : DataW H} {p : List MemPlace} (h : DataW.Trod enc Yba.prog w base (fun _ => true) held 22 (.slice a len cap) d p) :
    ∃ ts, ClsRow w.heap.size w a len ts ∧ (a = none → cap = 0) ∧ len ≤ maxLen := by
  obtain ⟨fuel, hf⟩ := h
  rcases Go.Deep.open_slice Yba.underlying22 hf with ⟨hcs, _⟩ | ⟨x, l, c, m, n, D, Pl, hcs, _, hl, hm, hmm, hx, hel⟩
  · simp [Value.cells] at hcs
    obtain ⟨rfl, rfl, rfl⟩ := hcs
    exact ⟨[], ⟨rfl, fun _ => rfl, fun h => absurd h (Nat.lt_irrefl _)⟩, fun _ => rfl, Nat.zero_le _⟩
  · simp [Value.cells] at hcs
    obtain ⟨rfl, rfl, rfl⟩ := hcs
    simp at hmm
    subst hmm
    have key : ∀ i, i < len → ∃ t : Cls, ∀ j v, (z6 t)[j]? = some v → w.cell? ((x.add (i * 6)).add j) = some v := by
      intro i hi
      obtain ⟨cs', h1, h2⟩ := hel i (by omega)
      rw [cells25] at h1
      obtain ⟨t, rfl⟩ := cls_cells h2
      refine ⟨t, fun j v hv => ?_⟩
      simp only [World.cells?] at h1
      split at h1
      · have hj : j < 6 := by have := (List.getElem?_eq_some_iff.1 hv).1; rwa [len_z6] at this
        have := mapM_some_get h1 j j (by simp [hj])
        rw [this, hv]
      · cases h1
    have inh : Inhabited Cls := ⟨⟨false, 0, 0, false, 0, false⟩⟩
    obtain ⟨T, hT⟩ := Go.Deep.choose_lt (p := fun i (t : Cls) => ∀ j v, (z6 t)[j]? = some v → w.cell? ((x.add (i * 6)).add j) = some v) key
    refine ⟨(List.range len).map T, ⟨by simp, (fun h => by cases h), fun hpos => ?_⟩, (fun h => by cases h), Nat.le_trans hl hm⟩
    obtain ⟨b, off, spot⟩ := x
    have c0 := hT 0 hpos 0 _ rfl
    have hspot : spot = none := by simpa [Addr.add] using World.cell?_spot c0
    subst hspot
    refine ⟨b, off, rfl, ?_, ?_⟩
    · have := World.block_lt_of_cell? w _ c0
      simpa [Addr.add] using this
    · intro i u hu j v hv
      have hi : i < len := by
        have := (List.getElem?_eq_some_iff.1 hu).1
        simpa using this
      have hu' : T i = u := by simpa [hi] using hu
      have := hT i hi j v (by rw [hu']; exact hv)
      rw [Go.Deep.add_add, Go.WideShapes.add_plain] at this
      rw [← this, Nat.add_assoc]
end Go.Proofs.Ybulkeavy
