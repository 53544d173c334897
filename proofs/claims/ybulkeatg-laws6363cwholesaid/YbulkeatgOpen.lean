/-
  The arguments of 'parser.LawS6363CWhole', opened: a plain token by value; a slice of plain tokens.
-/
import Derived.Test.YbulkeatgLaw
import Derived.ProofKit
import Derived.OpenShut
import Derived.Deep.Slices
namespace Go.Proofs.Ybulkeatg
open Go.ChangeShapes Go.WideShapes Go.ChangeAt Go.RowKit
variable {H : Type} {enc : TypeId × Value → H} {w : World} {base : Nat} {spare : Nat → Bool} {held : Bool}

theorem cells23 : Yba.prog.cellsOf 23 = 6 := by kernel_rfl
theorem cells5 : Yba.prog.cellsOf 5 = 1 := by kernel_rfl
theorem cells9' : Yba.prog.cellsOf 9 = 1 := by kernel_rfl
theorem cells3 : Yba.prog.cellsOf 3 = 1 := by kernel_rfl

theorem list6 {α : Type} (l : List α) (h : l.length = 6) : ∃ a b c d e f, l = [a, b, c, d, e, f] := by
  match l, h with
  | [a, b, c, d, e, f], _ => exact ⟨a, b, c, d, e, f, rfl⟩

theorem tok_cells {n : Nat} {cs : List Value} {x : DataW H × List MemPlace} (h : DataW.trod enc Yba.prog w base spare held n 23 cs = some x) : ∃ t : Tok, cs = c6 t := by
  obtain ⟨xs, m, _, _, hl, hlen, hf⟩ := DataW.trod_struct Yba.underlying23 h
  obtain ⟨v0, v1, v2, v3, v4, v5, rfl⟩ := list6 cs (by rw [hl, cells23])
  obtain ⟨y0, y1, y2, y3, y4, y5, rfl⟩ := list6 xs (by simpa using hlen)
  have e0 : DataW.trod enc Yba.prog w base spare held m 5 (([v0, v1, v2, v3, v4, v5].drop 0).take (Yba.prog.cellsOf 5)) = some y0 := hf 0 _ rfl
  rw [cells5] at e0
  have e1 : DataW.trod enc Yba.prog w base spare held m 9 (([v0, v1, v2, v3, v4, v5].drop 1).take (Yba.prog.cellsOf 9)) = some y1 := hf 1 _ rfl
  rw [cells9'] at e1
  have e2 : DataW.trod enc Yba.prog w base spare held m 3 (([v0, v1, v2, v3, v4, v5].drop 2).take (Yba.prog.cellsOf 3)) = some y2 := hf 2 _ rfl
  rw [cells3] at e2
  have e3 : DataW.trod enc Yba.prog w base spare held m 3 (([v0, v1, v2, v3, v4, v5].drop 3).take (Yba.prog.cellsOf 3)) = some y3 := hf 3 _ rfl
  rw [cells3] at e3
  have e4 : DataW.trod enc Yba.prog w base spare held m 3 (([v0, v1, v2, v3, v4, v5].drop 4).take (Yba.prog.cellsOf 3)) = some y4 := hf 4 _ rfl
  rw [cells3] at e4
  have e5 : DataW.trod enc Yba.prog w base spare held m 3 (([v0, v1, v2, v3, v4, v5].drop 5).take (Yba.prog.cellsOf 3)) = some y5 := hf 5 _ rfl
  rw [cells3] at e5
  obtain ⟨k, q0, _⟩ := DataW.trod_int Yba.underlying5 e0
  obtain ⟨s, q1, _⟩ := DataW.trod_string Yba.underlying9 e1
  obtain ⟨a, q2, _⟩ := DataW.trod_int Yba.underlying3 e2
  obtain ⟨b, q3, _⟩ := DataW.trod_int Yba.underlying3 e3
  obtain ⟨c, q4, _⟩ := DataW.trod_int Yba.underlying3 e4
  obtain ⟨d, q5, _⟩ := DataW.trod_int Yba.underlying3 e5
  obtain rfl : v0 = _ := (List.cons.inj q0).1
  obtain rfl : v1 = _ := (List.cons.inj q1).1
  obtain rfl : v2 = _ := (List.cons.inj q2).1
  obtain rfl : v3 = _ := (List.cons.inj q3).1
  obtain rfl : v4 = _ := (List.cons.inj q4).1
  obtain rfl : v5 = _ := (List.cons.inj q5).1
  exact ⟨⟨k, s, a, b, c, d⟩, rfl⟩

theorem open_tok {v : Value} {d : DataW H} {p : List MemPlace} {r : Reach} {b0 : Nat} (hv : Value.okWide Yba.prog w r b0 23 v) (h : DataW.Trod enc Yba.prog w base spare held 23 v d p) : ∃ t : Tok, v = .agg (c6 t).toArray := by
  obtain ⟨cs, rfl, _⟩ := okWide_struct Yba.underlying23 hv
  obtain ⟨fuel, hf⟩ := h
  obtain ⟨t, ht⟩ := tok_cells (by simpa [Value.cells] using hf)
  exact ⟨t, by rw [← ht]⟩

theorem open_toks {a : Option Addr} {len cap : Nat} {d : DataW H} {p : List MemPlace} (h : DataW.Trod enc Yba.prog w base (fun _ => true) held 24 (.slice a len cap) d p) :
    ∃ ts, TokRow w.heap.size w a len ts ∧ (a = none → cap = 0) ∧ ((a = none ∧ len = 0) ∨ ∃ es sp, d = .slice es sp ∧ es.length = len) := by
  obtain ⟨fuel, hf⟩ := h
  rcases Go.Deep.open_slice Yba.underlying24 hf with ⟨hcs, _⟩ | ⟨x, l, c, m, n, D, Pl, hcs, _, hl, hm, hmm, hx, hel⟩
  · simp [Value.cells] at hcs
    obtain ⟨rfl, rfl, rfl⟩ := hcs
    exact ⟨[], ⟨rfl, fun _ => rfl, fun h => absurd h (Nat.lt_irrefl _)⟩, fun _ => rfl, .inl ⟨rfl, rfl⟩⟩
  · simp [Value.cells] at hcs
    obtain ⟨rfl, rfl, rfl⟩ := hcs
    simp at hmm
    subst hmm
    have key : ∀ i, i < len → ∃ t : Tok, ∀ j v, (c6 t)[j]? = some v → w.cell? ((x.add (i * 6)).add j) = some v := by
      intro i hi
      obtain ⟨cs', h1, h2⟩ := hel i (by omega)
      rw [cells23] at h1
      obtain ⟨t, rfl⟩ := tok_cells h2
      refine ⟨t, fun j v hv => ?_⟩
      simp only [World.cells?] at h1
      split at h1
      · have hj : j < 6 := by have := (List.getElem?_eq_some_iff.1 hv).1; rwa [len6] at this
        have := mapM_some_get h1 j j (by simp [hj])
        rw [this, hv]
      · cases h1
    have inh : Inhabited Tok := ⟨⟨0, ByteArray.empty, 0, 0, 0, 0⟩⟩
    obtain ⟨T, hT⟩ := Go.Deep.choose_lt (p := fun i (t : Tok) => ∀ j v, (c6 t)[j]? = some v → w.cell? ((x.add (i * 6)).add j) = some v) key
    refine ⟨(List.range len).map T, ⟨by simp, (fun h => by cases h), fun hpos => ?_⟩, (fun h => by cases h), .inr ⟨_, _, (Prod.mk.inj hx).1, by simp⟩⟩
    obtain ⟨b, off, spot⟩ := x
    have c0 := hT 0 hpos 0 _ rfl
    have hspot : spot = none := by simpa [Addr.add] using World.cell?_spot c0
    subst hspot
    refine ⟨b, off, rfl, ?_, ?_⟩
    · have := World.block_lt_of_cell? w _ c0
      simpa [Addr.add] using this
    · intro i u hu j v hv
      have hi : i < len := by
        have := (List.getElem?_eq_some_iff.1 hu).1
        simpa using this
      have hu' : T i = u := by simpa [hi] using hu
      have := hT i hi j v (by rw [hu']; exact hv)
      rw [Go.Deep.add_add, Go.WideShapes.add_plain] at this
      rw [← this, Nat.add_assoc]
end Go.Proofs.Ybulkeatg
