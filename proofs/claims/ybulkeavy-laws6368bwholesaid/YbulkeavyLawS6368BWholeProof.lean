/-
  'Rows.LawS6368BWholeSaid' ('scan.LawS6368BWhole'): the statement, out of the walk: the guide's frame.
-/
import Derived.Test.YbulkeavyRows
import Derived.Test.YbulkeavyLawB
import Derived.ProofKit
import Derived.OpenShut
import Derived.ShutString
import Derived.ChangeOld
import Derived.Below
namespace Go.Proofs.Ybulkeavy.lawS6368BWhole
open Go.ChangeShapes Go.WideShapes Go.ChangeAt Go.RowKit
open Go.ChangeMaps (open_string shut_string)
set_option linter.unusedVariables false

theorem own : ownKnob Yba.prog.godebug = none := by kernel_rfl
theorem laidOut : laidOutB Yba.prog = true := by kernel_rfl
theorem cells38 : Yba.prog.cellsOf 38 = 9 := by kernel_rfl
theorem cells21 : Yba.prog.cellsOf 21 = 1 := by kernel_rfl
theorem cells9 : Yba.prog.cellsOf 9 = 1 := by kernel_rfl
theorem cells3 : Yba.prog.cellsOf 3 = 1 := by kernel_rfl
theorem cells4 : Yba.prog.cellsOf 4 = 1 := by kernel_rfl

theorem list9 {α : Type} (l : List α) (h : l.length = 9) : ∃ a b c d e f g i j, l = [a, b, c, d, e, f, g, i, j] := by
  match l, h with
  | [a, b, c, d, e, f, g, i, j], _ => exact ⟨a, b, c, d, e, f, g, i, j, rfl⟩

theorem open_base {H : Type} {enc : TypeId × Value → H} {w : World} {base : Nat} {spare : Nat → Bool} {held : Bool} {v : Value} {d : DataW H} {p : List MemPlace} {r : Reach} {b0 : Nat} (hv : Value.okWide Yba.prog w r b0 38 v) (h : DataW.Trod enc Yba.prog w base spare held 38 v d p) :
    ∃ (date : Int) (comp : ByteArray) (kind : Int) (sym test cl : ByteArray) (op na : Bool) (ed : ByteArray), v = .agg #[.int .i32 date, .string comp, .int .i64 kind, .string sym, .string test, .string cl, .bool op, .bool na, .string ed] := by
  obtain ⟨cs, rfl, _⟩ := okWide_struct Yba.underlying38 hv
  obtain ⟨fuel, hf⟩ := h
  obtain ⟨xs, m, _, _, hl, hlen, hg⟩ := DataW.trod_struct Yba.underlying38 (by simpa [Value.cells] using hf)
  obtain ⟨v0, v1, v2, v3, v4, v5, v6, v7, v8, hcs⟩ := list9 cs.toList (by rw [hl, cells38])
  rw [hcs] at hg
  obtain ⟨y0, y1, y2, y3, y4, y5, y6, y7, y8, rfl⟩ := list9 xs (by simpa using hlen)
  have e0 : DataW.trod enc Yba.prog w base spare held m 21 (([v0, v1, v2, v3, v4, v5, v6, v7, v8].drop 0).take (Yba.prog.cellsOf 21)) = some y0 := hg 0 _ rfl
  have e1 : DataW.trod enc Yba.prog w base spare held m 9 (([v0, v1, v2, v3, v4, v5, v6, v7, v8].drop 1).take (Yba.prog.cellsOf 9)) = some y1 := hg 1 _ rfl
  have e2 : DataW.trod enc Yba.prog w base spare held m 3 (([v0, v1, v2, v3, v4, v5, v6, v7, v8].drop 2).take (Yba.prog.cellsOf 3)) = some y2 := hg 2 _ rfl
  have e3 : DataW.trod enc Yba.prog w base spare held m 9 (([v0, v1, v2, v3, v4, v5, v6, v7, v8].drop 3).take (Yba.prog.cellsOf 9)) = some y3 := hg 3 _ rfl
  have e4 : DataW.trod enc Yba.prog w base spare held m 9 (([v0, v1, v2, v3, v4, v5, v6, v7, v8].drop 4).take (Yba.prog.cellsOf 9)) = some y4 := hg 4 _ rfl
  have e5 : DataW.trod enc Yba.prog w base spare held m 9 (([v0, v1, v2, v3, v4, v5, v6, v7, v8].drop 5).take (Yba.prog.cellsOf 9)) = some y5 := hg 5 _ rfl
  have e6 : DataW.trod enc Yba.prog w base spare held m 4 (([v0, v1, v2, v3, v4, v5, v6, v7, v8].drop 6).take (Yba.prog.cellsOf 4)) = some y6 := hg 6 _ rfl
  have e7 : DataW.trod enc Yba.prog w base spare held m 4 (([v0, v1, v2, v3, v4, v5, v6, v7, v8].drop 7).take (Yba.prog.cellsOf 4)) = some y7 := hg 7 _ rfl
  have e8 : DataW.trod enc Yba.prog w base spare held m 9 (([v0, v1, v2, v3, v4, v5, v6, v7, v8].drop 8).take (Yba.prog.cellsOf 9)) = some y8 := hg 8 _ rfl
  rw [cells21] at e0
  rw [cells9] at e1 e3 e4 e5 e8
  rw [cells3] at e2
  rw [cells4] at e6 e7
  obtain ⟨date, q0, _⟩ := DataW.trod_int Yba.underlying21 e0
  obtain ⟨comp, q1, _⟩ := DataW.trod_string Yba.underlying9 e1
  obtain ⟨kind, q2, _⟩ := DataW.trod_int Yba.underlying3 e2
  obtain ⟨sym, q3, _⟩ := DataW.trod_string Yba.underlying9 e3
  obtain ⟨test, q4, _⟩ := DataW.trod_string Yba.underlying9 e4
  obtain ⟨cl, q5, _⟩ := DataW.trod_string Yba.underlying9 e5
  obtain ⟨op, q6, _⟩ := DataW.trod_bool Yba.underlying4 e6
  obtain ⟨na, q7, _⟩ := DataW.trod_bool Yba.underlying4 e7
  obtain ⟨ed, q8, _⟩ := DataW.trod_string Yba.underlying9 e8
  obtain rfl : v0 = _ := (List.cons.inj q0).1
  obtain rfl : v1 = _ := (List.cons.inj q1).1
  obtain rfl : v2 = _ := (List.cons.inj q2).1
  obtain rfl : v3 = _ := (List.cons.inj q3).1
  obtain rfl : v4 = _ := (List.cons.inj q4).1
  obtain rfl : v5 = _ := (List.cons.inj q5).1
  obtain rfl : v6 = _ := (List.cons.inj q6).1
  obtain rfl : v7 = _ := (List.cons.inj q7).1
  obtain rfl : v8 = _ := (List.cons.inj q8).1
  exact ⟨date, comp, kind, sym, test, cl, op, na, ed, by rw [← Array.toArray_toList (xs := cs), hcs]⟩

theorem open_figs {H : Type} {enc : TypeId × Value → H} {w : World} {base : Nat} {held : Bool} {a : Option Addr} {len cap : Nat} {d : DataW H} {p : List MemPlace} (h : DataW.Trod enc Yba.prog w base (fun _ => true) held 39 (.slice a len cap) d p) :
    ∃ zs, IntRow w.heap.size w a len zs ∧ len ≤ maxLen := by
  obtain ⟨fuel, hf⟩ := h
  rcases open_ints Yba.underlying39 Yba.underlying2 (by kernel_rfl) hf with ⟨hcs, _⟩ | ⟨x, l, c, zs, hcs, _, hl, hm, hz, _, hcell, hwz⟩
  · simp [Value.cells] at hcs
    obtain ⟨rfl, rfl, rfl⟩ := hcs
    exact ⟨[], ⟨Nat.zero_le _, fun h => absurd h (Nat.lt_irrefl _)⟩, Nat.zero_le _⟩
  · simp [Value.cells] at hcs
    obtain ⟨rfl, rfl, rfl⟩ := hcs
    have hz' : zs.length = cap := by simpa using hz
    refine ⟨zs, ⟨by omega, fun hp => ?_⟩, Nat.le_trans hl hm⟩
    obtain ⟨b, off, rfl, hc⟩ := ints_at hcell (by omega)
    exact ⟨b, off, rfl, World.block_lt_of_cell? w _ (hc 0 (by omega)), fun i hi => hc i (by omega)⟩

set_option maxRecDepth 100000 in
theorem lifted (os : Os) (started : os.Started) (H : Type) (enc : TypeId × Value → H) :
    ReturnsInHanded {} Yba.checked os 4 .any (Rows.lawS6368BWholeSpec.pre6 enc Yba.prog Yba.f4 Rows.lawS6368BWholeRow.domain false) (Rows.lawS6368BWholeSpec.post enc Yba.prog Yba.f4 false true false false) := by
  refine returnsInHanded_of_change (C := Yba.checked) own started (by kernel_rfl) Yba.func4
    (ChangeSpec.witness6 (enc := enc) (C := Yba.checked) false ⟨#[], #[.agg #[.int .i32 0, .string ByteArray.empty, .int .i64 0, .string ByteArray.empty, .string ByteArray.empty, .string ByteArray.empty, .bool false, .bool false, .string ByteArray.empty], .slice none 0 0, .string ByteArray.empty, .int .i64 0, .int .i32 0, .bool false, .bool false], []⟩ 8 (by kernel_rfl) (by kernel_rfl) (by kernel_rfl) (by kernel_rfl)) ?_
  intro W base args ds gs before hval0 hW hcnd _
  have hval : ∀ (j : Nat) t v, Yba.f4.params[j]? = some t → args[j]? = some v → Value.okWide Yba.prog W .any base t v := hval0
  have hW' := hW
  obtain ⟨p, q, hA0, hV, rfl, hfz, hnd⟩ := hW
  have hA : DataW.TrodAll enc Yba.prog W 0 (fun _ => true) true Yba.f4.params.toList args.toList ds p := hA0
  rw [Yba.params4] at hA hval
  obtain ⟨v0, vs0, d0, ds0, p0, q0, hargs, rfl, rfl, h0, r0⟩ := trodAll_cons hA
  obtain ⟨v1, vs1, d1, ds1, p1, q1, rfl, rfl, rfl, h1, r1⟩ := trodAll_cons r0
  obtain ⟨v2, vs2, d2, ds2, p2, q2, rfl, rfl, rfl, h2, r2⟩ := trodAll_cons r1
  obtain ⟨v3, vs3, d3, ds3, p3, q3, rfl, rfl, rfl, h3, r3⟩ := trodAll_cons r2
  obtain ⟨v4, vs4, d4, ds4, p4, q4, rfl, rfl, rfl, h4, r4⟩ := trodAll_cons r3
  obtain ⟨v5, vs5, d5, ds5, p5, q5, rfl, rfl, rfl, h5, r5⟩ := trodAll_cons r4
  obtain ⟨v6, vs6, d6, ds6, p6, q6, rfl, rfl, rfl, h6, r6⟩ := trodAll_cons r5
  obtain ⟨rfl, rfl, rfl⟩ := trodAll_nil r6
  obtain rfl : args = #[v0, v1, v2, v3, v4, v5, v6] := by cases args; simp_all
  obtain ⟨rfl, rfl⟩ := trodVars_none hV
  have k0 := h0
  have lt0 : ∀ x ∈ p0, x.block < W.heap.size := by obtain ⟨m, hm⟩ := k0; exact DataW.trod_lt m _ _ _ hm
  obtain ⟨date, comp, kind, sym, test, cl, op, na, ed, rfl⟩ := open_base (hval 0 38 v0 rfl rfl) h0
  obtain ⟨a1, len1, cap1, rfl⟩ := okWide_slice Yba.underlying39 (hval 1 39 v1 rfl rfl)
  have k1 := h1
  have lt1 : ∀ x ∈ p1, x.block < W.heap.size := by obtain ⟨m, hm⟩ := k1; exact DataW.trod_lt m _ _ _ hm
  obtain ⟨zs, t1, z1⟩ := open_figs h1
  obtain ⟨trig, rfl, rfl, rfl, w2⟩ := open_string Yba.underlying9 (hval 2 9 v2 rfl rfl) h2
  obtain ⟨days, rfl, rfl, rfl, w3⟩ := open_int Yba.underlying3 (hval 3 3 v3 rfl rfl) h3
  obtain ⟨since, rfl, rfl, rfl, w4⟩ := open_int Yba.underlying21 (hval 4 21 v4 rfl rfl) h4
  obtain ⟨o5, rfl, rfl, rfl⟩ := open_bool Yba.underlying4 (hval 5 4 v5 rfl rfl) h5
  obtain ⟨b6, rfl, rfl, rfl⟩ := open_bool Yba.underlying4 (hval 6 4 v6 rfl rfl) h6
  have hs := bounds_i32 w4
  clear hA0 hval0
  refine (lawB date kind days since comp sym test cl ed trig op na o5 b6 a1 len1 cap1 zs W t1 z1 (by omega) (by omega)).mono fun e W' ⟨he, bel⟩ => ?_
  subst he
  exact ⟨_, rfl, _, _, _, [], _, [], hW', trodAll_mk1 (shut_bool Yba.underlying4 _), (trodAll_cons_mk (Below.trod laidOut (by kernel_rfl) (of_decide_eq_true (by kernel_rfl)) k0 bel lt0) (trodAll_cons_mk (Below.trod laidOut (by kernel_rfl) (of_decide_eq_true (by kernel_rfl)) k1 bel lt1) (trodAll_cons_mk (shut_string Yba.underlying9 w2) (trodAll_cons_mk (shut_int Yba.underlying3 w3) (trodAll_cons_mk (shut_int Yba.underlying21 w4) (trodAll_cons_mk (shut_bool Yba.underlying4 _) (trodAll_cons_mk (shut_bool Yba.underlying4 _) trodAll_mk0))))))), rfl, bel.frame _, fun h => by cases h⟩

theorem over : Rows.lawS6368BWholeRow.holds Yba.pinned (OpenSpec.ofChange Rows.lawS6368BWholeSpec) :=
  OpenClaim.holds_of_wide 4 Yba.f4 rfl rfl rfl rfl rfl rfl rfl ⟨rfl, rfl, rfl, rfl, rfl⟩ rfl rfl rfl rfl rfl (by kernel_rfl) Yba.func4 (by kernel_rfl)
    (of_decide_eq_true (by kernel_rfl)) (by unfold Func.isWrapper; first | (rw [if_pos (by decide +kernel)]; kernel_rfl) | (rw [if_neg (by decide +kernel)]; exact ⟨rfl, rfl⟩))
    (fun os started H enc _ => lifted os started H enc)

/-- THE STATEMENT -/
theorem proved : Rows.LawS6368BWholeSaid := over
#print axioms proved
end Go.Proofs.Ybulkeavy.lawS6368BWhole
