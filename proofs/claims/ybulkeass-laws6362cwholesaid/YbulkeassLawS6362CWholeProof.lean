/-
  'Rows.LawS6362CWholeSaid' ('deflate.LawS6362CWhole'): the statement, out of the walk: the guide's frame, with the form's own reach (SizedLaws).
-/
import Derived.Test.YbulkeassRows
import Derived.Test.YbulkeassLaw
import Derived.ProofKit
import Derived.OpenShut
import Derived.SizedLaws
import Derived.ChangeOld
import Derived.Below
namespace Go.Proofs.Ybulkeass.lawS6362CWhole
open Go.ChangeShapes Go.WideShapes Go.ChangeAt Go.RowKit
set_option linter.unusedVariables false

theorem own : ownKnob Yba.prog.godebug = none := by kernel_rfl
theorem laidOut : laidOutB Yba.prog = true := by kernel_rfl
theorem bytes5 : Yba.prog.bytesOf 5 = 1 := by kernel_rfl
theorem bytes23 : Yba.prog.bytesOf 23 = 4 := by kernel_rfl

theorem len_bound {H : Type} {a : Option Addr} {len : Nat} {d : DataW H} {ts : List TypeId} {ds : List (DataW H)} {j : Nat} {t e : TypeId} (hu : Yba.prog.underlying t = some (.slice e)) (hb : 1 ≤ Yba.prog.bytesOf e) (hsz : (DataW.weightsEach Yba.prog ts ds).all (· ≤ reachBytes) = true)
    (ht : ts[j]? = some t) (hd : ds[j]? = some d) (h : (a = none ∧ len = 0) ∨ ∃ es sp, d = .slice es sp ∧ es.length = len) : len ≤ 140737488355328 := by
  rcases h with ⟨_, rfl⟩ | ⟨es, sp, rfl, rfl⟩
  · omega
  · have := sized_slice hsz ht hd hu
    have h2 := Nat.mul_le_mul_left (es.length + sp.length) hb
    simp only [reachBytes] at this
    omega

theorem open_row {H : Type} {enc : TypeId × Value → H} {w : World} {base : Nat} {held : Bool} {a : Option Addr} {len cap : Nat} {d : DataW H} {p : List MemPlace} {t e : TypeId} {k : IntKind} (hu : Yba.prog.underlying t = some (.slice e)) (he : Yba.prog.underlying e = some (.int k)) (hc : Yba.prog.cellsOf e = 1)
    (h : DataW.Trod enc Yba.prog w base (fun _ => true) held t (.slice a len cap) d p) :
    ∃ zs, Row k w a len zs ∧ ((a = none ∧ len = 0) ∨ ∃ es sp, d = .slice es sp ∧ es.length = len) := by
  obtain ⟨fuel, hf⟩ := h
  rcases open_ints hu he hc hf with ⟨hcs, _⟩ | ⟨x, l, c, zs, hcs, _, hl, hm, hz, hd, hcell, hwz⟩
  · simp [Value.cells] at hcs
    obtain ⟨rfl, rfl, rfl⟩ := hcs
    exact ⟨[], ⟨fun _ => rfl, fun x hx => by cases hx⟩, .inl ⟨rfl, rfl⟩⟩
  · simp [Value.cells] at hcs
    obtain ⟨rfl, rfl, rfl⟩ := hcs
    have hz' : zs.length = cap := by simpa using hz
    refine ⟨zs, ⟨(fun h => by cases h), fun y hy hp => ?_⟩, .inr ⟨_, _, (Prod.mk.inj hd).1, by simp [lits]; omega⟩⟩
    cases hy
    obtain ⟨b, off, rfl, hc⟩ := ints_at hcell (by omega)
    exact ⟨b, off, rfl, World.block_lt_of_cell? w _ (hc 0 (by omega)), fun i hi => hc i (by omega)⟩

theorem walk (a0 : Bool) (a1 : Option Addr) (len1 cap1 : Nat) (z1 : List Int) (a2 : Int) (a3 : Int) (a4 : Bool) (a5 : Int) (a6 : Bool) (a7 : Option Addr) (len7 cap7 : Nat) (z7 : List Int) (a8 : Option Addr) (len8 cap8 : Nat) (z8 : List Int) (a9 : Option Addr) (len9 cap9 : Nat) (z9 : List Int) (a10 : Int) (a11 : Int) (w : World)
    (h1 : len1 ≤ 140737488355328) (h7 : len7 ≤ 140737488355328) (h8 : len8 ≤ 140737488355328) (h9 : len9 ≤ 140737488355328) (w1 : Row .u8 w a1 len1 z1) (w5 : 0 ≤ a5 ∧ a5 ≤ 4294967295) (w7 : Row .u32 w a7 len7 z7) (w8 : Row .u32 w a8 len8 z8) (w9 : Row .u8 w a9 len9 z9) (w11 : 0 ≤ a11 ∧ a11 ≤ 255) :
    Calls Yba.prog 3 #[.bool a0, .slice a1 len1 cap1, .int .i64 a2, .int .u32 a3, .bool a4, .int .u32 a5, .bool a6, .slice a7 len7 cap7, .slice a8 len8 cap8, .slice a9 len9 cap9, .int .u64 a10, .int .u8 a11] w fun e w' => e = .returned (.bool true) ∧ Below w.heap.size w w' := by
  by_cases hs : len1 + len7 + len8 + len9 ≤ 1048576
  · exact law_walk a0 a1 len1 cap1 z1 a2 a3 a4 a5 a6 a7 len7 cap7 z7 a8 len8 cap8 z8 a9 len9 cap9 z9 a10 a11 w w1 (by omega) w7 w8 w9 (by omega) hs
  · exact law_long a0 a1 len1 cap1 a2 a3 a4 a5 a6 a7 len7 cap7 a8 len8 cap8 a9 len9 cap9 a10 a11 w h1 h7 h8 h9 (by omega)

set_option maxRecDepth 100000 in
theorem lifted (os : Os) (started : os.Started) (H : Type) (enc : TypeId × Value → H) :
    ReturnsInHanded {} Yba.checked os 3 .any (Rows.lawS6362CWholeSpec.pre6 enc Yba.prog Yba.f3 Rows.lawS6362CWholeRow.domain false) (Rows.lawS6362CWholeSpec.post enc Yba.prog Yba.f3 false true false false) := by
  refine returnsInHanded_of_change_sized (C := Yba.checked) own started (by kernel_rfl) Yba.func3
    (ChangeSpec.witness6 (enc := enc) (C := Yba.checked) false ⟨#[], #[.bool false, .slice none 0 0, .int .i64 0, .int .u32 0, .bool false, .int .u32 0, .bool false, .slice none 0 0, .slice none 0 0, .slice none 0 0, .int .u64 0, .int .u8 0], []⟩ 8 (by kernel_rfl) (by kernel_rfl) (by kernel_rfl) (by kernel_rfl)) ?_
  intro W base args ds gs before hval0 hW hcnd hsz0 _
  have hval : ∀ (j : Nat) t v, Yba.f3.params[j]? = some t → args[j]? = some v → Value.okWide Yba.prog W .any base t v := hval0
  have hsz : (DataW.weightsEach Yba.prog (Yba.f3.params.toList ++ Rows.lawS6362CWholeSpec.plain.varTypes Yba.prog) (ds ++ gs)).all (· ≤ reachBytes) = true := hsz0
  have hW' := hW
  obtain ⟨p, q, hA0, hV, rfl, hfz, hnd⟩ := hW
  have hA : DataW.TrodAll enc Yba.prog W 0 (fun _ => true) true Yba.f3.params.toList args.toList ds p := hA0
  rw [Yba.params3] at hA hval hsz
  obtain ⟨v0, vs0, d0, ds0, p0, q0, hargs, rfl, rfl, h0, r0⟩ := trodAll_cons hA
  obtain ⟨v1, vs1, d1, ds1, p1, q1, rfl, rfl, rfl, h1, r1⟩ := trodAll_cons r0
  obtain ⟨v2, vs2, d2, ds2, p2, q2, rfl, rfl, rfl, h2, r2⟩ := trodAll_cons r1
  obtain ⟨v3, vs3, d3, ds3, p3, q3, rfl, rfl, rfl, h3, r3⟩ := trodAll_cons r2
  obtain ⟨v4, vs4, d4, ds4, p4, q4, rfl, rfl, rfl, h4, r4⟩ := trodAll_cons r3
  obtain ⟨v5, vs5, d5, ds5, p5, q5, rfl, rfl, rfl, h5, r5⟩ := trodAll_cons r4
  obtain ⟨v6, vs6, d6, ds6, p6, q6, rfl, rfl, rfl, h6, r6⟩ := trodAll_cons r5
  obtain ⟨v7, vs7, d7, ds7, p7, q7, rfl, rfl, rfl, h7, r7⟩ := trodAll_cons r6
  obtain ⟨v8, vs8, d8, ds8, p8, q8, rfl, rfl, rfl, h8, r8⟩ := trodAll_cons r7
  obtain ⟨v9, vs9, d9, ds9, p9, q9, rfl, rfl, rfl, h9, r9⟩ := trodAll_cons r8
  obtain ⟨v10, vs10, d10, ds10, p10, q10, rfl, rfl, rfl, h10, r10⟩ := trodAll_cons r9
  obtain ⟨v11, vs11, d11, ds11, p11, q11, rfl, rfl, rfl, h11, r11⟩ := trodAll_cons r10
  obtain ⟨rfl, rfl, rfl⟩ := trodAll_nil r11
  obtain rfl : args = #[v0, v1, v2, v3, v4, v5, v6, v7, v8, v9, v10, v11] := by cases args; simp_all
  obtain ⟨rfl, rfl⟩ := trodVars_none hV
  obtain ⟨a0, rfl, rfl, rfl⟩ := open_bool Yba.underlying4 (hval 0 4 v0 rfl rfl) h0
  obtain ⟨a1, len1, cap1, rfl⟩ := okWide_slice Yba.underlying22 (hval 1 22 v1 rfl rfl)
  have k1 := h1
  have lt1 : ∀ x ∈ p1, x.block < W.heap.size := by obtain ⟨m, hm⟩ := k1; exact DataW.trod_lt m _ _ _ hm
  obtain ⟨z1, w1, y1⟩ := open_row Yba.underlying22 Yba.underlying5 (by kernel_rfl) h1
  obtain ⟨a2, rfl, rfl, rfl, w2⟩ := open_int Yba.underlying3 (hval 2 3 v2 rfl rfl) h2
  obtain ⟨a3, rfl, rfl, rfl, w3⟩ := open_int Yba.underlying23 (hval 3 23 v3 rfl rfl) h3
  obtain ⟨a4, rfl, rfl, rfl⟩ := open_bool Yba.underlying4 (hval 4 4 v4 rfl rfl) h4
  obtain ⟨a5, rfl, rfl, rfl, w5⟩ := open_int Yba.underlying23 (hval 5 23 v5 rfl rfl) h5
  obtain ⟨a6, rfl, rfl, rfl⟩ := open_bool Yba.underlying4 (hval 6 4 v6 rfl rfl) h6
  obtain ⟨a7, len7, cap7, rfl⟩ := okWide_slice Yba.underlying24 (hval 7 24 v7 rfl rfl)
  have k7 := h7
  have lt7 : ∀ x ∈ p7, x.block < W.heap.size := by obtain ⟨m, hm⟩ := k7; exact DataW.trod_lt m _ _ _ hm
  obtain ⟨z7, w7, y7⟩ := open_row Yba.underlying24 Yba.underlying23 (by kernel_rfl) h7
  obtain ⟨a8, len8, cap8, rfl⟩ := okWide_slice Yba.underlying24 (hval 8 24 v8 rfl rfl)
  have k8 := h8
  have lt8 : ∀ x ∈ p8, x.block < W.heap.size := by obtain ⟨m, hm⟩ := k8; exact DataW.trod_lt m _ _ _ hm
  obtain ⟨z8, w8, y8⟩ := open_row Yba.underlying24 Yba.underlying23 (by kernel_rfl) h8
  obtain ⟨a9, len9, cap9, rfl⟩ := okWide_slice Yba.underlying22 (hval 9 22 v9 rfl rfl)
  have k9 := h9
  have lt9 : ∀ x ∈ p9, x.block < W.heap.size := by obtain ⟨m, hm⟩ := k9; exact DataW.trod_lt m _ _ _ hm
  obtain ⟨z9, w9, y9⟩ := open_row Yba.underlying22 Yba.underlying5 (by kernel_rfl) h9
  obtain ⟨a10, rfl, rfl, rfl, w10⟩ := open_int Yba.underlying25 (hval 10 25 v10 rfl rfl) h10
  obtain ⟨a11, rfl, rfl, rfl, w11⟩ := open_int Yba.underlying5 (hval 11 5 v11 rfl rfl) h11
  have b1 : len1 ≤ 140737488355328 := len_bound (j := 1) Yba.underlying22 (by rw [bytes5]; omega) hsz rfl rfl y1
  have b7 : len7 ≤ 140737488355328 := len_bound (j := 7) Yba.underlying24 (by rw [bytes23]; omega) hsz rfl rfl y7
  have b8 : len8 ≤ 140737488355328 := len_bound (j := 8) Yba.underlying24 (by rw [bytes23]; omega) hsz rfl rfl y8
  have b9 : len9 ≤ 140737488355328 := len_bound (j := 9) Yba.underlying22 (by rw [bytes5]; omega) hsz rfl rfl y9
  clear hA0 hval0 hsz0
  refine (walk a0 a1 len1 cap1 z1 a2 a3 a4 a5 a6 a7 len7 cap7 z7 a8 len8 cap8 z8 a9 len9 cap9 z9 a10 a11 W b1 b7 b8 b9 w1 (bounds_u32 w5) w7 w8 w9 (bounds_u8 w11)).mono fun e W' ⟨he, bel⟩ => ?_
  subst he
  exact ⟨_, rfl, _, _, _, [], _, [], hW', trodAll_mk1 (shut_bool Yba.underlying4 _), (trodAll_cons_mk (shut_bool Yba.underlying4 _) (trodAll_cons_mk (Below.trod laidOut (by kernel_rfl) (of_decide_eq_true (by kernel_rfl)) k1 bel lt1) (trodAll_cons_mk (shut_int Yba.underlying3 w2) (trodAll_cons_mk (shut_int Yba.underlying23 w3) (trodAll_cons_mk (shut_bool Yba.underlying4 _) (trodAll_cons_mk (shut_int Yba.underlying23 w5) (trodAll_cons_mk (shut_bool Yba.underlying4 _) (trodAll_cons_mk (Below.trod laidOut (by kernel_rfl) (of_decide_eq_true (by kernel_rfl)) k7 bel lt7) (trodAll_cons_mk (Below.trod laidOut (by kernel_rfl) (of_decide_eq_true (by kernel_rfl)) k8 bel lt8) (trodAll_cons_mk (Below.trod laidOut (by kernel_rfl) (of_decide_eq_true (by kernel_rfl)) k9 bel lt9) (trodAll_cons_mk (shut_int Yba.underlying25 w10) (trodAll_cons_mk (shut_int Yba.underlying5 w11) trodAll_mk0)))))))))))), rfl, bel.frame _, fun h => by cases h⟩

theorem over : Rows.lawS6362CWholeRow.holds Yba.pinned (OpenSpec.ofChange Rows.lawS6362CWholeSpec) :=
  OpenClaim.holds_of_wide 3 Yba.f3 rfl rfl rfl rfl rfl rfl rfl ⟨rfl, rfl, rfl, rfl, rfl⟩ rfl rfl rfl rfl rfl (by kernel_rfl) Yba.func3 (by kernel_rfl)
    (of_decide_eq_true (by kernel_rfl)) (by unfold Func.isWrapper; first | (rw [if_pos (by decide +kernel)]; kernel_rfl) | (rw [if_neg (by decide +kernel)]; exact ⟨rfl, rfl⟩))
    (fun os started H enc _ => lifted os started H enc)

/-- THE STATEMENT -/
theorem proved : Rows.LawS6362CWholeSaid := over
#print axioms proved
end Go.Proofs.Ybulkeass.lawS6362CWhole
