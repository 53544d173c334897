/-
  'Rows.LawS6363CWholeSaid' ('parser.LawS6363CWhole'): the statement, out of the walk: the guide's frame, with the form's own reach (SizedLaws).
-/
import Derived.Test.YbulkeatgRows
import Derived.Test.YbulkeatgOpen
import Derived.SizedLaws
import Derived.ChangeOld
import Derived.Below
namespace Go.Proofs.Ybulkeatg.lawS6363CWhole
open Go.ChangeShapes Go.WideShapes Go.ChangeAt Go.RowKit
set_option linter.unusedVariables false

theorem own : ownKnob Yba.prog.godebug = none := by kernel_rfl
theorem laidOut : laidOutB Yba.prog = true := by kernel_rfl
theorem bytes23 : Yba.prog.bytesOf 23 = 56 := by kernel_rfl

theorem len_bound {H : Type} {a : Option Addr} {len : Nat} {d : DataW H} {ts : List TypeId} {ds : List (DataW H)} {j : Nat} (hsz : (DataW.weightsEach Yba.prog ts ds).all (· ≤ reachBytes) = true)
    (ht : ts[j]? = some 24) (hd : ds[j]? = some d) (h : (a = none ∧ len = 0) ∨ ∃ es sp, d = .slice es sp ∧ es.length = len) : len ≤ 140737488351232 := by
  rcases h with ⟨_, rfl⟩ | ⟨es, sp, rfl, rfl⟩
  · omega
  · have := sized_slice hsz ht hd Yba.underlying24
    rw [bytes23] at this
    simp only [reachBytes] at this
    omega

set_option maxRecDepth 100000 in
theorem lifted (os : Os) (started : os.Started) (H : Type) (enc : TypeId × Value → H) :
    ReturnsInHanded {} Yba.checked os 3 .any (Rows.lawS6363CWholeSpec.pre6 enc Yba.prog Yba.f3 Rows.lawS6363CWholeRow.domain false) (Rows.lawS6363CWholeSpec.post enc Yba.prog Yba.f3 false true false false) := by
  refine returnsInHanded_of_change_sized (C := Yba.checked) own started (by kernel_rfl) Yba.func3
    (ChangeSpec.witness6 (enc := enc) (C := Yba.checked) false ⟨#[], #[.agg #[.int .u8 0, .string ByteArray.empty, .int .i64 0, .int .i64 0, .int .i64 0, .int .i64 0], .slice none 0 0, .slice none 0 0], []⟩ 8 (by kernel_rfl) (by kernel_rfl) (by kernel_rfl) (by kernel_rfl)) ?_
  intro W base args ds gs before hval0 hW hcnd hsz0 _
  have hval : ∀ (j : Nat) t v, Yba.f3.params[j]? = some t → args[j]? = some v → Value.okWide Yba.prog W .any base t v := hval0
  have hsz : (DataW.weightsEach Yba.prog (Yba.f3.params.toList ++ Rows.lawS6363CWholeSpec.plain.varTypes Yba.prog) (ds ++ gs)).all (· ≤ reachBytes) = true := hsz0
  have hW' := hW
  obtain ⟨p, q, hA0, hV, rfl, hfz, hnd⟩ := hW
  have hA : DataW.TrodAll enc Yba.prog W 0 (fun _ => true) true Yba.f3.params.toList args.toList ds p := hA0
  rw [Yba.params3] at hA hval hsz
  obtain ⟨v0, vs0, d0, ds0, p0, q0, hargs, rfl, rfl, h0, r0⟩ := trodAll_cons hA
  obtain ⟨v1, vs1, d1, ds1, p1, q1, rfl, rfl, rfl, h1, r1⟩ := trodAll_cons r0
  obtain ⟨v2, vs2, d2, ds2, p2, q2, rfl, rfl, rfl, h2, r2⟩ := trodAll_cons r1
  obtain ⟨rfl, rfl, rfl⟩ := trodAll_nil r2
  obtain rfl : args = #[v0, v1, v2] := by cases args; simp_all
  obtain ⟨rfl, rfl⟩ := trodVars_none hV
  have k0 := h0
  have lt0 : ∀ x ∈ p0, x.block < W.heap.size := by obtain ⟨m, hm⟩ := k0; exact DataW.trod_lt m _ _ _ hm
  obtain ⟨t, rfl⟩ := open_tok (hval 0 23 v0 rfl rfl) h0
  obtain ⟨a1, len1, cap1, rfl⟩ := okWide_slice Yba.underlying24 (hval 1 24 v1 rfl rfl)
  have k1 := h1
  have lt1 : ∀ x ∈ p1, x.block < W.heap.size := by obtain ⟨m, hm⟩ := k1; exact DataW.trod_lt m _ _ _ hm
  obtain ⟨ts1, t1, c1, z1⟩ := open_toks h1
  obtain ⟨a2, len2, cap2, rfl⟩ := okWide_slice Yba.underlying24 (hval 2 24 v2 rfl rfl)
  have k2 := h2
  have lt2 : ∀ x ∈ p2, x.block < W.heap.size := by obtain ⟨m, hm⟩ := k2; exact DataW.trod_lt m _ _ _ hm
  obtain ⟨ts2, t2, c2, z2⟩ := open_toks h2
  have b1 : len1 ≤ 140737488351232 := len_bound (j := 1) hsz rfl rfl z1
  have b2 : len2 ≤ 140737488351232 := len_bound (j := 2) hsz rfl rfl z2
  clear hA0 hval0 hsz0
  refine (law t a1 a2 len1 cap1 len2 cap2 ts1 ts2 W b1 b2 t1 t2 c1 c2).mono fun e W' ⟨he, bel⟩ => ?_
  subst he
  exact ⟨_, rfl, _, _, _, [], _, [], hW', trodAll_mk1 (shut_bool Yba.underlying4 _), (trodAll_cons_mk (Below.trod laidOut (by kernel_rfl) (of_decide_eq_true (by kernel_rfl)) k0 bel lt0) (trodAll_cons_mk (Below.trod laidOut (by kernel_rfl) (of_decide_eq_true (by kernel_rfl)) k1 bel lt1) (trodAll_cons_mk (Below.trod laidOut (by kernel_rfl) (of_decide_eq_true (by kernel_rfl)) k2 bel lt2) trodAll_mk0))), rfl, bel.frame _, fun h => by cases h⟩

theorem over : Rows.lawS6363CWholeRow.holds Yba.pinned (OpenSpec.ofChange Rows.lawS6363CWholeSpec) :=
  OpenClaim.holds_of_wide 3 Yba.f3 rfl rfl rfl rfl rfl rfl rfl ⟨rfl, rfl, rfl, rfl, rfl⟩ rfl rfl rfl rfl rfl (by kernel_rfl) Yba.func3 (by kernel_rfl)
    (of_decide_eq_true (by kernel_rfl)) (by unfold Func.isWrapper; first | (rw [if_pos (by decide +kernel)]; kernel_rfl) | (rw [if_neg (by decide +kernel)]; exact ⟨rfl, rfl⟩))
    (fun os started H enc _ => lifted os started H enc)

/-- THE STATEMENT -/
theorem proved : Rows.LawS6363CWholeSaid := over
#print axioms proved
end Go.Proofs.Ybulkeatg.lawS6363CWhole
