/-
  An array, or a struct of arrays, of integers is equal to itself.
-/
import Derived.Test.YbulkeassAll
import Derived.DeepKeys
import Derived.Laws.StructEq
namespace Go.Proofs.Ybulkeass
variable {P : Program}

theorem run_items_same (w : World) (d : Nat) (e : TypeId) (k' : IntKind) (he : P.underlying e = some (.int k')) (xs : Array Value) :
    ∀ is : List Nat, (∀ i ∈ is, ∃ k n, xs[i]? = some (.int k n)) → (Op.eqItems (d + 1) e 1 xs xs is).run P w = .ok true w
  | [], _ => rfl
  | i :: is, h => by
    obtain ⟨k, n, hn⟩ := h i (by simp)
    have h1 : (isAgg e).run P w = .ok false w := by
      unfold isAgg
      rw [Sem.run_bind, run_underlying he w]
      rfl
    have hp : (part e xs (i * 1)).run P w = .ok (.int k n) w := by
      simp [part, h1, hn]
    have hq : (Op.equalIn (d + 1) e (.int k n) (.int k n)).run P w = .ok true w := by
      rw [run_equalIn_int w d e k k' n n he]; simp
    simp only [Op.eqItems, Sem.run_bind, hp, hq, Result.andThen_ok]
    simpa using run_items_same w d e k' he xs is (fun j hj => h j (by simp [hj]))

theorem run_array_same (w : World) (d : Nat) (t e : TypeId) (n : Nat) (k' : IntKind) (hu : P.underlying t = some (.array n e)) (he : P.underlying e = some (.int k')) (hs : (P.info? e).map (·.size) = some 1) (hce : P.cellsOf e = 1) (xs : Array Value) (h : ∀ i, i < n → ∃ k m, xs[i]? = some (.int k m)) :
    (Op.equalIn (d + 2) t (.agg xs) (.agg xs)).run P w = .ok true w := by
  obtain ⟨i, hi, _⟩ := Option.map_eq_some_iff.1 hs
  rw [show d + 2 = (d + 1) + 1 from rfl, run_equalIn_array w (d + 1) xs xs hu hi]
  rw [hce]
  exact run_items_same w d e k' he xs _ (fun i hi => h i (by simpa using hi))

/-- A type that is an array of integers, of so many cells. -/
def IntArr (P : Program) (t : TypeId) (n : Nat) : Prop := ∃ e k', P.underlying t = some (.array n e) ∧ P.underlying e = some (.int k') ∧ (P.info? e).map (·.size) = some 1 ∧ P.cellsOf e = 1 ∧ (P.info? t).map (·.size) = some n

theorem run_fields_same (w : World) (d N : Nat) (xs : Array Value) (h : ∀ i, i < N → ∃ k m, xs[i]? = some (.int k m)) :
    ∀ fs : List Field, (∀ f ∈ fs, ∃ n, IntArr P f.type n ∧ f.offset + n ≤ N) → (Op.eqFields (d + 2) xs xs fs).run P w = .ok true w
  | [], _ => rfl
  | f :: fs, hf => by
    obtain ⟨n, ⟨e, k', hu, he, hs, hce, hsz⟩, hle⟩ := hf f (by simp)
    have ih := run_fields_same w d N xs h fs (fun g hg => hf g (by simp [hg]))
    have h1 : (isAgg f.type).run P w = .ok true w := by
      unfold isAgg
      rw [Sem.run_bind, run_underlying hu w]
      rfl
    have hz : (sizeOf f.type).run P w = .ok n w := by
      cases hq : P.info? f.type with
      | none => simp [hq] at hsz
      | some i =>
        have hs : i.size = n := by simpa [hq] using hsz
        simp [sizeOf, typeInfo, hq, hs]
    have hp : (part f.type xs f.offset).run P w = .ok (.agg (xs.extract f.offset (f.offset + n))) w := by
      simp [part, h1, hz]
    have hq := run_array_same (P := P) w d f.type e n k' hu he hs hce (xs.extract f.offset (f.offset + n)) (fun i hi => by
      obtain ⟨k, m, hm⟩ := h (f.offset + i) (by omega)
      refine ⟨k, m, ?_⟩
      obtain ⟨hlt, heq⟩ := Array.getElem?_eq_some_iff.1 hm
      rw [Array.getElem?_extract_of_lt (by omega)]
      exact congrArg some heq)
    by_cases hn : f.name = "_"
    · simp [Op.eqFields, hn, ih]
    · simp [Op.eqFields, hn, hp, hq, ih]

theorem run_struct_same (w : World) (d t N : Nat) (xs : Array Value) (ht : P.underlying t = some (.struct (P.fieldsOf t))) (hp : P.stoodInHeld t = false) (hf : ∀ f ∈ (P.fieldsOf t).toList, ∃ n, IntArr P f.type n ∧ f.offset + n ≤ N) (h : ∀ i, i < N → ∃ k m, xs[i]? = some (.int k m)) :
    (Op.equalIn (d + 3) t (.agg xs) (.agg xs)).run P w = .ok true w := by
  rw [show d + 3 = (d + 2) + 1 from rfl, run_equalIn_struct w (d + 2) t xs xs ht hp]
  exact run_fields_same w d N xs h _ hf

theorem neq_of_equal (w : World) (t : TypeId) (x y : Array Value) (h : (Op.equalIn 10000 t (.agg x) (.agg y)).run P w = .ok true w) : (binOp .neq t (.agg x) (.agg y)).run P w = .ok (.bool false) w := by
  simp only [binOp]
  simp [Op.equal, Op.maxDepth, h]

theorem ia36 : IntArr Yba.prog 36 288 := ⟨35, .u16, Yba.underlying36, Yba.underlying35, by kernel_rfl, by kernel_rfl, by kernel_rfl⟩
theorem ia37 : IntArr Yba.prog 37 288 := ⟨5, .u8, Yba.underlying37, Yba.underlying5, by kernel_rfl, by kernel_rfl, by kernel_rfl⟩
theorem ia32 : IntArr Yba.prog 32 286 := ⟨23, .u32, Yba.underlying32, Yba.underlying23, by kernel_rfl, by kernel_rfl, by kernel_rfl⟩
theorem ia33 : IntArr Yba.prog 33 30 := ⟨23, .u32, Yba.underlying33, Yba.underlying23, by kernel_rfl, by kernel_rfl, by kernel_rfl⟩
theorem ia31 : IntArr Yba.prog 31 16384 := ⟨23, .u32, Yba.underlying31, Yba.underlying23, by kernel_rfl, by kernel_rfl, by kernel_rfl⟩
theorem ia40 : IntArr Yba.prog 40 286 := ⟨25, .u64, Yba.underlying40, Yba.underlying25, by kernel_rfl, by kernel_rfl, by kernel_rfl⟩
theorem ia41 : IntArr Yba.prog 41 572 := ⟨35, .u16, Yba.underlying41, Yba.underlying35, by kernel_rfl, by kernel_rfl, by kernel_rfl⟩

theorem seg_int {c : Nat → Value} {o n : Nat} (h : ∀ i, i < n → ∃ k m, c (o + i) = .int k m) : ∀ i, i < n → ∃ k m, (seg c o n).toArray[i]? = some (.int k m) := fun i hi => by
  obtain ⟨k, m, hm⟩ := h i hi
  exact ⟨k, m, by simpa [hm] using seg_get c o n i hi⟩

theorem neq_arr (t n : Nat) (ht : IntArr Yba.prog t n) (c : Nat → Value) (o : Nat) (h : ∀ i, i < n → ∃ k m, c (o + i) = .int k m) (w : World) : (binOp .neq t (.agg (seg c o n).toArray) (.agg (seg c o n).toArray)).run Yba.prog w = .ok (.bool false) w := by
  obtain ⟨e, k', hu, he, hs, hce, _⟩ := ht
  exact neq_of_equal w t _ _ (run_array_same w 9998 t e n k' hu he hs hce _ (seg_int h))
theorem neq39 (c : Nat → Value) (o : Nat) (h : ∀ i, i < 576 → ∃ k m, c (o + i) = .int k m) (w : World) : (binOp .neq 39 (.agg (seg c o 576).toArray) (.agg (seg c o 576).toArray)).run Yba.prog w = .ok (.bool false) w := by
  refine neq_of_equal w 39 _ _ (run_struct_same w 9997 39 576 _ (by kernel_rfl) (by kernel_rfl) ?_ (seg_int h))
  have e : (Yba.prog.fieldsOf 39).toList.map (fun f => (f.type, f.offset)) = [(36, 0), (37, 288)] := by kernel_rfl
  intro f hf
  have : (f.type, f.offset) ∈ [(36, 0), (37, 288)] := by rw [← e]; exact List.mem_map_of_mem hf
  simp at this
  rcases this with ⟨h1, h2⟩ | ⟨h1, h2⟩
  · exact ⟨288, by rw [h1]; exact ia36, by omega⟩
  · exact ⟨288, by rw [h1]; exact ia37, by omega⟩
theorem neq43 (c : Nat → Value) (o : Nat) (h : ∀ i, i < 1716 → ∃ k m, c (o + i) = .int k m) (w : World) : (binOp .neq 43 (.agg (seg c o 1716).toArray) (.agg (seg c o 1716).toArray)).run Yba.prog w = .ok (.bool false) w := by
  refine neq_of_equal w 43 _ _ (run_struct_same w 9997 43 1716 _ (by kernel_rfl) (by kernel_rfl) ?_ (seg_int h))
  have e : (Yba.prog.fieldsOf 43).toList.map (fun f => (f.type, f.offset)) = [(32, 0), (40, 286), (41, 572), (41, 1144)] := by kernel_rfl
  intro f hf
  have : (f.type, f.offset) ∈ [(32, 0), (40, 286), (41, 572), (41, 1144)] := by rw [← e]; exact List.mem_map_of_mem hf
  simp at this
  rcases this with ⟨h1, h2⟩ | ⟨h1, h2⟩ | ⟨h1, h2⟩ | ⟨h1, h2⟩
  · exact ⟨286, by rw [h1]; exact ia32, by omega⟩
  · exact ⟨286, by rw [h1]; exact ia40, by omega⟩
  · exact ⟨572, by rw [h1]; exact ia41, by omega⟩
  · exact ⟨572, by rw [h1]; exact ia41, by omega⟩
end Go.Proofs.Ybulkeass
