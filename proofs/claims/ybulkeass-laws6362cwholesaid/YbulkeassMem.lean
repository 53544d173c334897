/-
  Own rows by their content as a function ('World.rowIs', Derived/Deep/OwnRows): whole arrays out of and into them, at operations that are written out; every law hands on a NEW world by what is known of it.
-/
import Derived.WalkKit
import Derived.Below
import Derived.Deep.MidRow
import Derived.Deep.OwnRows
import Derived.Laws.CopyRow
import Derived.Laws.IdiomCopy
namespace Go.Proofs.Ybulkeass
open Go.RowKit
variable {P : Program}

/-- The n cells from o on of what c says. -/
def seg (c : Nat → Value) (o n : Nat) : List Value := (List.range n).map fun i => c (o + i)
theorem seg_length (c : Nat → Value) (o n : Nat) : (seg c o n).length = n := by simp [seg]
theorem seg_get (c : Nat → Value) (o n j : Nat) (h : j < n) : (seg c o n)[j]? = some (c (o + j)) := by simp [seg, h]
theorem seg_get_some {c : Nat → Value} {o n j : Nat} {v : Value} (h : (seg c o n)[j]? = some v) : j < n ∧ v = c (o + j) := by
  have hj : j < n := by have := (List.getElem?_eq_some_iff.1 h).1; rwa [seg_length] at this
  rw [seg_get c o n j hj] at h
  exact ⟨hj, (Option.some.inj h).symm⟩
theorem seg_congr {c d : Nat → Value} {o p n : Nat} (h : ∀ i, i < n → c (o + i) = d (p + i)) : seg c o n = seg d p n := by
  unfold seg
  refine List.map_congr_left fun i hi => h i (by simpa using hi)
theorem seg_mem {c : Nat → Value} {o n : Nat} {v : Value} (h : v ∈ seg c o n) : ∃ i, i < n ∧ v = c (o + i) := by
  obtain ⟨i, hi, rfl⟩ := List.mem_map.1 h
  exact ⟨i, by simpa using hi, rfl⟩

def upd (c : Nat → Value) (o : Nat) (v : Value) : Nat → Value := fun i => if i = o then v else c i
theorem upd_same (c : Nat → Value) (o : Nat) (v : Value) : upd c o v o = v := by simp [upd]
theorem upd_other (c : Nat → Value) (o : Nat) (v : Value) {i : Nat} (h : i ≠ o) : upd c o v i = c i := by simp [upd, h]

theorem range_row {w : World} {b n o m : Nat} {t : TypeId} {c : Nat → Value} (h : w.rowIs b t n c) (hm : o + m ≤ n) : w.rangeAt b o (seg c o m) := fun j v hv => by
  obtain ⟨hj, rfl⟩ := seg_get_some hv
  exact h.cell (by omega)
theorem there_row {w : World} {b n o m : Nat} {t : TypeId} {c : Nat → Value} (h : w.rowIs b t n c) (hm : o + m ≤ n) : w.there b o m := fun j hj =>
  ⟨by rw [h.cell (by omega)]; rfl, h.frozen _⟩

theorem size_setCells (b o : Nat) (vs : List Value) (w : World) : (w.setCells b o vs).heap.size = w.heap.size := by
  induction vs generalizing o w with
  | nil => rfl
  | cons v r ih => rw [World.setCells, ih]; simp [World.setCell]
theorem below_setCells (b o : Nat) (vs : List Value) (w : World) : Below b w (w.setCells b o vs) := by
  induction vs generalizing o w with
  | nil => exact Below.refl _ _
  | cons v r ih => rw [World.setCells]; exact ((Below.refl b w).setCell (p := ⟨b, o, none⟩) (Nat.le_refl _) v).trans (ih (o + 1) _)
theorem setCells_other (b o : Nat) (vs : List Value) (w : World) (k : Nat) (h : k ≠ b) : (w.setCells b o vs).heap[k]? = w.heap[k]? := by
  induction vs generalizing o w with
  | nil => rfl
  | cons v r ih => rw [World.setCells, ih, Below.heap_setCell _ _ _ _ h]
theorem row_setCells (b : Nat) (t : TypeId) (n : Nat) : ∀ (vs : List Value) (o : Nat) (w : World) (c : Nat → Value), w.rowIs b t n c → (w.setCells b o vs).rowIs b t n (fun j => if o ≤ j ∧ j < o + vs.length then vs.getD (j - o) undef else c j)
  | [], o, w, c, h => h.congr fun i _ => by simp; omega
  | v :: r, o, w, c, h => by
    rw [World.setCells]
    refine (row_setCells b t n r (o + 1) _ _ (h.set o v)).congr fun i _ => ?_
    by_cases e : i = o
    · subst e
      simp; omega
    · by_cases e2 : o + 1 ≤ i ∧ i < o + 1 + r.length
      · rw [if_pos e2, if_pos (by simp; omega)]
        obtain ⟨k, rfl⟩ : ∃ k, i = o + 1 + k := ⟨i - (o + 1), by omega⟩
        rw [show o + 1 + k - (o + 1) = k by omega, show o + 1 + k - o = k + 1 by omega]; simp
      · rw [if_neg e2, if_neg e, if_neg (by simp; omega)]

/-- All but block b is as it was. -/
structure But (b : Nat) (w w' : World) : Prop where
  size : w'.heap.size = w.heap.size
  blk : ∀ i, i ≠ b → w'.heap[i]? = w.heap[i]?
  bel : Below b w w'
theorem But.row {b : Nat} {w w' : World} (h : But b w w') {g : Nat} {t : TypeId} {n : Nat} {f : Nat → Value} (hr : w.rowIs g t n f) (hg : g ≠ b) : w'.rowIs g t n f := hr.of_block (h.blk g hg)
theorem but_setCell (b o : Nat) (v : Value) (w : World) : But b w (w.setCell ⟨b, o, none⟩ v) :=
  ⟨by simp [World.setCell], fun _ hi => Below.heap_setCell _ _ _ _ hi, (Below.refl b w).setCell (p := ⟨b, o, none⟩) (Nat.le_refl _) v⟩
theorem but_setCells (b o : Nat) (vs : List Value) (w : World) : But b w (w.setCells b o vs) := ⟨size_setCells _ _ _ _, fun _ hi => setCells_other _ _ _ _ _ hi, below_setCells _ _ _ _⟩
/-- Nothing that was there is written. -/
abbrev Gr (w w' : World) : Prop := Below w.heap.size w w'
theorem Gr.row {w w' : World} (h : Gr w w') {g : Nat} {t : TypeId} {n : Nat} {f : Nat → Value} (hr : w.rowIs g t n f) : w'.rowIs g t n f := hr.of_block (h.block g hr.lt)
theorem cells_one {v : Value} (h : v.oneCell' = true) : v.cells = #[v] := by cases v <;> first | rfl | cases h

theorem run_storeVar_cell (w : World) (b o : Nat) (ty : TypeId) (v : Value) (ht : w.there b o 1) (hi : (P.info? ty).map (·.size) = some 1) (h1 : v.oneCell' = true) :
    (storeVar ty ⟨b, o, none⟩ v).run P w = .ok () (w.setCell ⟨b, o, none⟩ v) := by
  have := run_storeCells_cells (P := P) b o [v] 0 w (fun j hj => by simpa using (ht j (by simpa using hj)).1) (fun j hj => by simpa using (ht j (by simpa using hj)).2) (fun u hu => by simp at hu; subst hu; exact h1)
  cases hq : P.info? ty with
  | none => simp [hq] at hi
  | some i =>
    have hs : i.size = 1 := by simpa [hq] using hi
    simp only [Nat.add_zero, World.setCells] at this
    simp [storeVar, sizeOf, typeInfo, hq, cells_one h1, hs, this]

/-- A STORE OF ONE CELL INTO AN OWN ROW -/
theorem store1_g {ops : Array Oper} {rest : List Oper} {dst : Option Nat} {x y : Operand} {tp : TypeId} {pos : String} {after : Array Edge} {a : Act} {w : World} {Q : Exit → Act → World → Prop} (ty : TypeId)
    {b n : Nat} {t : TypeId} {c : Nat → Value} (o : Nat) (v : Value) (hZ : w.rowIs b t n c) (hx : a.eval x = .pointer (some ⟨b, o, none⟩)) (hy : a.eval y = v) (ho : o < n)
    (hi : (P.info? ty).map (·.size) = some 1) (h1 : v.oneCell' = true)
    (h : ∀ w', w'.rowIs b t n (upd c o v) → But b w w' → wpList P ops Q rest (a.put dst undef) w') : wpList P ops Q ({ dst := dst, op := .store ty x y, type := tp, pos := pos, after := after, guard := none } :: rest) a w :=
  wpList_plain rfl fun _ hK => by
    unfold Oper.wp execOp
    simp only [hx, hy, Instr.storeAt, Instr.sureAddr, Sem.run_bind, Sem.run_pure, Result.andThen_ok, run_storeVar_cell w b o ty v (there_row hZ (by omega)) hi h1]
    exact hK _ _ (h _ (hZ.set o v) (but_setCell _ _ _ _))

theorem run_alloc_zero (w : World) (ty : TypeId) (z : Value) (hz : (P.info? ty).map (·.zero) = some (some z)) : (Instr.alloc ty true (.tuple #[])).run P w = .ok (.pointer (some ⟨w.heap.size, 0, none⟩)) (w.alloc (.cells z.cells ty)) := by
  cases hq : P.info? ty with
  | none => simp [hq] at hz
  | some i =>
    have hs : i.zero = some z := by simpa [hq] using hz
    simp [Instr.alloc, zeroValue, typeInfo, hq, hs, newVar, newRow, newObj]
    rfl

/-- A NEW VARIABLE OF MANY CELLS: its cells are those of the zero value. -/
theorem alloc_g {ops : Array Oper} {rest : List Oper} {dst : Option Nat} {tp : TypeId} {pos : String} {after : Array Edge} {a : Act} {w : World} {Q : Exit → Act → World → Prop} (ty : TypeId) (n : Nat) (C : List Value → Bool)
    (hz : (P.info? ty).map (fun i => (i.zero.map fun z => (z.cells.size, C z.cells.toList))) = some (some (n, true)))
    (h : ∀ w' z g, w.heap.size = g → z.length = n → C z = true → w'.rowIs g ty n (fun j => z.getD j undef) → Gr w w' → wpList P ops Q rest (a.put dst (.pointer (some ⟨g, 0, none⟩))) w') : wpList P ops Q ({ dst := dst, op := .alloc ty, type := tp, pos := pos, after := after, guard := none } :: rest) a w :=
  wpList_plain rfl fun _ hK => by
    cases hq : P.info? ty with
    | none => simp [hq] at hz
    | some i =>
      cases hzz : i.zero with
      | none => simp [hq, hzz] at hz
      | some z =>
        simp [hq, hzz] at hz
        unfold Oper.wp execOp
        have hr := run_alloc_zero (P := P) w ty z (by simp [hq, hzz])
        simp only [Sem.run_bind, Sem.run_pure, Result.andThen_ok, hr]
        refine hK _ _ (h _ z.cells.toList _ rfl (by simpa using hz.1) hz.2 ?_ ((Below.refl _ _).alloc (Nat.le_refl _) _))
        obtain ⟨hn, _⟩ := hz
        subst hn
        exact World.rowIs_alloc w z.cells ty _ fun i hi => by simp [hi]

theorem load_g {ops : Array Oper} {rest : List Oper} {dst : Option Nat} {x : Operand} {tp : TypeId} {pos : String} {after : Array Edge} {a : Act} {w : World} {Q : Exit → Act → World → Prop} (ty : TypeId)
    {b n : Nat} {t : TypeId} {c : Nat → Value} (o m : Nat) {d : TypeDesc} (hZ : w.rowIs b t n c) (hx : a.eval x = .pointer (some ⟨b, o, none⟩)) (hm : o + m ≤ n)
    (hu : P.underlying ty = some d) (hd : d.isRow = true) (hi : (P.info? ty).map (·.size) = some m)
    (h : wpList P ops Q rest (a.put dst (.agg (seg c o m).toArray)) w) : wpList P ops Q ({ dst := dst, op := .load ty x, type := tp, pos := pos, after := after, guard := none } :: rest) a w :=
  wpList_load_mid rfl ty x rfl b o hx (seg c o m) d (range_row hZ hm) hu hd (by rw [seg_length]; exact hi) h

/-- 'old := z.f': A WHOLE ARRAY OR STRUCT OUT OF AN OWN ROW INTO A NEW VARIABLE: three operations -/
theorem snap_g {ops : Array Oper} {rest : List Oper} {d1 d2 : Nat} {x : Operand} {tp tp2 tp3 : TypeId} {pos pos2 pos3 : String} {after after2 after3 : Array Edge} {a : Act} {w : World} {Q : Exit → Act → World → Prop} (ty : TypeId)
    {b n : Nat} {t : TypeId} {c : Nat → Value} (o m : Nat) {d : TypeDesc} (hZ : w.rowIs b t n c) (hx : a.eval x = .pointer (some ⟨b, o, none⟩)) (hm : o + m ≤ n)
    (hu : P.underlying ty = some d) (hd : d.isRow = true) (hi : (P.info? ty).map (fun i => (i.size, i.zero.map fun z => z.cells.size)) = some (m, some m)) (h1 : ∀ i, i < m → (c (o + i)).oneCell' = true)
    (e2 : ∀ g, ((a.put (some d1) (.agg (seg c o m).toArray)).put (some d2) (.pointer (some ⟨g, 0, none⟩))).eval (.tmp d2) = .pointer (some ⟨g, 0, none⟩))
    (e1 : ∀ g, ((a.put (some d1) (.agg (seg c o m).toArray)).put (some d2) (.pointer (some ⟨g, 0, none⟩))).eval (.tmp d1) = .agg (seg c o m).toArray)
    (h : ∀ w' g, w.heap.size = g → w'.rowIs g ty m (fun i => c (o + i)) → Gr w w' → wpList P ops Q rest ((a.put (some d1) (.agg (seg c o m).toArray)).put (some d2) (.pointer (some ⟨g, 0, none⟩))) w') :
    wpList P ops Q ({ dst := some d1, op := .load ty x, type := tp, pos := pos, after := after, guard := none } :: { dst := some d2, op := .alloc ty, type := tp2, pos := pos2, after := after2, guard := none } :: { dst := none, op := .store ty (.tmp d2) (.tmp d1), type := tp3, pos := pos3, after := after3, guard := none } :: rest) a w := by
  have hs : (P.info? ty).map (·.size) = some m := by
    cases hq : P.info? ty with
    | none => simp [hq] at hi
    | some i => simp [hq] at hi ⊢; exact hi.1
  refine load_g ty o m hZ hx hm hu hd hs ?_
  refine alloc_g ty m (fun _ => true) ?_ fun w1 z g hge hzl _ hr hg => ?_
  · cases hq : P.info? ty with
    | none => simp [hq] at hi
    | some i => cases hz : i.zero <;> simp [hq, hz] at hi ⊢; exact hi.2
  · subst hge
    refine wpList_store_mid rfl ty (.tmp d2) (.tmp d1) rfl w.heap.size 0 _ (e2 _) (e1 _) (by simpa [seg_length] using there_row hr (by omega)) (by simpa [seg_length] using hs) (all_oneCell_toArray fun v hv => ?_) ?_
    · obtain ⟨i, hi, rfl⟩ := seg_mem hv
      exact h1 i hi
    · refine h _ _ rfl ?_ (hg.trans ((below_setCells _ _ _ _).mono (Nat.le_refl _)))
      refine (row_setCells _ _ _ _ _ _ _ hr).congr fun i hi => ?_
      rw [if_pos (by simp [seg_length]; omega)]
      simp [seg, hi]


/-- ONE CELL OUT OF AN OWN ROW -/
theorem load1_g {ops : Array Oper} {rest : List Oper} {dst : Option Nat} {x : Operand} {tp : TypeId} {pos : String} {after : Array Edge} {a : Act} {w : World} {Q : Exit → Act → World → Prop} (ty : TypeId)
    {b n : Nat} {t : TypeId} {c : Nat → Value} (o : Nat) (v : Value) {d : TypeDesc} (hZ : w.rowIs b t n c) (hx : a.eval x = .pointer (some ⟨b, o, none⟩)) (hv : c o = v) (ho : o < n)
    (hu : P.underlying ty = some d) (hd : d.isRow = false)
    (h : wpList P ops Q rest (a.put dst v) w) : wpList P ops Q ({ dst := dst, op := .load ty x, type := tp, pos := pos, after := after, guard := none } :: rest) a w :=
  wpList_plain rfl fun _ hK => by
    have hagg : (isAgg ty).run P w = .ok false w := by
      unfold isAgg
      rw [Sem.run_bind, run_underlying hu w]
      cases d <;> simp_all
    have hl : (load ⟨b, o, none⟩).run P w = .ok v w := by
      have := hZ.cell ho
      rw [hv] at this
      simp [run_load, this]
    unfold Oper.wp execOp
    simp only [hx, Instr.loadAt, Instr.sureAddr, loadVar, Sem.run_bind, Sem.run_pure, Result.andThen_ok, hagg, Bool.false_eq_true, if_false, hl]
    exact hK _ _ h

/-- 'make([]T, n, m)', T of one cell -/
theorem make_g {ops : Array Oper} {rest : List Oper} {dst : Option Nat} {l c : Operand} {tp : TypeId} {pos : String} {after : Array Edge} {a : Act} {w : World} {Q : Exit → Act → World → Prop} (t e : TypeId) (z : Value) (bytes n m : Nat)
    (ht : P.underlying t = some (.slice e)) (hinfo : (P.info? e).map (fun i => (i.zero, i.size, i.bytes)) = some (some z, 1, bytes)) (hz1 : z.cells = #[z])
    (kl kc : IntKind) (hl : a.eval l = .int kl (n : Int)) (hc : a.eval c = .int kc (m : Int)) (hnm : n ≤ m) (hbytes : bytes * m ≤ 281474976710656) (h63 : m ≤ 9223372036854775807)
    (h : ∀ w' g, w.heap.size = g → w'.rowIs g e m (fun _ => z) → Gr w w' → wpList P ops Q rest (a.put dst (.slice (some ⟨g, 0, none⟩) n m)) w') : wpList P ops Q ({ dst := dst, op := .makeSlice t l c, type := tp, pos := pos, after := after, guard := none } :: rest) a w :=
  wpList_plain rfl fun _ hK => by
    obtain ⟨i, hi, hzz⟩ := Option.map_eq_some_iff.1 hinfo
    simp only [Prod.mk.injEq] at hzz
    obtain ⟨hz, hs, hb⟩ := hzz
    have hb' : (i.bytes : Int) * (m : Int) ≤ 281474976710656 := by
      have h : ((i.bytes * m : Nat) : Int) ≤ 281474976710656 := by rw [hb]; omega
      rwa [Int.natCast_mul] at h
    have hr := run_make (P := P) w t e i z ht hi hz kl kc n m (by omega) (by omega) hb' (by omega)
    simp only [Int.toNat_natCast, hs, Nat.mul_one, hz1] at hr
    unfold Oper.wp execOp
    simp only [hl, hc, hr, Sem.run_bind, Sem.run_pure, Result.andThen_ok]
    exact hK _ _ (h _ _ rfl (World.rowIs_made w z m e) ((Below.refl _ _).alloc (Nat.le_refl _) _))

theorem run_copy_row (w : World) (dT sT ty elem : TypeId) (g n m cap : Nat) (f : Nat → Value) (ao : Option Addr) (cs : List Value)
    (hu : P.underlying dT = some (.slice elem)) (hs : (P.info? elem).map (·.size) = some 1) (hl : cs.length = n) (hnm : n ≤ m)
    (hnone : ao = none → n = 0) (hsrc : ∀ x, ao = some x → ∀ j v, cs[j]? = some v → w.cell? (x.add j) = some v) (hr : w.rowIs g elem m f) (h1 : ∀ v ∈ cs, v.oneCell' = true) :
    (Builtin.copy_ #[dT, sT] ty #[.slice (some ⟨g, 0, none⟩) n m, .slice ao n cap]).run P w = .ok (goInt n) (w.setCells g 0 cs) := by
  have hst := run_storeCells_cells (P := P) g 0 cs 0 w (fun j hj => by simpa using (there_row hr (o := 0) (m := m) (by omega) j (by omega)).1) (fun j hj => by simpa using (there_row hr (o := 0) (m := m) (by omega) j (by omega)).2) h1
  simp only [Nat.add_zero] at hst
  cases hq : P.info? elem with
  | none => simp [hq] at hs
  | some i =>
    have hi : i.size = 1 := by simpa [hq] using hs
    cases ao with
    | none =>
      obtain rfl := hnone rfl
      obtain rfl : cs = [] := List.length_eq_zero_iff.1 hl
      simp only [World.setCells] at hst
      simp [Builtin.copy_, run_underlying hu, Builtin.lenOf, Builtin.firstCells, sizeOf, typeInfo, hq, hst, World.setCells]
    | some x =>
      have hld := run_loadCells_list (P := P) w x cs (hsrc x rfl)
      rw [hl] at hld
      simp [Builtin.copy_, run_underlying hu, Builtin.lenOf, Builtin.firstCells, sizeOf, typeInfo, hq, hi, hld, hst]

/-- 'copy(dst, src)', dst an own row, src whatever came in -/
theorem copy_g {ops : Array Oper} {rest : List Oper} {dst : Option Nat} {x y : Operand} {tp : TypeId} {pos : String} {after : Array Edge} {a : Act} {w : World} {Q : Exit → Act → World → Prop} (dT sT elem : TypeId)
    {g m : Nat} {f : Nat → Value} (n cap : Nat) (ao : Option Addr) (cs : List Value) (hr : w.rowIs g elem m f) (hx : a.eval x = .slice (some ⟨g, 0, none⟩) n m) (hy : a.eval y = .slice ao n cap)
    (hu : P.underlying dT = some (.slice elem)) (hs : (P.info? elem).map (·.size) = some 1) (hl : cs.length = n) (hnm : n ≤ m)
    (hnone : ao = none → n = 0) (hsrc : ∀ x, ao = some x → ∀ j v, cs[j]? = some v → w.cell? (x.add j) = some v) (h1 : ∀ v ∈ cs, v.oneCell' = true)
    (h : ∀ w', w'.rowIs g elem m (fun j => if j < n then cs.getD j undef else f j) → But g w w' → wpList P ops Q rest (a.put dst (goInt n)) w') :
    wpList P ops Q ({ dst := dst, op := .call { callee := .builtin .copy, args := #[x, y], argTypes := #[dT, sT] }, type := tp, pos := pos, after := after, guard := none } :: rest) a w := by
  refine wpList_plain rfl fun K hK => ?_
  have hrun := run_copy_row (P := P) w dT sT tp elem g n m cap f ao cs hu hs hl hnm hnone hsrc hr h1
  unfold Oper.wp
  simp [execOp, resolve, invoke, builtin, hx, hy, hrun, Result.andThen]
  refine hK _ _ (h _ ((row_setCells _ _ _ _ _ _ _ hr).congr fun i _ => ?_) (but_setCells _ _ _ _))
  simp [hl]

/-- All but the blocks b and g is as it was; there may be more. -/
structure Fr (b g : Nat) (w w' : World) : Prop where
  size : w.heap.size ≤ w'.heap.size
  blk : ∀ i, i < w.heap.size → i ≠ b → i ≠ g → w'.heap[i]? = w.heap[i]?
  bel : ∀ B, B ≤ b → B ≤ g → B ≤ w.heap.size → Below B w w'
theorem Fr.refl (b g : Nat) (w : World) : Fr b g w w := ⟨Nat.le_refl _, fun _ _ _ _ => rfl, fun _ _ _ _ => Below.refl _ _⟩
theorem Fr.but {b g : Nat} {w u v : World} (h : Fr b g w u) (k : But b u v) : Fr b g w v :=
  ⟨by rw [k.size]; exact h.size, fun i h1 h2 h3 => (k.blk i h2).trans (h.blk i h1 h2 h3), fun B h1 h2 h3 => (h.bel B h1 h2 h3).trans (k.bel.mono h1)⟩
theorem Fr.but2 {b g : Nat} {w u v : World} (h : Fr b g w u) (k : But g u v) : Fr b g w v :=
  ⟨by rw [k.size]; exact h.size, fun i h1 h2 h3 => (k.blk i h3).trans (h.blk i h1 h2 h3), fun B h1 h2 h3 => (h.bel B h1 h2 h3).trans (k.bel.mono h2)⟩
theorem Fr.gr {b g : Nat} {w u v : World} (h : Fr b g w u) (k : Gr u v) : Fr b g w v :=
  ⟨Nat.le_trans h.size k.size, fun i h1 h2 h3 => (k.block i (Nat.lt_of_lt_of_le h1 h.size)).trans (h.blk i h1 h2 h3), fun B h1 h2 h3 => (h.bel B h1 h2 h3).trans (k.mono (Nat.le_trans h3 h.size))⟩
theorem Fr.row {b g : Nat} {w w' : World} (h : Fr b g w w') {k : Nat} {t : TypeId} {n : Nat} {f : Nat → Value} (hr : w.rowIs k t n f) (h1 : k ≠ b) (h2 : k ≠ g) : w'.rowIs k t n f := hr.of_block (h.blk k hr.lt h1 h2)

end Go.Proofs.Ybulkeass
