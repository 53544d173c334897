/-
  The library's laws on a whole struct out of and into the midst of a block (Derived/Deep/MidRow), at an operation that is written out: so that 'with_reducible refine ..' fails at once at every other operation.
-/
import Derived.WalkKit
import Derived.Deep.MidRow
import Derived.Laws.CopyRow
import Derived.Laws.IdiomCopy
namespace Go.Proofs.Ybulkeavy
open Go.RowKit
variable {P : Program}

theorem load_g {ops : Array Oper} {rest : List Oper} {dst : Option Nat} {x : Operand} {tp : TypeId} {pos : String} {after : Array Edge} {a : Act} {w : World} {Q : Exit → Act → World → Prop} (ty : TypeId)
    (b o : Nat) (cs : List Value) (n : Nat) {d : TypeDesc} (hx : a.eval x = .pointer (some ⟨b, o, none⟩)) (hc : w.rangeAt b o cs)
    (hu : P.underlying ty = some d) (hd : d.isRow = true) (hn : cs.length = n) (hi : (P.info? ty).map (·.size) = some n)
    (h : wpList P ops Q rest (a.put dst (.agg cs.toArray)) w) : wpList P ops Q ({ dst := dst, op := .load ty x, type := tp, pos := pos, after := after, guard := none } :: rest) a w :=
  wpList_load_mid rfl ty x rfl b o hx cs d hc hu hd (by rw [hn]; exact hi) h

theorem store_g {ops : Array Oper} {rest : List Oper} {dst : Option Nat} {x y : Operand} {tp : TypeId} {pos : String} {after : Array Edge} {a : Act} {w : World} {Q : Exit → Act → World → Prop} (ty : TypeId)
    (b o : Nat) (cs : List Value) (n : Nat) (hx : a.eval x = .pointer (some ⟨b, o, none⟩)) (hy : a.eval y = .agg cs.toArray)
    (ht : w.there b o n) (hn : cs.length = n) (hi : (P.info? ty).map (·.size) = some n) (h1 : ∀ v ∈ cs, v.oneCell' = true)
    (h : wpList P ops Q rest (a.put dst undef) (w.setCells b o cs)) : wpList P ops Q ({ dst := dst, op := .store ty x y, type := tp, pos := pos, after := after, guard := none } :: rest) a w :=
  wpList_store_mid rfl ty x y rfl b o cs.toArray hx hy (by simpa [hn] using ht) (by simpa [hn] using hi) (all_oneCell_toArray h1) (by simpa using h)

/-- 'copy(dst, src)' of elements of 'size' cells each, dst in a row of the call's own. -/
theorem run_copy_mid (w : World) (dT sT ty elem : TypeId) (size g o dLen dCap : Nat) (a : Addr) (sLen sCap n : Nat) (cs : List Value)
    (hu : P.underlying dT = some (.slice elem)) (hs : (P.info? elem).map (·.size) = some size) (hn : Nat.min sLen dLen = n) (hl : cs.length = n * size)
    (hsrc : ∀ j v, cs[j]? = some v → w.cell? (a.add j) = some v) (ht : w.there g o (n * size)) (h1 : ∀ v ∈ cs, v.oneCell' = true) :
    (Builtin.copy_ #[dT, sT] ty #[.slice (some ⟨g, o, none⟩) dLen dCap, .slice (some a) sLen sCap]).run P w = .ok (goInt n) (w.setCells g o cs) := by
  have hld := run_loadCells_list (P := P) w a cs hsrc
  have hst := run_storeCells_cells (P := P) g o cs 0 w (fun j hj => by simpa using (ht j (by omega)).1) (fun j hj => by simpa using (ht j (by omega)).2) h1
  simp only [Nat.add_zero] at hst
  cases hq : P.info? elem with
  | none => simp [hq] at hs
  | some i =>
    have hi : i.size = size := by simpa [hq] using hs
    rw [hl] at hld
    simp [Builtin.copy_, run_underlying hu, Builtin.lenOf, Builtin.firstCells, sizeOf, typeInfo, hq, hi, hn, hld, hst]

theorem copy_g {ops : Array Oper} {rest : List Oper} {dst : Option Nat} {x y : Operand} {tp : TypeId} {pos : String} {after : Array Edge} {a : Act} {w : World} {Q : Exit → Act → World → Prop} (dT sT elem : TypeId)
    (size g o dLen dCap : Nat) (ad : Addr) (sLen sCap n : Nat) (cs : List Value) (hx : a.eval x = .slice (some ⟨g, o, none⟩) dLen dCap) (hy : a.eval y = .slice (some ad) sLen sCap)
    (hu : P.underlying dT = some (.slice elem)) (hs : (P.info? elem).map (·.size) = some size) (hn : Nat.min sLen dLen = n) (hl : cs.length = n * size)
    (hsrc : ∀ j v, cs[j]? = some v → w.cell? (ad.add j) = some v) (ht : w.there g o (n * size)) (h1 : ∀ v ∈ cs, v.oneCell' = true)
    (h : wpList P ops Q rest (a.put dst (goInt n)) (w.setCells g o cs)) :
    wpList P ops Q ({ dst := dst, op := .call { callee := .builtin .copy, args := #[x, y], argTypes := #[dT, sT] }, type := tp, pos := pos, after := after, guard := none } :: rest) a w := by
  refine wpList_plain rfl fun K hK => ?_
  have hrun := run_copy_mid (P := P) w dT sT tp elem size g o dLen dCap ad sLen sCap n cs hu hs hn hl hsrc ht h1
  unfold Oper.wp
  simp [execOp, resolve, invoke, builtin, hx, hy, hrun, Result.andThen]
  exact hK _ _ h

theorem rangeAt_below {B : Nat} {w w' : World} (h : Below B w w') {b o : Nat} {cs : List Value} (hb : b < B) (hr : w.rangeAt b o cs) : w'.rangeAt b o cs :=
  fun j v hv => (h.cell (p := ⟨b, o + j, none⟩) hb).trans (hr j v hv)

theorem below_setCells (b o : Nat) (vs : List Value) (w : World) : Below b w (w.setCells b o vs) := by
  induction vs generalizing o w with
  | nil => exact Below.refl _ _
  | cons v r ih => rw [World.setCells]; exact ((Below.refl b w).setCell (p := ⟨b, o, none⟩) (Nat.le_refl _) v).trans (ih (o + 1) _)

theorem size_setCells (b o : Nat) (vs : List Value) (w : World) : (w.setCells b o vs).heap.size = w.heap.size := by
  induction vs generalizing o w with
  | nil => rfl
  | cons v r ih => rw [World.setCells, ih]; simp [World.setCell]

theorem there_below {B : Nat} {w w' : World} (h : Below B w w') {b o n : Nat} (hb : b < B) (hr : w.there b o n) : w'.there b o n :=
  fun j hj => ⟨by rw [h.cell (p := ⟨b, o + j, none⟩) hb]; exact (hr j hj).1, by rw [h.frozen (p := ⟨b, o + j, none⟩) hb]; exact (hr j hj).2⟩

theorem there_sub {w : World} {b N o n : Nat} (h : w.there b 0 N) (hn : o + n ≤ N) : w.there b o n := fun j hj => by
  have := h (o + j) (by omega)
  simpa using this

theorem there_own {w : World} {base : Nat} {e : TypeId} {size g n cap : Nat} {xs : List Value} (h : w.ownsRow base e size (.slice (some ⟨g, 0, none⟩) n cap) n xs) : w.there g 0 (n * size) := fun j hj => by
  have hl := h.1
  refine ⟨?_, ?_⟩
  · rw [Nat.zero_add, h.cellAt j hj, List.getElem?_eq_getElem (by omega)]; rfl
  · rw [Nat.zero_add]; exact h.frozenAt j

theorem there_new (w : World) (cs : Array Value) (T : TypeId) : (w.alloc (.cells cs T)).there w.heap.size 0 cs.size := fun j hj => by
  have hb : (w.alloc (.cells cs T)).heap[w.heap.size]? = some (.cells cs T (0, 0)) := heap_alloc_new w _
  refine ⟨?_, ?_⟩
  · rw [Nat.zero_add, cell_of_row _ _ j cs T (0, 0) hb, Array.getElem?_eq_getElem hj]; rfl
  · unfold World.frozen?; rw [hb]; simp

theorem al {w : World} {a : Addr} {v : Value} (h : w.cell? a = some v) (o : Obj) : (w.alloc o).cell? a = some v := by
  rw [World.cell?_alloc_lt _ _ _ (World.block_lt_of_cell? w _ h)]; exact h

theorem own_below {wr w3 : World} {base : Nat} {e : TypeId} {size : Nat} {v : Value} {n : Nat} {xs : List Value} (h : wr.ownsRow base e size v n xs) (hb : Below wr.heap.size wr w3) : w3.ownsRow base e size v n xs := by
  refine ⟨h.1, ?_⟩
  rcases h.2 with h2 | ⟨g, cap, cur, hv, hg, hh, r⟩
  · exact .inl h2
  · have hlt : g < wr.heap.size := (h.lt g (by rw [hv]; rfl)).2
    exact .inr ⟨g, cap, cur, hv, hg, by rw [hb.block g hlt]; exact hh, r⟩

end Go.Proofs.Ybulkeavy
