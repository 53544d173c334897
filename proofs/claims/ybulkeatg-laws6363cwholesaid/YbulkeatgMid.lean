/-
  The library's laws on a whole struct out of and into the midst of a block (Derived/Deep/MidRow), at an operation that is written out: so that 'with_reducible refine ..' fails at once at every other operation.
-/
import Derived.WalkKit
import Derived.Deep.MidRow
namespace Go.Proofs.Ybulkeatg
open Go.RowKit
variable {P : Program}

theorem load_g {ops : Array Oper} {rest : List Oper} {dst : Option Nat} {x : Operand} {tp : TypeId} {pos : String} {after : Array Edge} {a : Act} {w : World} {Q : Exit → Act → World → Prop} (ty : TypeId)
    (b o : Nat) (cs : List Value) (n : Nat) {d : TypeDesc} (hx : a.eval x = .pointer (some ⟨b, o, none⟩)) (hc : w.rangeAt b o cs)
    (hu : P.underlying ty = some d) (hd : d.isRow = true) (hn : cs.length = n) (hi : (P.info? ty).map (·.size) = some n)
    (h : wpList P ops Q rest (a.put dst (.agg cs.toArray)) w) : wpList P ops Q ({ dst := dst, op := .load ty x, type := tp, pos := pos, after := after, guard := none } :: rest) a w :=
  wpList_load_mid rfl ty x rfl b o hx cs d hc hu hd (by rw [hn]; exact hi) h

theorem store_g {ops : Array Oper} {rest : List Oper} {dst : Option Nat} {x y : Operand} {tp : TypeId} {pos : String} {after : Array Edge} {a : Act} {w : World} {Q : Exit → Act → World → Prop} (ty : TypeId)
    (b o : Nat) (cs : List Value) (n : Nat) (hx : a.eval x = .pointer (some ⟨b, o, none⟩)) (hy : a.eval y = .agg cs.toArray)
    (ht : w.there b o n) (hn : cs.length = n) (hi : (P.info? ty).map (·.size) = some n) (h1 : ∀ v ∈ cs, v.oneCell' = true)
    (h : wpList P ops Q rest (a.put dst undef) (w.setCells b o cs)) : wpList P ops Q ({ dst := dst, op := .store ty x y, type := tp, pos := pos, after := after, guard := none } :: rest) a w :=
  wpList_store_mid rfl ty x y rfl b o cs.toArray hx hy (by simpa [hn] using ht) (by simpa [hn] using hi) (all_oneCell_toArray h1) (by simpa using h)
end Go.Proofs.Ybulkeatg
