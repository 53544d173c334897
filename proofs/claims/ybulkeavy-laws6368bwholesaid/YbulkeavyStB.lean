/-
  What 'scan.LawS6368BWhole' knows of its own memory.
-/
import Derived.Test.YbulkeavyState
namespace Go.Proofs.Ybulkeavy
open Go.RowKit

theorem blk_lt {w : World} {b : Nat} {o : Obj} (h : w.heap[b]? = some o) : b < w.heap.size := by
  rcases Nat.lt_or_ge b w.heap.size with h' | h'
  · exact h'
  · rw [Array.getElem?_eq_none h'] at h; cases h

structure StB (w W : World) (g1 g2 sb tb rb : Nat) (rs : List Value) (date kind days since : Int) (comp sym test cl ed trig : ByteArray) (op na open' blind : Bool) : Prop where
  bel : Below w.heap.size w W
  bB : W.heap[w.heap.size]? = some (.cells #[.int .i32 date, .string comp, .int .i64 kind, .string sym, .string test, .string cl, .bool op, .bool na, .string ed] 38 (0, 0))
  r1 : W.rangeAt g1 0 rs
  l1 : g1 < W.heap.size
  r2 : W.rangeAt g2 0 rs
  l2 : g2 < W.heap.size
  bs : W.heap[sb]? = some (.cells #[.int .i64 1, .int .i64 2, .map none, .nilFunc] 50 (0, 0))
  bt : W.heap[tb]? = some (.cells #[.int .i64 7, .string { data := #[119] }, .string trig] 52 (0, 0))
  br : W.heap[rb]? = some (.cells #[.pointer (some ⟨sb, 0, none⟩), .int .i64 7, .string { data := #[119] }, .string trig, .int .i64 days, .int .i32 since, .bool open', .bool blind] 56 (0, 0))

theorem StB.below {w W W' : World} {g1 g2 sb tb rb : Nat} {rs : List Value} {date kind days since : Int} {comp sym test cl ed trig : ByteArray} {op na open' blind : Bool} (h : StB w W g1 g2 sb tb rb rs date kind days since comp sym test cl ed trig op na open' blind) (hb : Below W.heap.size W W') : StB w W' g1 g2 sb tb rb rs date kind days since comp sym test cl ed trig op na open' blind :=
  ⟨h.bel.trans (hb.mono h.bel.size), (hb.block _ (blk_lt h.bB)).trans h.bB, rangeAt_below hb h.l1 h.r1, Nat.lt_of_lt_of_le h.l1 hb.size, rangeAt_below hb h.l2 h.r2, Nat.lt_of_lt_of_le h.l2 hb.size,
    (hb.block _ (blk_lt h.bs)).trans h.bs, (hb.block _ (blk_lt h.bt)).trans h.bt, (hb.block _ (blk_lt h.br)).trans h.br⟩

theorem st_startB {w w4 : World} {g2 len : Nat} {rs : List Value} {date kind days since : Int} {comp sym test cl ed trig : ByteArray} {op na open' blind : Bool} (hB : Below w.heap.size w w4) (hK : w4.heap[w.heap.size]? = some (.cells #[.int .i32 date, .string comp, .int .i64 kind, .string sym, .string test, .string cl, .bool op, .bool na, .string ed] 38 (0, 0))) (r1 : w4.rangeAt (w.heap.size + 1) 0 rs) (l1 : w.heap.size + 1 < w4.heap.size) (r2 : w4.rangeAt g2 0 rs) (l2 : g2 < w4.heap.size) :
    StB w ((((w4.alloc (.cells #[.int .i64 1, .int .i64 2, .map none, .nilFunc] 50)).alloc (.cells #[.int .i64 7, .string { data := #[119] }, .string trig] 52)).alloc (.cells #[.pointer (some ⟨w4.heap.size, 0, none⟩), .int .i64 7, .string { data := #[119] }, .string trig, .int .i64 days, .int .i32 since, .bool open', .bool blind] 56)).alloc (.cells #[.int .i32 date, .string comp, .int .i64 kind, .string sym, .string test, .string cl, .slice (some ⟨w.heap.size + 1, 0, none⟩) len len, .bool op, .bool na, .string ed] 60)) (w.heap.size + 1) g2 w4.heap.size (w4.heap.size + 1) (w4.heap.size + 1 + 1) rs date kind days since comp sym test cl ed trig op na open' blind := by
  have e1 : (w4.alloc (.cells #[.int .i64 1, .int .i64 2, .map none, .nilFunc] 50)).heap.size = w4.heap.size + 1 := by simp
  have e2 : ((w4.alloc (.cells #[.int .i64 1, .int .i64 2, .map none, .nilFunc] 50)).alloc (.cells #[.int .i64 7, .string { data := #[119] }, .string trig] 52)).heap.size = w4.heap.size + 1 + 1 := by simp
  have e3 : (((w4.alloc (.cells #[.int .i64 1, .int .i64 2, .map none, .nilFunc] 50)).alloc (.cells #[.int .i64 7, .string { data := #[119] }, .string trig] 52)).alloc (.cells #[.pointer (some ⟨w4.heap.size, 0, none⟩), .int .i64 7, .string { data := #[119] }, .string trig, .int .i64 days, .int .i32 since, .bool open', .bool blind] 56)).heap.size = w4.heap.size + 1 + 1 + 1 := by simp
  have hb : Below w4.heap.size w4 ((((w4.alloc (.cells #[.int .i64 1, .int .i64 2, .map none, .nilFunc] 50)).alloc (.cells #[.int .i64 7, .string { data := #[119] }, .string trig] 52)).alloc (.cells #[.pointer (some ⟨w4.heap.size, 0, none⟩), .int .i64 7, .string { data := #[119] }, .string trig, .int .i64 days, .int .i32 since, .bool open', .bool blind] 56)).alloc (.cells #[.int .i32 date, .string comp, .int .i64 kind, .string sym, .string test, .string cl, .slice (some ⟨w.heap.size + 1, 0, none⟩) len len, .bool op, .bool na, .string ed] 60)) :=
    ((((Below.refl _ _).alloc (Nat.le_refl _) _).alloc (by omega) _).alloc (by omega) _).alloc (by omega) _
  have hs := hb.size
  refine ⟨hB.trans (hb.mono hB.size), (hb.block _ (blk_lt hK)).trans hK, rangeAt_below hb l1 r1, by omega, rangeAt_below hb l2 r2, by omega, ?_, ?_, ?_⟩
  · rw [Below.heap_alloc _ _ _ (by omega), Below.heap_alloc _ _ _ (by omega), Below.heap_alloc _ _ _ (by omega)]
    exact heap_alloc_new w4 _
  · rw [Below.heap_alloc _ _ _ (by omega), Below.heap_alloc _ _ _ (by omega), ← e1]
    exact heap_alloc_new _ _
  · rw [Below.heap_alloc _ _ _ (by omega), ← e2]
    exact heap_alloc_new _ _
end Go.Proofs.Ybulkeavy
