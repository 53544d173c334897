/-
  The law's body is a row of statements: what follows the first k of them, by its own theorem.
-/
import Derived.Test.YbulkeassEq
import Derived.Deep.Cut
import Derived.Deep.CutRange
import Derived.Deep.CutBlock
namespace Go.Proofs.Ybulkeass
open Go.RowKit
/-- What follows the first k statements. -/
def sndO : Nat → Option Code → Option Code
  | 0, x => x
  | n + 1, some (.seq _ b) => sndO n (some b)
  | _, _ => none
/-- What follows the first k statements of the law, from frame a and world w, ends well. -/
def Tail (k : Nat) (w0 : World) (a : Act) (w : World) : Prop := ∃ code, sndO k Yba.f3.body = some code ∧ Code.wp Yba.prog code (bodyPost Yba.prog Yba.f3 fun e w' => e = Ending.returned (Value.bool true) ∧ Below w0.heap.size w0 w') a w
theorem Tail.use {k : Nat} {w0 w : World} {a : Act} {code : Code} (h : Tail k w0 a w) (hc : sndO k Yba.f3.body = some code) : Code.wp Yba.prog code (bodyPost Yba.prog Yba.f3 fun e w' => e = Ending.returned (Value.bool true) ∧ Below w0.heap.size w0 w') a w := by
  obtain ⟨c, h1, h2⟩ := h
  rw [hc] at h1
  cases h1
  exact h2
def TokOK (w wx : World) (N : Nat) (len8 : Nat) (z8 : List Int) (tv : Value) : Prop :=
  (len8 = 0 ∧ tv = .slice none 0 0) ∨ ∃ g f, w.heap.size < g ∧ g < N ∧ tv = .slice (some ⟨g, 0, none⟩) len8 (len8 + 3) ∧ wx.rowIs g 23 (len8 + 3) f ∧ ∀ i, i < len8 → f i = .int .u32 (z8.getD i 0)
theorem TokOK.keep {w wx w' : World} {N N' : Nat} {len8 : Nat} {z8 : List Int} {tv : Value} (h : TokOK w wx N len8 z8 tv) (hN : N ≤ N') (hk : ∀ g, w.heap.size < g → g < N → g < wx.heap.size → w'.heap[g]? = wx.heap[g]?) : TokOK w w' N' len8 z8 tv := by
  rcases h with h | ⟨g, f, h1, h2, h3, h4, h5⟩
  · exact .inl h
  · exact .inr ⟨g, f, h1, by omega, h3, h4.of_block (hk g h1 h2 h4.lt), h5⟩
def hdr3 : Nat → Value := fun i => if i = 0 then .int .u8 1 else if i = 1 then .int .u8 2 else .int .u8 3
theorem eqlNilAny (w : World) (a : Option Addr) (n m : Nat) : (binOp .eql 22 (.slice a n m) (.slice none 0 0)).run Yba.prog w = .ok (.bool a.isNone) w := Lib.run_eql_slice_nil (P := Yba.prog) w 22 5 a n m 0 0 Yba.underlying22
theorem eqlNil24 (w : World) (a : Option Addr) (n m : Nat) : (binOp .eql 24 (.slice a n m) (.slice none 0 0)).run Yba.prog w = .ok (.bool a.isNone) w := Lib.run_eql_slice_nil (P := Yba.prog) w 24 23 a n m 0 0 Yba.underlying24
theorem neqNil24 (w : World) (a : Option Addr) (n m : Nat) : (binOp .neq 24 (.slice a n m) (.slice none 0 0)).run Yba.prog w = .ok (.bool !a.isNone) w := run_neq_slice_nil w 24 23 a n m Yba.underlying24
theorem neqNil22 (w : World) (a : Option Addr) (n m : Nat) : (binOp .neq 22 (.slice a n m) (.slice none 0 0)).run Yba.prog w = .ok (.bool !a.isNone) w := run_neq_slice_nil w 22 5 a n m Yba.underlying22
/-- WHAT IS KNOWN BEHIND Reset, of all the memory that the rest of the law looks at -/
structure S40 (w wq : World) (off : Int) (il : Nat) (ia : Option Addr) (ic : Nat) (ta : Option Addr) (len8 tc len9 : Nat) (z8 : List Int) (N gw s1 s2 s3 s4 s5 s6 s7 gh : Nat) (c9 c' f : Nat → Value) (gi ic' : Nat) (ta' : Option Addr) (tl' tc' g' oc' : Nat) : Prop where
  row : wq.rowIs w.heap.size 47 20155 c'
  bel : Below w.heap.size w wq
  outr : wq.rowIs g' 5 oc' f
  f0 : f 0 = .int .u8 120
  f1 : f 1 = .int .u8 1
  c0 : c' 0 = .iface 49 (.pointer (some ⟨gw, 0, none⟩))
  c1 : c' 1 = .slice (some ⟨gi, 0, none⟩) 0 ic'
  c2 : c' 2 = .int .i64 0
  c3 : c' 3 = .int .u32 1
  c4 : c' 4 = .nilIface
  cO : c' 16389 = .int .i64 (newOff off ((il : Int) + 1))
  cT : c' 16390 = .slice ta' tl' tc'
  cG : c' 16707 = .slice (some ⟨g', 0, none⟩) 2 oc'
  cB : c' 16708 = .int .u64 0
  cN : c' 16709 = .int .u64 0
  cH : c' 20154 = .slice (some ⟨gh, 0, none⟩) 3 3
  hsh : ∀ i, i < 16384 → c' (5 + i) = newH off ((il : Int) + 1) (c9 (5 + i))
  rest : ∀ j, (16391 ≤ j ∧ j < 16707) ∨ 16710 ≤ j → c' j = c9 j
  how : (ia = none ∧ ic' = 98303 ∧ (∃ gt, ta' = some ⟨gt, 0, none⟩) ∧ tl' = 0 ∧ tc' = 65535 ∧ oc' = 65599) ∨ (ia.isNone = false ∧ ic' = ic ∧ ta' = ta ∧ tl' = len8 ∧ tc' = tc ∧ oc' = len9 + 2)
  hsh9 : ∀ i, i < 16384 → ∃ n : Int, c9 (5 + i) = .int .u32 n
  int1 : ∀ j, 16391 ≤ j → j < 16707 → ∃ k n, c9 j = .int k n
  int2 : ∀ j, 16710 ≤ j → j < 20154 → ∃ k n, c9 j = .int k n
  r1 : wq.rowIs s1 31 16384 (fun i => c9 (5 + i))
  r2 : wq.rowIs s2 32 286 (fun i => c9 (16391 + i))
  r3 : wq.rowIs s3 33 30 (fun i => c9 (16677 + i))
  r4 : wq.rowIs s4 39 576 (fun i => c9 (16710 + i))
  r5 : wq.rowIs s5 39 576 (fun i => c9 (17286 + i))
  r6 : wq.rowIs s6 39 576 (fun i => c9 (17862 + i))
  r7 : wq.rowIs s7 43 1716 (fun i => c9 (18438 + i))
  rw51 : ∃ fw, wq.rowIs gw 51 2 fw ∧ fw 0 = .slice none 0 0 ∧ fw 1 = .int .i64 0
  rh : wq.rowIs gh 5 3 hdr3
  tok : TokOK w wq N len8 z8 (.slice ta len8 tc)
  ho0 : 0 ≤ off
  ho1 : off ≤ 1073741824
  hil : il ≤ 1048576
  hl8 : len8 ≤ 1048576
  hl9 : len9 ≤ 1048576
end Go.Proofs.Ybulkeass
