/-
  Tokens as plain data, and 'parser.zzs6363ctok' (function 4) by its contract.
-/
import Derived.Test.YbulkeatgProg
import Derived.WalkKit
import Derived.WalkSpells
import Derived.Deep.MidRow
namespace Go.Proofs.Ybulkeatg
open Go.RowKit

structure Tok where
  k : Int
  s : ByteArray
  a : Int
  b : Int
  c : Int
  d : Int

def c6 (t : Tok) : List Value := [.int .u8 t.k, .string t.s, .int .i64 t.a, .int .i64 t.b, .int .i64 t.c, .int .i64 t.d]
def c9 (t : Tok) : List Value := [.int .u8 t.k, .string t.s, .int .i64 t.a, .int .i64 t.b, .int .i64 t.c, .int .i64 t.d, .int .i64 0, .int .i64 0, .int .i64 0]

set_option maxHeartbeats 400000 in
theorem ctok (t : Tok) (w : World) :
    Calls Yba.prog 4 #[.agg (c6 t).toArray] w fun e w' => e = .returned (.agg (c9 t).toArray) ∧ Below w.heap.size w w' := by
  obtain ⟨k, s, a, b, c, d⟩ := t
  simp only [c6, c9]
  go_enter Yba.func4, Yba.ntmps4
  go_wp2
  go_outline
  refine bodyPost_ret (v := .agg #[.int .u8 k, .string s, .int .i64 a, .int .i64 b, .int .i64 c, .int .i64 d, .int .i64 0, .int .i64 0, .int .i64 0]) (by simp [results, Yba.results4, go_sem]) rfl ⟨rfl, ?_⟩
  exact ((Below.refl _ _).alloc (Nat.le_refl _) _).alloc (by simp) _
end Go.Proofs.Ybulkeatg
