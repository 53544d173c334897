/-
  DERIVED: THE SHELF's CONTRACTS AT THIS DUMP, IN PLAIN WORDS (tools/lay-plain.mjs out of 'lay-shelf's text): THE SAME DECLARATIONS UNDER THE SAME NAMES: 'import', 'namespace', 'open', 'def', 'theorem' AND NOTHING ELSE: no command of the shelf's: FOR A HAND-IN. Each laying: the table of numbers ('.._ren') and one theorem, a field a fact of the dump's own or the kernel's comparison; each contract: ONE APPLICATION.
-/
import Derived.Shelf.Bits.Mul64
import Derived.Test.YbulkeavyProg
namespace Go.Proofs
open Go.Shelf
def Yba.lays264_ren : Go.Shelf.Ren := ⟨fun | 264 => 6 | n => n, fun | 53 => 33 | 46 => 65 | n => n, fun | n => n⟩
theorem Yba.lays264 : Go.Proofs.Lays.n264 Yba.prog Yba.lays264_ren := {
  mixed := by kernel_rfl
  f264 := Yba.func6.trans (congrArg some (by kernel_rfl))
  t46 := Yba.underlying65
  a46 := Yba.isAgg65
  z46 := Yba.sizeOf65
  v46 := Yba.zeroValue65
  t53 := Yba.underlying33
  a53 := Yba.isAgg33
  z53 := Yba.sizeOf33
  v53 := Yba.zeroValue33 }
open Go.RowKit Go.Lib in
theorem Yba.bits_Mul64 (x y : Nat) (hx : x < 18446744073709551616) (hy : y < 18446744073709551616) (w : World) :
    Calls Yba.prog 6 #[.int .u64 x, .int .u64 y] w fun e w' => e = .returned (.tuple #[.int .u64 ((x * y / 18446744073709551616 : Nat) : Int), .int .u64 ((x * y % 18446744073709551616 : Nat) : Int)]) ∧ w' = w := Any.bits_Mul64 Yba.lays264 x y hx hy w
end Go.Proofs
