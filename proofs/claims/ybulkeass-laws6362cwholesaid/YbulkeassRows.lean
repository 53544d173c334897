/-
  No cell of these rows narrows 'for every input' (looked for: loops, veiled, ifaces, maps, wideKeys, modest, calm, conditions, laid).
  DERIVED. THE GIVEN ROWS OF THIS SEAT. 1 by the template 'for every input the law returns true; each argument reads behind the call as it read before'; 0 by the template 'total and deterministic' (their statements: YbulkeassTotals.lean).
  GIVEN WITH THE SEED: the statements are not yours to turn. If you find one false, say at which input.
  Laid BY PROGRAM, IN A SANDBOX (cutbox-rows.mjs): the forced cells as the released guide's own fill.sh prints them over the translation 0d34fefb584435f1… (all of the seat's roots in one cut). By AI agents, Wed Nov 11 2026. No macro, syntax, notation, axiom, sorry.
-/
import Derived.Test.YbulkeassChecked
import GoSem.Claim
import GoSem.ClaimJoined
import GoSem.ClaimMapViews
import Derived.JoinedTies
import Derived.KernelRfl
namespace Go.Proofs.Ybulkeass
/- THE CELL 'sum', in the pinned program and in every row, IS THE sha256 OF THE DUMP (.gsa) THAT YbulkeassProg.lean LOADS. Nothing in Lean hashes anything: it is a label: what it is worth is what the hold of that sum in a sandbox is worth. -/
noncomputable def Yba.pinned : Pinned := { name := "ybulkeass", sum := "0d34fefb584435f16f0c030f244c7c1fb5cedcdaebf9a09e7636145301147688", checked := Yba.checked }
namespace Rows
def none {H : Type} : Left H := { results := [], args := [] }

/-- 'deflate.LawS6362CWhole': WHATEVER THE INPUT: true; the input reads as it did. -/
def lawS6362CWholeSpec : ChangeSpec := { name := "lawS6362CWhole", fn := fun _ => fun
  | [d1, d2, d3, d4, d5, d6, d7, d8, d9, d10, d11, d12] => { results := [.lit (.bool true)], args := [d1, d2, d3, d4, d5, d6, d7, d8, d9, d10, d11, d12] }
  | _ => none }
def lawS6362CWholeRow : OpenClaim := { program := "ybulkeass", sum := "0d34fefb584435f16f0c030f244c7c1fb5cedcdaebf9a09e7636145301147688", func := "example.com/objectwell/objectwell/internal/deflate.LawS6362CWhole", spec := "lawS6362CWhole", apart := false }
def LawS6362CWholeSaid : Prop := lawS6362CWholeRow.holds Yba.pinned (OpenSpec.ofChange lawS6362CWholeSpec)

/-- ITS FALSE NEIGHBOUR: 'it returns false'. Refute it at one input. -/
def lawS6362CWholeWrong : ChangeSpec := { name := "lawS6362CWhole", fn := fun _ => fun
  | [d1, d2, d3, d4, d5, d6, d7, d8, d9, d10, d11, d12] => { results := [.lit (.bool false)], args := [d1, d2, d3, d4, d5, d6, d7, d8, d9, d10, d11, d12] }
  | _ => none }
def LawS6362CWholeWrongFalsely : Prop := lawS6362CWholeRow.holds Yba.pinned (OpenSpec.ofChange lawS6362CWholeWrong)

end Rows
end Go.Proofs.Ybulkeass
