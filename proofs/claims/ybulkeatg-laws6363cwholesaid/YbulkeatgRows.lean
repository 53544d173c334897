/-
  No cell of these rows narrows 'for every input' (looked for: loops, veiled, ifaces, maps, wideKeys, modest, calm, conditions, laid).
  DERIVED. THE GIVEN ROWS OF THIS SEAT. 1 by the template 'for every input the law returns true; each argument reads behind the call as it read before'; 0 by the template 'total and deterministic' (their statements: YbulkeatgTotals.lean).
  GIVEN WITH THE SEED: the statements are not yours to turn. If you find one false, say at which input.
  Laid BY PROGRAM, IN A SANDBOX (cutbox-rows.mjs): the forced cells as the released guide's own fill.sh prints them over the translation ca7f0734432de3b5… (all of the seat's roots in one cut). By AI agents, Wed Nov 11 2026. No macro, syntax, notation, axiom, sorry.
-/
import Derived.Test.YbulkeatgChecked
import GoSem.Claim
import GoSem.ClaimJoined
import GoSem.ClaimMapViews
import Derived.JoinedTies
import Derived.KernelRfl
namespace Go.Proofs.Ybulkeatg
/- THE CELL 'sum', in the pinned program and in every row, IS THE sha256 OF THE DUMP (.gsa) THAT YbulkeatgProg.lean LOADS. Nothing in Lean hashes anything: it is a label: what it is worth is what the hold of that sum in a sandbox is worth. -/
noncomputable def Yba.pinned : Pinned := { name := "ybulkeatg", sum := "ca7f0734432de3b5aa7c839fa5edcf82677a705fd8ee9a548330e7017f6273a8", checked := Yba.checked }
namespace Rows
def none {H : Type} : Left H := { results := [], args := [] }

/-- 'parser.LawS6363CWhole': WHATEVER THE INPUT: true; the input reads as it did. -/
def lawS6363CWholeSpec : ChangeSpec := { name := "lawS6363CWhole", fn := fun _ => fun
  | [d1, d2, d3] => { results := [.lit (.bool true)], args := [d1, d2, d3] }
  | _ => none }
def lawS6363CWholeRow : OpenClaim := { program := "ybulkeatg", sum := "ca7f0734432de3b5aa7c839fa5edcf82677a705fd8ee9a548330e7017f6273a8", func := "example.com/ashlar/ashlar/parser.LawS6363CWhole", spec := "lawS6363CWhole", apart := false }
def LawS6363CWholeSaid : Prop := lawS6363CWholeRow.holds Yba.pinned (OpenSpec.ofChange lawS6363CWholeSpec)

/-- ITS FALSE NEIGHBOUR: 'it returns false'. Refute it at one input. -/
def lawS6363CWholeWrong : ChangeSpec := { name := "lawS6363CWhole", fn := fun _ => fun
  | [d1, d2, d3] => { results := [.lit (.bool false)], args := [d1, d2, d3] }
  | _ => none }
def LawS6363CWholeWrongFalsely : Prop := lawS6363CWholeRow.holds Yba.pinned (OpenSpec.ofChange lawS6363CWholeWrong)

end Rows
end Go.Proofs.Ybulkeatg
