/-
  No cell of these rows narrows 'for every input' (looked for: loops, veiled, ifaces, maps, wideKeys, modest, calm, conditions, laid).
  DERIVED. THE GIVEN ROWS OF THIS SEAT. 2 by the template 'for every input the law returns true; each argument reads behind the call as it read before'; 0 by the template 'total and deterministic' (their statements: YbulkeavyTotals.lean).
  GIVEN WITH THE SEED: the statements are not yours to turn. If you find one false, say at which input.
  Laid BY PROGRAM, IN A SANDBOX (cutbox-rows.mjs): the forced cells as the released guide's own fill.sh prints them over the translation cf2860acb2e50527… (all of the seat's roots in one cut). By AI agents, Wed Nov 11 2026. No macro, syntax, notation, axiom, sorry.
-/
import Derived.Test.YbulkeavyChecked
import GoSem.Claim
import GoSem.ClaimJoined
import GoSem.ClaimMapViews
import Derived.JoinedTies
import Derived.KernelRfl
namespace Go.Proofs.Ybulkeavy
/- THE CELL 'sum', in the pinned program and in every row, IS THE sha256 OF THE DUMP (.gsa) THAT YbulkeavyProg.lean LOADS. Nothing in Lean hashes anything: it is a label: what it is worth is what the hold of that sum in a sandbox is worth. -/
noncomputable def Yba.pinned : Pinned := { name := "ybulkeavy", sum := "cf2860acb2e505276fb5bbc52ae540ad13c2c4491032f32110c0320baf78bddc", checked := Yba.checked }
namespace Rows
def none {H : Type} : Left H := { results := [], args := [] }

/-- 'scan.LawS6368AWhole': WHATEVER THE INPUT: true; the input reads as it did. -/
def lawS6368AWholeSpec : ChangeSpec := { name := "lawS6368AWhole", fn := fun _ => fun
  | [d1, d2, d3] => { results := [.lit (.bool true)], args := [d1, d2, d3] }
  | _ => none }
def lawS6368AWholeRow : OpenClaim := { program := "ybulkeavy", sum := "cf2860acb2e505276fb5bbc52ae540ad13c2c4491032f32110c0320baf78bddc", func := "example.com/tidemark/tidemark/scan.LawS6368AWhole", spec := "lawS6368AWhole", plainKeys := false, apart := false }
def LawS6368AWholeSaid : Prop := lawS6368AWholeRow.holds Yba.pinned (OpenSpec.ofChange lawS6368AWholeSpec)

/-- ITS FALSE NEIGHBOUR: 'it returns false'. Refute it at one input. -/
def lawS6368AWholeWrong : ChangeSpec := { name := "lawS6368AWhole", fn := fun _ => fun
  | [d1, d2, d3] => { results := [.lit (.bool false)], args := [d1, d2, d3] }
  | _ => none }
def LawS6368AWholeWrongFalsely : Prop := lawS6368AWholeRow.holds Yba.pinned (OpenSpec.ofChange lawS6368AWholeWrong)

/-- 'scan.LawS6368BWhole': WHATEVER THE INPUT: true; the input reads as it did. -/
def lawS6368BWholeSpec : ChangeSpec := { name := "lawS6368BWhole", fn := fun _ => fun
  | [d1, d2, d3, d4, d5, d6, d7] => { results := [.lit (.bool true)], args := [d1, d2, d3, d4, d5, d6, d7] }
  | _ => none }
def lawS6368BWholeRow : OpenClaim := { program := "ybulkeavy", sum := "cf2860acb2e505276fb5bbc52ae540ad13c2c4491032f32110c0320baf78bddc", func := "example.com/tidemark/tidemark/scan.LawS6368BWhole", spec := "lawS6368BWhole", plainKeys := false, apart := false }
def LawS6368BWholeSaid : Prop := lawS6368BWholeRow.holds Yba.pinned (OpenSpec.ofChange lawS6368BWholeSpec)

/-- ITS FALSE NEIGHBOUR: 'it returns false'. Refute it at one input. -/
def lawS6368BWholeWrong : ChangeSpec := { name := "lawS6368BWhole", fn := fun _ => fun
  | [d1, d2, d3, d4, d5, d6, d7] => { results := [.lit (.bool false)], args := [d1, d2, d3, d4, d5, d6, d7] }
  | _ => none }
def LawS6368BWholeWrongFalsely : Prop := lawS6368BWholeRow.holds Yba.pinned (OpenSpec.ofChange lawS6368BWholeWrong)

end Rows
end Go.Proofs.Ybulkeavy
