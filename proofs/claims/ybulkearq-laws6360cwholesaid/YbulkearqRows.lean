/-
  No cell of these rows narrows 'for every input' (looked for: loops, veiled, ifaces, maps, wideKeys, modest, calm, conditions, laid).
  DERIVED. THE GIVEN ROWS OF THIS SEAT. 2 by the template 'for every input the law returns true; each argument reads behind the call as it read before'; 0 by the template 'total and deterministic' (their statements: YbulkearqTotals.lean).
  GIVEN WITH THE SEED: the statements are not yours to turn. If you find one false, say at which input.
  Laid BY PROGRAM, IN A SANDBOX (cutbox-rows.mjs): the forced cells as the released guide's own fill.sh prints them over the translation 969f73bcd0bf8a4d… (all of the seat's roots in one cut). By AI agents, Wed Nov 11 2026. No macro, syntax, notation, axiom, sorry.
-/
import Derived.Test.YbulkearqChecked
import GoSem.Claim
import GoSem.ClaimJoined
import GoSem.ClaimMapViews
import Derived.JoinedTies
import Derived.KernelRfl
namespace Go.Proofs.Ybulkearq
/- THE CELL 'sum', in the pinned program and in every row, IS THE sha256 OF THE DUMP (.gsa) THAT YbulkearqProg.lean LOADS. Nothing in Lean hashes anything: it is a label: what it is worth is what the hold of that sum in a sandbox is worth. -/
noncomputable def Yba.pinned : Pinned := { name := "ybulkearq", sum := "969f73bcd0bf8a4ddd82f20a7e28ebf9dac6965c3775b40f98f5af77e88cb8a2", checked := Yba.checked }
namespace Rows
def none {H : Type} : Left H := { results := [], args := [] }

/-- 'fastpath.LawS6360AWhole': WHATEVER THE INPUT: true; the input reads as it did. -/
def lawS6360AWholeSpec : ChangeSpec := { name := "lawS6360AWhole", fn := fun _ => fun
  | [d1, d2, d3, d4] => { results := [.lit (.bool true)], args := [d1, d2, d3, d4] }
  | _ => none }
def lawS6360AWholeRow : OpenClaim := { program := "ybulkearq", sum := "969f73bcd0bf8a4ddd82f20a7e28ebf9dac6965c3775b40f98f5af77e88cb8a2", func := "example.com/tagsweep/tagsweep/pkg/fastpath.LawS6360AWhole", spec := "lawS6360AWhole", inPlace := ["internal/bytealg.IndexByte"], apart := false }
def LawS6360AWholeSaid : Prop := lawS6360AWholeRow.holds Yba.pinned (OpenSpec.ofChange lawS6360AWholeSpec)

/-- ITS FALSE NEIGHBOUR: 'it returns false'. Refute it at one input. -/
def lawS6360AWholeWrong : ChangeSpec := { name := "lawS6360AWhole", fn := fun _ => fun
  | [d1, d2, d3, d4] => { results := [.lit (.bool false)], args := [d1, d2, d3, d4] }
  | _ => none }
def LawS6360AWholeWrongFalsely : Prop := lawS6360AWholeRow.holds Yba.pinned (OpenSpec.ofChange lawS6360AWholeWrong)

/-- 'proxy.LawS6360CWhole': WHATEVER THE INPUT: true; the input reads as it did. -/
def lawS6360CWholeSpec : ChangeSpec := { name := "lawS6360CWhole", fn := fun _ => fun
  | [d1, d2] => { results := [.lit (.bool true)], args := [d1, d2] }
  | _ => none }
def lawS6360CWholeRow : OpenClaim := { program := "ybulkearq", sum := "969f73bcd0bf8a4ddd82f20a7e28ebf9dac6965c3775b40f98f5af77e88cb8a2", func := "example.com/tagsweep/tagsweep/pkg/proxy.LawS6360CWhole", spec := "lawS6360CWhole", inPlace := ["internal/abi.NoEscape"], apart := false }
def LawS6360CWholeSaid : Prop := lawS6360CWholeRow.holds Yba.pinned (OpenSpec.ofChange lawS6360CWholeSpec)

/-- ITS FALSE NEIGHBOUR: 'it returns false'. Refute it at one input. -/
def lawS6360CWholeWrong : ChangeSpec := { name := "lawS6360CWhole", fn := fun _ => fun
  | [d1, d2] => { results := [.lit (.bool false)], args := [d1, d2] }
  | _ => none }
def LawS6360CWholeWrongFalsely : Prop := lawS6360CWholeRow.holds Yba.pinned (OpenSpec.ofChange lawS6360CWholeWrong)

end Rows
end Go.Proofs.Ybulkearq
