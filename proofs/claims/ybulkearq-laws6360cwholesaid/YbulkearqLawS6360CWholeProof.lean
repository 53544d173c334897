/-
  'Rows.LawS6360CWholeSaid' ('proxy.LawS6360CWhole'): the statement, out of the frame, the walks and the Builder's contracts.
-/
import Derived.Test.YbulkearqFrame
import Derived.Test.YbulkearqBuilder
import Derived.Test.YbulkearqShelf
namespace Go.Proofs.Ybulkearq.lawS6360CWhole

/-- THE STATEMENT -/
theorem proved : Rows.LawS6360CWholeSaid :=
  Frame.over (fun B b bs c w h hlen hBw => Bld.writeByte B b bs c w h hlen hBw) (fun B b l w h hBw => Yba.Builder_String_any B b l w h hBw)
#print axioms proved
end Go.Proofs.Ybulkearq.lawS6360CWhole
