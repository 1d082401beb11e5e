/- A part of the proof of what the last text of this claim says: LG9d. Conditions: none. -/
import Derived.Test.YtndpjeldpdppmaaGreatDoorCards
import Derived.SevenTiedAt
import Derived.KernelRfl
set_option maxRecDepth 100000
namespace Go.Proofs.YtndpjeldpdppmaaGreatDoor
open Go
theorem f9Goes : false = Rows.fnPartOperationTypeRow.goesBy Tryz.prog := by kernel_rfl
theorem f9ByText : Rows.fnPartOperationTypeRow.wfByText (OpenSpec.ofChange Rows.fnPartOperationTypeSpec) = true := by kernel_rfl
end Go.Proofs.YtndpjeldpdppmaaGreatDoor
