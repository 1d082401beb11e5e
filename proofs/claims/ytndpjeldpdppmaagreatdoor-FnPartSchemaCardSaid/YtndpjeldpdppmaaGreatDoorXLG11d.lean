/- A part of the proof of what the last text of this claim says: LG11d. Conditions: none. -/
import Derived.Test.YtndpjeldpdppmaaGreatDoorCards
import Derived.SevenTiedAt
import Derived.KernelRfl
set_option maxRecDepth 100000
namespace Go.Proofs.YtndpjeldpdppmaaGreatDoor
open Go
theorem f11Goes : false = Rows.fnPartSchemaRow.goesBy Tryz.prog := by kernel_rfl
theorem f11ByText : Rows.fnPartSchemaRow.wfByText (OpenSpec.ofChange Rows.fnPartSchemaSpec) = true := by kernel_rfl
end Go.Proofs.YtndpjeldpdppmaaGreatDoor
