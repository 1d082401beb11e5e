/- A part of the proof of what the last text of this claim says: LG10d. Conditions: none. -/
import Derived.Test.YtndpjeldpdppmaaGreatDoorCards
import Derived.SevenTiedAt
import Derived.KernelRfl
set_option maxRecDepth 100000
namespace Go.Proofs.YtndpjeldpdppmaaGreatDoor
open Go
theorem f10Goes : false = Rows.fnPartScalarRow.goesBy Tryz.prog := by kernel_rfl
theorem f10ByText : Rows.fnPartScalarRow.wfByText (OpenSpec.ofChange Rows.fnPartScalarSpec) = true := by kernel_rfl
end Go.Proofs.YtndpjeldpdppmaaGreatDoor
