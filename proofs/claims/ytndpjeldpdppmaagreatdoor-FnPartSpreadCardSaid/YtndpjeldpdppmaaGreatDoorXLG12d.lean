/- A part of the proof of what the last text of this claim says: LG12d. Conditions: none. -/
import Derived.Test.YtndpjeldpdppmaaGreatDoorCards
import Derived.SevenTiedAt
import Derived.KernelRfl
set_option maxRecDepth 100000
namespace Go.Proofs.YtndpjeldpdppmaaGreatDoor
open Go
theorem f12Goes : false = Rows.fnPartSpreadRow.goesBy Tryz.prog := by kernel_rfl
theorem f12ByText : Rows.fnPartSpreadRow.wfByText (OpenSpec.ofChange Rows.fnPartSpreadSpec) = true := by kernel_rfl
end Go.Proofs.YtndpjeldpdppmaaGreatDoor
