/- A part of the proof of what the last text of this claim says: LG5d. Conditions: none. -/
import Derived.Test.YtndpjeldpdppmaaGreatDoorCards
import Derived.SevenTiedAt
import Derived.KernelRfl
set_option maxRecDepth 100000
namespace Go.Proofs.YtndpjeldpdppmaaGreatDoor
open Go
theorem f5Goes : false = Rows.fnPartDirectiveRow.goesBy Tryz.prog := by kernel_rfl
theorem f5ByText : Rows.fnPartDirectiveRow.wfByText (OpenSpec.ofChange Rows.fnPartDirectiveSpec) = true := by kernel_rfl
end Go.Proofs.YtndpjeldpdppmaaGreatDoor
