/- A part of the proof of what the last text of this claim says: LG3d. Conditions: none. -/
import Derived.Test.YtndpjeldpdppmaaGreatDoorCards
import Derived.SevenTiedAt
import Derived.KernelRfl
set_option maxRecDepth 100000
namespace Go.Proofs.YtndpjeldpdppmaaGreatDoor
open Go
theorem f3Goes : false = Rows.fnPartArgumentRow.goesBy Tryz.prog := by kernel_rfl
theorem f3ByText : Rows.fnPartArgumentRow.wfByText (OpenSpec.ofChange Rows.fnPartArgumentSpec) = true := by kernel_rfl
end Go.Proofs.YtndpjeldpdppmaaGreatDoor
