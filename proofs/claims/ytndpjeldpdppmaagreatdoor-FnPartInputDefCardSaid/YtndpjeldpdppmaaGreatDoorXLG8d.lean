/- A part of the proof of what the last text of this claim says: LG8d. Conditions: none. -/
import Derived.Test.YtndpjeldpdppmaaGreatDoorCards
import Derived.SevenTiedAt
import Derived.KernelRfl
set_option maxRecDepth 100000
namespace Go.Proofs.YtndpjeldpdppmaaGreatDoor
open Go
theorem f8Goes : false = Rows.fnPartInputDefRow.goesBy Tryz.prog := by kernel_rfl
theorem f8ByText : Rows.fnPartInputDefRow.wfByText (OpenSpec.ofChange Rows.fnPartInputDefSpec) = true := by kernel_rfl
end Go.Proofs.YtndpjeldpdppmaaGreatDoor
