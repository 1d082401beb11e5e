/- A part of the proof of what the last text of this claim says: LG7d. Conditions: none. -/
import Derived.Test.YtndpjeldpdppmaaGreatDoorCards
import Derived.SevenTiedAt
import Derived.KernelRfl
set_option maxRecDepth 100000
namespace Go.Proofs.YtndpjeldpdppmaaGreatDoor
open Go
theorem f7Goes : false = Rows.fnPartFieldDefRow.goesBy Tryz.prog := by kernel_rfl
theorem f7ByText : Rows.fnPartFieldDefRow.wfByText (OpenSpec.ofChange Rows.fnPartFieldDefSpec) = true := by kernel_rfl
end Go.Proofs.YtndpjeldpdppmaaGreatDoor
