/- A part of the proof of what the last text of this claim says: LG4d. Conditions: none. -/
import Derived.Test.YtndpjeldpdppmaaGreatDoorCards
import Derived.SevenTiedAt
import Derived.KernelRfl
set_option maxRecDepth 100000
namespace Go.Proofs.YtndpjeldpdppmaaGreatDoor
open Go
theorem f4Goes : false = Rows.fnPartDescriptionRow.goesBy Tryz.prog := by kernel_rfl
theorem f4ByText : Rows.fnPartDescriptionRow.wfByText (OpenSpec.ofChange Rows.fnPartDescriptionSpec) = true := by kernel_rfl
end Go.Proofs.YtndpjeldpdppmaaGreatDoor
