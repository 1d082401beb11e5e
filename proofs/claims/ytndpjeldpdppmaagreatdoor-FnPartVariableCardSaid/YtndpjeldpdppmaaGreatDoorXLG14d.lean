/- A part of the proof of what the last text of this claim says: LG14d. Conditions: none. -/
import Derived.Test.YtndpjeldpdppmaaGreatDoorCards
import Derived.SevenTiedAt
import Derived.KernelRfl
set_option maxRecDepth 100000
namespace Go.Proofs.YtndpjeldpdppmaaGreatDoor
open Go
theorem f14Goes : false = Rows.fnPartVariableRow.goesBy Tryz.prog := by kernel_rfl
theorem f14ByText : Rows.fnPartVariableRow.wfByText (OpenSpec.ofChange Rows.fnPartVariableSpec) = true := by kernel_rfl
end Go.Proofs.YtndpjeldpdppmaaGreatDoor
