/- A part of the proof of what the last text of this claim says: LG13d. Conditions: none. -/
import Derived.Test.YtndpjeldpdppmaaGreatDoorCards
import Derived.SevenTiedAt
import Derived.KernelRfl
set_option maxRecDepth 100000
namespace Go.Proofs.YtndpjeldpdppmaaGreatDoor
open Go
theorem f13Goes : false = Rows.fnPartUnionRow.goesBy Tryz.prog := by kernel_rfl
theorem f13ByText : Rows.fnPartUnionRow.wfByText (OpenSpec.ofChange Rows.fnPartUnionSpec) = true := by kernel_rfl
end Go.Proofs.YtndpjeldpdppmaaGreatDoor
