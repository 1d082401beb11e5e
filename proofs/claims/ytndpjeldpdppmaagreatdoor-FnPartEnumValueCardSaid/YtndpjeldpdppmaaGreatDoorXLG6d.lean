/- A part of the proof of what the last text of this claim says: LG6d. Conditions: none. -/
import Derived.Test.YtndpjeldpdppmaaGreatDoorCards
import Derived.SevenTiedAt
import Derived.KernelRfl
set_option maxRecDepth 100000
namespace Go.Proofs.YtndpjeldpdppmaaGreatDoor
open Go
theorem f6Goes : false = Rows.fnPartEnumValueRow.goesBy Tryz.prog := by kernel_rfl
theorem f6ByText : Rows.fnPartEnumValueRow.wfByText (OpenSpec.ofChange Rows.fnPartEnumValueSpec) = true := by kernel_rfl
end Go.Proofs.YtndpjeldpdppmaaGreatDoor
