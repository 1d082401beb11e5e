/- A part of the proof of what the last text of this claim says: LG9d. Conditions: none. -/
import Derived.Test.YtkopcepfeeemhaaGreatDoorCards
import Derived.SevenTiedAt
import Derived.KernelRfl
set_option maxRecDepth 100000
namespace Go.Proofs.YtkopcepfeeemhaaGreatDoor
open Go
theorem f9Goes : false = Rows.fnPartInlineRow.goesBy Tryz.prog := by kernel_rfl
theorem f9ByText : Rows.fnPartInlineRow.wfByText (OpenSpec.ofChange Rows.fnPartInlineSpec) = true := by kernel_rfl
end Go.Proofs.YtkopcepfeeemhaaGreatDoor
