/- A part of the proof of what the last text of this claim says: LG3d. Conditions: none. -/
import Derived.Test.YtkopcepfeeemhaaGreatDoorCards
import Derived.SevenTiedAt
import Derived.KernelRfl
set_option maxRecDepth 100000
namespace Go.Proofs.YtkopcepfeeemhaaGreatDoor
open Go
theorem f3Goes : false = Rows.fnPartArgumentsRow.goesBy Tryz.prog := by kernel_rfl
theorem f3ByText : Rows.fnPartArgumentsRow.wfByText (OpenSpec.ofChange Rows.fnPartArgumentsSpec) = true := by kernel_rfl
end Go.Proofs.YtkopcepfeeemhaaGreatDoor
