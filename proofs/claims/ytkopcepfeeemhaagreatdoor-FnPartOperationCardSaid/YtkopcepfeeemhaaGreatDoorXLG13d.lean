/- A part of the proof of what the last text of this claim says: LG13d. Conditions: none. -/
import Derived.Test.YtkopcepfeeemhaaGreatDoorCards
import Derived.SevenTiedAt
import Derived.KernelRfl
set_option maxRecDepth 100000
namespace Go.Proofs.YtkopcepfeeemhaaGreatDoor
open Go
theorem f13Goes : false = Rows.fnPartOperationRow.goesBy Tryz.prog := by kernel_rfl
theorem f13ByText : Rows.fnPartOperationRow.wfByText (OpenSpec.ofChange Rows.fnPartOperationSpec) = true := by kernel_rfl
end Go.Proofs.YtkopcepfeeemhaaGreatDoor
