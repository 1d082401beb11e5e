/- A part of the proof of what the last text of this claim says: LG10d. Conditions: none. -/
import Derived.Test.YtkopcepfeeemhaaGreatDoorCards
import Derived.SevenTiedAt
import Derived.KernelRfl
set_option maxRecDepth 100000
namespace Go.Proofs.YtkopcepfeeemhaaGreatDoor
open Go
theorem f10Goes : false = Rows.fnPartInputRow.goesBy Tryz.prog := by kernel_rfl
theorem f10ByText : Rows.fnPartInputRow.wfByText (OpenSpec.ofChange Rows.fnPartInputSpec) = true := by kernel_rfl
end Go.Proofs.YtkopcepfeeemhaaGreatDoor
