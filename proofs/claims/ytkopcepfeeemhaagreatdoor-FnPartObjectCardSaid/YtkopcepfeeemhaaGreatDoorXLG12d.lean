/- A part of the proof of what the last text of this claim says: LG12d. Conditions: none. -/
import Derived.Test.YtkopcepfeeemhaaGreatDoorCards
import Derived.SevenTiedAt
import Derived.KernelRfl
set_option maxRecDepth 100000
namespace Go.Proofs.YtkopcepfeeemhaaGreatDoor
open Go
theorem f12Goes : false = Rows.fnPartObjectRow.goesBy Tryz.prog := by kernel_rfl
theorem f12ByText : Rows.fnPartObjectRow.wfByText (OpenSpec.ofChange Rows.fnPartObjectSpec) = true := by kernel_rfl
end Go.Proofs.YtkopcepfeeemhaaGreatDoor
