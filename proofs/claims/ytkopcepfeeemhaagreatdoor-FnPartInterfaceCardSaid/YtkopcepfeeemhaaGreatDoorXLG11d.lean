/- A part of the proof of what the last text of this claim says: LG11d. Conditions: none. -/
import Derived.Test.YtkopcepfeeemhaaGreatDoorCards
import Derived.SevenTiedAt
import Derived.KernelRfl
set_option maxRecDepth 100000
namespace Go.Proofs.YtkopcepfeeemhaaGreatDoor
open Go
theorem f11Goes : false = Rows.fnPartInterfaceRow.goesBy Tryz.prog := by kernel_rfl
theorem f11ByText : Rows.fnPartInterfaceRow.wfByText (OpenSpec.ofChange Rows.fnPartInterfaceSpec) = true := by kernel_rfl
end Go.Proofs.YtkopcepfeeemhaaGreatDoor
