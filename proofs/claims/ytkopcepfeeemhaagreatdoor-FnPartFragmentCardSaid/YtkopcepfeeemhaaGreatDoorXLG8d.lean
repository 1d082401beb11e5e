/- A part of the proof of what the last text of this claim says: LG8d. Conditions: none. -/
import Derived.Test.YtkopcepfeeemhaaGreatDoorCards
import Derived.SevenTiedAt
import Derived.KernelRfl
set_option maxRecDepth 100000
namespace Go.Proofs.YtkopcepfeeemhaaGreatDoor
open Go
theorem f8Goes : false = Rows.fnPartFragmentRow.goesBy Tryz.prog := by kernel_rfl
theorem f8ByText : Rows.fnPartFragmentRow.wfByText (OpenSpec.ofChange Rows.fnPartFragmentSpec) = true := by kernel_rfl
end Go.Proofs.YtkopcepfeeemhaaGreatDoor
