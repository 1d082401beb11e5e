/- A part of the proof of what the last text of this claim says: LG6d. Conditions: none. -/
import Derived.Test.YtkopcepfeeemhaaGreatDoorCards
import Derived.SevenTiedAt
import Derived.KernelRfl
set_option maxRecDepth 100000
namespace Go.Proofs.YtkopcepfeeemhaaGreatDoor
open Go
theorem f6Goes : false = Rows.fnPartExtendRow.goesBy Tryz.prog := by kernel_rfl
theorem f6ByText : Rows.fnPartExtendRow.wfByText (OpenSpec.ofChange Rows.fnPartExtendSpec) = true := by kernel_rfl
end Go.Proofs.YtkopcepfeeemhaaGreatDoor
