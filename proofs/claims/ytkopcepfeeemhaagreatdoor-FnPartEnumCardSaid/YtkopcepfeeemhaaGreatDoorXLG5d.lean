/- A part of the proof of what the last text of this claim says: LG5d. Conditions: none. -/
import Derived.Test.YtkopcepfeeemhaaGreatDoorCards
import Derived.SevenTiedAt
import Derived.KernelRfl
set_option maxRecDepth 100000
namespace Go.Proofs.YtkopcepfeeemhaaGreatDoor
open Go
theorem f5Goes : false = Rows.fnPartEnumRow.goesBy Tryz.prog := by kernel_rfl
theorem f5ByText : Rows.fnPartEnumRow.wfByText (OpenSpec.ofChange Rows.fnPartEnumSpec) = true := by kernel_rfl
end Go.Proofs.YtkopcepfeeemhaaGreatDoor
