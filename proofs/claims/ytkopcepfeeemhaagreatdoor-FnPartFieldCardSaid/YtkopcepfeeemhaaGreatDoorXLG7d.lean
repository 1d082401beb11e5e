/- A part of the proof of what the last text of this claim says: LG7d. Conditions: none. -/
import Derived.Test.YtkopcepfeeemhaaGreatDoorCards
import Derived.SevenTiedAt
import Derived.KernelRfl
set_option maxRecDepth 100000
namespace Go.Proofs.YtkopcepfeeemhaaGreatDoor
open Go
theorem f7Goes : false = Rows.fnPartFieldRow.goesBy Tryz.prog := by kernel_rfl
theorem f7ByText : Rows.fnPartFieldRow.wfByText (OpenSpec.ofChange Rows.fnPartFieldSpec) = true := by kernel_rfl
end Go.Proofs.YtkopcepfeeemhaaGreatDoor
