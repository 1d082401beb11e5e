/- A part of the proof of what the last text of this claim says: LG14d. Conditions: none. -/
import Derived.Test.YtkopcepfeeemhaaGreatDoorCards
import Derived.SevenTiedAt
import Derived.KernelRfl
set_option maxRecDepth 100000
namespace Go.Proofs.YtkopcepfeeemhaaGreatDoor
open Go
theorem f14Goes : false = Rows.fnPartOtherRow.goesBy Tryz.prog := by kernel_rfl
theorem f14ByText : Rows.fnPartOtherRow.wfByText (OpenSpec.ofChange Rows.fnPartOtherSpec) = true := by kernel_rfl
end Go.Proofs.YtkopcepfeeemhaaGreatDoor
