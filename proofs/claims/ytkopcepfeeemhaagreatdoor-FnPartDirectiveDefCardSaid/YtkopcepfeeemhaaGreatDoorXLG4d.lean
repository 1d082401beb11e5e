/- A part of the proof of what the last text of this claim says: LG4d. Conditions: none. -/
import Derived.Test.YtkopcepfeeemhaaGreatDoorCards
import Derived.SevenTiedAt
import Derived.KernelRfl
set_option maxRecDepth 100000
namespace Go.Proofs.YtkopcepfeeemhaaGreatDoor
open Go
theorem f4Goes : false = Rows.fnPartDirectiveDefRow.goesBy Tryz.prog := by kernel_rfl
theorem f4ByText : Rows.fnPartDirectiveDefRow.wfByText (OpenSpec.ofChange Rows.fnPartDirectiveDefSpec) = true := by kernel_rfl
end Go.Proofs.YtkopcepfeeemhaaGreatDoor
