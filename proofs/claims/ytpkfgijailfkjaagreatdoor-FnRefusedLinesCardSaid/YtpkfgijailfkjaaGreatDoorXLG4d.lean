/- A part of the proof of what the last text of this claim says: LG4d. Conditions: none. -/
import Derived.Test.YtpkfgijailfkjaaGreatDoorCards
import Derived.SevenTiedAt
import Derived.KernelRfl
set_option maxRecDepth 100000
namespace Go.Proofs.YtpkfgijailfkjaaGreatDoor
open Go
theorem f4Goes : false = Rows.fnRefusedLinesRow.goesBy Tryz.prog := by kernel_rfl
theorem f4ByText : Rows.fnRefusedLinesRow.wfByText (OpenSpec.ofChange Rows.fnRefusedLinesSpec) = true := by kernel_rfl
end Go.Proofs.YtpkfgijailfkjaaGreatDoor
