/- A part of the proof of what the last text of this claim says: LG3d. Conditions: none. -/
import Derived.Test.YtpkfgijailfkjaaGreatDoorCards
import Derived.SevenTiedAt
import Derived.KernelRfl
set_option maxRecDepth 100000
namespace Go.Proofs.YtpkfgijailfkjaaGreatDoor
open Go
theorem f3Goes : false = Rows.fnRefusedBehindRow.goesBy Tryz.prog := by kernel_rfl
theorem f3ByText : Rows.fnRefusedBehindRow.wfByText (OpenSpec.ofChange Rows.fnRefusedBehindSpec) = true := by kernel_rfl
end Go.Proofs.YtpkfgijailfkjaaGreatDoor
