/- A part of the proof of what the last text of this claim says: LFE. Conditions: none. -/
import Derived.Test.YtpkfgijailfkjaaGreatDoorCards
import Derived.SevenTiedAt
import Derived.KernelRfl
set_option maxRecDepth 100000
namespace Go.Proofs.YtpkfgijailfkjaaGreatDoor
open Go
theorem seatMain : Tryz.prog.mainIs = some (true, "778d8ed50f14f4864b62a7b67cce8d2501fc150d8373f685dec6e173ef0d3e4b".toList) := by kernel_rfl
theorem seatLooks : true = Tryz.prog.looks [] := by kernel_rfl
theorem seatStandIn : ([9, 5].all fun u => !Tryz.prog.wantsStandIn u) = true := by kernel_rfl
end Go.Proofs.YtpkfgijailfkjaaGreatDoor
