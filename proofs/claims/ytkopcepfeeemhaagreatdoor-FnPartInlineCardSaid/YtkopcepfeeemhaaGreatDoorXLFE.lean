/- A part of the proof of what the last text of this claim says: LFE. Conditions: none. -/
import Derived.Test.YtkopcepfeeemhaaGreatDoorCards
import Derived.SevenTiedAt
import Derived.KernelRfl
set_option maxRecDepth 100000
namespace Go.Proofs.YtkopcepfeeemhaaGreatDoor
open Go
theorem seatMain : Tryz.prog.mainIs = some (true, "6f6ada3404007181ebb1b90908a1cb8a93fca6e4f6a10eabc06a84d7ff0978c5".toList) := by kernel_rfl
theorem seatLooks : true = Tryz.prog.looks [] := by kernel_rfl
theorem seatStandIn : ([22, 5, 23].all fun u => !Tryz.prog.wantsStandIn u) = true := by kernel_rfl
end Go.Proofs.YtkopcepfeeemhaaGreatDoor
