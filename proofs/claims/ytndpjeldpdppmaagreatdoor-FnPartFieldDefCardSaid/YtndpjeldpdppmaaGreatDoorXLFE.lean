/- A part of the proof of what the last text of this claim says: LFE. Conditions: none. -/
import Derived.Test.YtndpjeldpdppmaaGreatDoorCards
import Derived.SevenTiedAt
import Derived.KernelRfl
set_option maxRecDepth 100000
namespace Go.Proofs.YtndpjeldpdppmaaGreatDoor
open Go
theorem seatMain : Tryz.prog.mainIs = some (true, "57afc8a67ab1d0aabd6319c49584f1b8d0aa2a595132c4d53a937ec616c7bca0".toList) := by kernel_rfl
theorem seatLooks : true = Tryz.prog.looks [] := by kernel_rfl
theorem seatStandIn : ([22, 5, 23].all fun u => !Tryz.prog.wantsStandIn u) = true := by kernel_rfl
end Go.Proofs.YtndpjeldpdppmaaGreatDoor
