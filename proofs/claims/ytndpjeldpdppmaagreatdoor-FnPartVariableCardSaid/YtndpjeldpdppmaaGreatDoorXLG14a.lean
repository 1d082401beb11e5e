/- A part of the proof of what the last text of this claim says: LG14a. Conditions: none. -/
import Derived.Test.YtndpjeldpdppmaaGreatDoorRows
import Derived.JoinedOf
import Derived.KernelRfl
set_option maxRecDepth 100000
namespace Go.Proofs.YtndpjeldpdppmaaGreatDoor
open Go
theorem f14Fact9 : (fun (P : Program) (f : FuncId) (c : OpenClaim) => ((c.inPlace == P.inPlace f) : Bool)) Tryz.prog 14 Rows.fnPartVariableRow = true := by kernel_rfl
theorem f14Fact10 : (fun (P : Program) (f : FuncId) (c : OpenClaim) => ((c.unfollowed == P.unfollowed f) : Bool)) Tryz.prog 14 Rows.fnPartVariableRow = true := by kernel_rfl
end Go.Proofs.YtndpjeldpdppmaaGreatDoor
