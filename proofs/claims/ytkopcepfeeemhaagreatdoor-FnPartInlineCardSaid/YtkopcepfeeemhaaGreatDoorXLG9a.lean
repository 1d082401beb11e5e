/- A part of the proof of what the last text of this claim says: LG9a. Conditions: none. -/
import Derived.Test.YtkopcepfeeemhaaGreatDoorRows
import Derived.JoinedOf
import Derived.KernelRfl
set_option maxRecDepth 100000
namespace Go.Proofs.YtkopcepfeeemhaaGreatDoor
open Go
theorem f9Fact9 : (fun (P : Program) (f : FuncId) (c : OpenClaim) => ((c.inPlace == P.inPlace f) : Bool)) Tryz.prog 9 Rows.fnPartInlineRow = true := by kernel_rfl
theorem f9Fact10 : (fun (P : Program) (f : FuncId) (c : OpenClaim) => ((c.unfollowed == P.unfollowed f) : Bool)) Tryz.prog 9 Rows.fnPartInlineRow = true := by kernel_rfl
end Go.Proofs.YtkopcepfeeemhaaGreatDoor
