/- A part of the proof of what the last text of this claim says: LG9b. Conditions: none. -/
import Derived.Test.YtkopcepfeeemhaaGreatDoorRows
import Derived.JoinedOf
import Derived.KernelRfl
set_option maxRecDepth 100000
namespace Go.Proofs.YtkopcepfeeemhaaGreatDoor
open Go
theorem f9Fact11 : (fun (P : Program) (f : FuncId) (c : OpenClaim) => ((c.recurses == P.recurses f) : Bool)) Tryz.prog 9 Rows.fnPartInlineRow = true := by kernel_rfl
theorem f9Fact12 : (fun (P : Program) (f : FuncId) (c : OpenClaim) => ((c.named == P.varsNamed f) : Bool)) Tryz.prog 9 Rows.fnPartInlineRow = true := by kernel_rfl
end Go.Proofs.YtkopcepfeeemhaaGreatDoor
