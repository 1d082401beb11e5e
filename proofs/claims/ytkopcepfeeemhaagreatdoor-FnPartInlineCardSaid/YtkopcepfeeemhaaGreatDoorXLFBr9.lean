/- A part of the proof of what the last text of this claim says: LFBr9. Conditions: none. -/
import Derived.Test.YtkopcepfeeemhaaGreatDoorRows
import Derived.JoinedOf
import Derived.KernelRfl
set_option maxRecDepth 100000
namespace Go.Proofs.YtkopcepfeeemhaaGreatDoor
open Go
theorem seatFact26 : (fun (P : Program) (c : OpenClaim) => ((c.lifted == P.liftsFinal) : Bool)) Tryz.prog Rows.fnPartInlineRow = true := by kernel_rfl
end Go.Proofs.YtkopcepfeeemhaaGreatDoor
