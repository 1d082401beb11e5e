/- A part of the proof of what the last text of this claim says: LFCr9. Conditions: none. -/
import Derived.Test.YtkopcepfeeemhaaGreatDoorRows
import Derived.JoinedOf
import Derived.KernelRfl
set_option maxRecDepth 100000
namespace Go.Proofs.YtkopcepfeeemhaaGreatDoor
open Go
theorem seatFact27 : (fun (P : Program) (c : OpenClaim) => ((P.make == some c.make) : Bool)) Tryz.prog Rows.fnPartInlineRow = true := by kernel_rfl
end Go.Proofs.YtkopcepfeeemhaaGreatDoor
