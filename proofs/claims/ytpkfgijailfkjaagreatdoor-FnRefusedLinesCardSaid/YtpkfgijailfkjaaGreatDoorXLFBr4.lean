/- A part of the proof of what the last text of this claim says: LFBr4. Conditions: none. -/
import Derived.Test.YtpkfgijailfkjaaGreatDoorRows
import Derived.JoinedOf
import Derived.KernelRfl
set_option maxRecDepth 100000
namespace Go.Proofs.YtpkfgijailfkjaaGreatDoor
open Go
theorem seatFact26 : (fun (P : Program) (c : OpenClaim) => ((c.lifted == P.liftsFinal) : Bool)) Tryz.prog Rows.fnRefusedLinesRow = true := by kernel_rfl
end Go.Proofs.YtpkfgijailfkjaaGreatDoor
