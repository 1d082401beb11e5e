/- A part of the proof of what the last text of this claim says: LFA. Conditions: none. -/
import Derived.Test.YtpkfgijailfkjaaGreatDoorRows
import Derived.JoinedOf
import Derived.KernelRfl
set_option maxRecDepth 100000
namespace Go.Proofs.YtpkfgijailfkjaaGreatDoor
open Go
theorem seatFact25 : (fun (P : Program) => (P.mayEnter : Bool)) Tryz.prog = true := by kernel_rfl
end Go.Proofs.YtpkfgijailfkjaaGreatDoor
