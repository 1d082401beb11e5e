/- A part of the proof of what the last text of this claim says: LG4a. Conditions: none. -/
import Derived.Test.YtpkfgijailfkjaaGreatDoorRows
import Derived.JoinedOf
import Derived.KernelRfl
set_option maxRecDepth 100000
namespace Go.Proofs.YtpkfgijailfkjaaGreatDoor
open Go
theorem f4Fact9 : (fun (P : Program) (f : FuncId) (c : OpenClaim) => ((c.inPlace == P.inPlace f) : Bool)) Tryz.prog 4 Rows.fnRefusedLinesRow = true := by kernel_rfl
theorem f4Fact10 : (fun (P : Program) (f : FuncId) (c : OpenClaim) => ((c.unfollowed == P.unfollowed f) : Bool)) Tryz.prog 4 Rows.fnRefusedLinesRow = true := by kernel_rfl
end Go.Proofs.YtpkfgijailfkjaaGreatDoor
