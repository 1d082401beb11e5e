/- A part of the proof of what the last text of this claim says: LG4b. Conditions: none. -/
import Derived.Test.YtpkfgijailfkjaaGreatDoorRows
import Derived.JoinedOf
import Derived.KernelRfl
set_option maxRecDepth 100000
namespace Go.Proofs.YtpkfgijailfkjaaGreatDoor
open Go
theorem f4Fact11 : (fun (P : Program) (f : FuncId) (c : OpenClaim) => ((c.recurses == P.recurses f) : Bool)) Tryz.prog 4 Rows.fnRefusedLinesRow = true := by kernel_rfl
theorem f4Fact12 : (fun (P : Program) (f : FuncId) (c : OpenClaim) => ((c.named == P.varsNamed f) : Bool)) Tryz.prog 4 Rows.fnRefusedLinesRow = true := by kernel_rfl
end Go.Proofs.YtpkfgijailfkjaaGreatDoor
