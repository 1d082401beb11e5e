/- A part of the proof of what the last text of this claim says: LFDr4. Conditions: none. -/
import Derived.Test.YtpkfgijailfkjaaGreatDoorRows
import Derived.JoinedOf
import Derived.KernelRfl
set_option maxRecDepth 100000
namespace Go.Proofs.YtpkfgijailfkjaaGreatDoor
open Go
theorem seatFact1 : (fun (P : Program) => (laidOutB P : Bool)) Tryz.prog = true := by kernel_rfl
theorem seatFact2 : (fun (P : Program) => (mapsRowed P : Bool)) Tryz.prog = true := by kernel_rfl
theorem seatFact24 : (fun (P : Program) => (P.stopsHeard : Bool)) Tryz.prog = true := by kernel_rfl
theorem seatFact22 : (fun (P : Program) (c : OpenClaim) => ((c.plainKeys == P.plainKeys) : Bool)) Tryz.prog Rows.fnRefusedLinesRow = true := by kernel_rfl
end Go.Proofs.YtpkfgijailfkjaaGreatDoor
