/- A part of the proof of what the last text of this claim says: LG4c. Conditions: none. -/
import Derived.Test.YtpkfgijailfkjaaGreatDoorRows
import Derived.JoinedOf
import Derived.KernelRfl
import Derived.Test.YtpkfgijailfkjaaGreatDoorXLFA
import Derived.Test.YtpkfgijailfkjaaGreatDoorXLFBr4
import Derived.Test.YtpkfgijailfkjaaGreatDoorXLFCr4
import Derived.Test.YtpkfgijailfkjaaGreatDoorXLFDr4
import Derived.Test.YtpkfgijailfkjaaGreatDoorXLG4a
import Derived.Test.YtpkfgijailfkjaaGreatDoorXLG4b
set_option maxRecDepth 100000
namespace Go.Proofs.YtpkfgijailfkjaaGreatDoor
open Go
theorem both {a b : Bool} (h : a = true) (k : b = true) : (a && b) = true := by rw [h, k]; rfl
theorem f4Closed : joinedFacts Tryz.prog 4 Tryz.f4 Rows.fnRefusedLinesSpec Rows.fnRefusedLinesRow = true := by
  unfold joinedFacts
  have g0 : (fun (P : Program) (f : FuncId) (fn : Func) (s : ChangeSpec) (c : OpenClaim) => (c.wf (OpenSpec.ofChange s) : Bool)) Tryz.prog 4 Tryz.f4 Rows.fnRefusedLinesSpec Rows.fnRefusedLinesRow = true := by kernel_rfl
  have g3 : (fun (P : Program) (f : FuncId) (fn : Func) (s : ChangeSpec) (c : OpenClaim) => (fn.params.all (P.readableRec ·) : Bool)) Tryz.prog 4 Tryz.f4 Rows.fnRefusedLinesSpec Rows.fnRefusedLinesRow = true := by kernel_rfl
  have g4 : (fun (P : Program) (f : FuncId) (fn : Func) (s : ChangeSpec) (c : OpenClaim) => (namedTie P c.named s.vars : Bool)) Tryz.prog 4 Tryz.f4 Rows.fnRefusedLinesSpec Rows.fnRefusedLinesRow = true := by kernel_rfl
  have g5 : (fun (P : Program) (f : FuncId) (fn : Func) (s : ChangeSpec) (c : OpenClaim) => ((c.stops == []) : Bool)) Tryz.prog 4 Tryz.f4 Rows.fnRefusedLinesSpec Rows.fnRefusedLinesRow = true := by kernel_rfl
  have g6 : (fun (P : Program) (f : FuncId) (fn : Func) (s : ChangeSpec) (c : OpenClaim) => ((P.stops == []) : Bool)) Tryz.prog 4 Tryz.f4 Rows.fnRefusedLinesSpec Rows.fnRefusedLinesRow = true := by kernel_rfl
  have g7 : (fun (P : Program) (f : FuncId) (fn : Func) (s : ChangeSpec) (c : OpenClaim) => ((c.knobs == []) : Bool)) Tryz.prog 4 Tryz.f4 Rows.fnRefusedLinesSpec Rows.fnRefusedLinesRow = true := by kernel_rfl
  have g8 : (fun (P : Program) (f : FuncId) (fn : Func) (s : ChangeSpec) (c : OpenClaim) => ((P.stopKnobs == []) : Bool)) Tryz.prog 4 Tryz.f4 Rows.fnRefusedLinesSpec Rows.fnRefusedLinesRow = true := by kernel_rfl
  have g13 : (fun (P : Program) (f : FuncId) (fn : Func) (s : ChangeSpec) (c : OpenClaim) => ((c.maps == (fn.params.toList ++ s.plain.varTypes P).any (P.mapsRec ·)) : Bool)) Tryz.prog 4 Tryz.f4 Rows.fnRefusedLinesSpec Rows.fnRefusedLinesRow = true := by kernel_rfl
  have g14 : (fun (P : Program) (f : FuncId) (fn : Func) (s : ChangeSpec) (c : OpenClaim) => ((c.ifaces == (fn.params.toList ++ s.plain.varTypes P).any (P.ifacesRec ·)) : Bool)) Tryz.prog 4 Tryz.f4 Rows.fnRefusedLinesSpec Rows.fnRefusedLinesRow = true := by kernel_rfl
  have g15 : (fun (P : Program) (f : FuncId) (fn : Func) (s : ChangeSpec) (c : OpenClaim) => ((c.mapsOut == P.mapsAmong fn.resultTypes.toList) : Bool)) Tryz.prog 4 Tryz.f4 Rows.fnRefusedLinesSpec Rows.fnRefusedLinesRow = true := by kernel_rfl
  have g16 : (fun (P : Program) (f : FuncId) (fn : Func) (s : ChangeSpec) (c : OpenClaim) => ((c.loops == (fn.params.toList ++ s.plain.varTypes P).any (P.loopsFrom ·)) : Bool)) Tryz.prog 4 Tryz.f4 Rows.fnRefusedLinesSpec Rows.fnRefusedLinesRow = true := by kernel_rfl
  have g17 : (fun (P : Program) (f : FuncId) (fn : Func) (s : ChangeSpec) (c : OpenClaim) => ((c.wideKeys == (fn.params.toList ++ s.plain.varTypes P ++ fn.resultTypes.toList).any (P.wideKeysFrom ·)) : Bool)) Tryz.prog 4 Tryz.f4 Rows.fnRefusedLinesSpec Rows.fnRefusedLinesRow = true := by kernel_rfl
  have g18 : (fun (P : Program) (f : FuncId) (fn : Func) (s : ChangeSpec) (c : OpenClaim) => (s.vars.all (P.varReadable ·) : Bool)) Tryz.prog 4 Tryz.f4 Rows.fnRefusedLinesSpec Rows.fnRefusedLinesRow = true := by kernel_rfl
  have g19 : (fun (P : Program) (f : FuncId) (fn : Func) (s : ChangeSpec) (c : OpenClaim) => (fn.resultTypes.all (fun t => P.readableRec t && decide (t < P.types.size)) : Bool)) Tryz.prog 4 Tryz.f4 Rows.fnRefusedLinesSpec Rows.fnRefusedLinesRow = true := by kernel_rfl
  have g20 : (fun (P : Program) (f : FuncId) (fn : Func) (s : ChangeSpec) (c : OpenClaim) => ((c.ifacesOut == fn.resultTypes.toList.any (P.ifacesRec ·)) : Bool)) Tryz.prog 4 Tryz.f4 Rows.fnRefusedLinesSpec Rows.fnRefusedLinesRow = true := by kernel_rfl
  have g21 : (fun (P : Program) (f : FuncId) (fn : Func) (s : ChangeSpec) (c : OpenClaim) => ((c.loopsOut == fn.resultTypes.toList.any (P.loopsFrom ·)) : Bool)) Tryz.prog 4 Tryz.f4 Rows.fnRefusedLinesSpec Rows.fnRefusedLinesRow = true := by kernel_rfl
  have g23 : (fun (P : Program) (f : FuncId) (fn : Func) (s : ChangeSpec) (c : OpenClaim) => (c.shortTexts.isNone : Bool)) Tryz.prog 4 Tryz.f4 Rows.fnRefusedLinesSpec Rows.fnRefusedLinesRow = true := by kernel_rfl
  have g28 : (fun (P : Program) (f : FuncId) (fn : Func) (s : ChangeSpec) (c : OpenClaim) => ((c.kinds == (if c.domain.isEmpty then [] else fn.params.toList.map fun t => match P.underlying t with | some (.int k) => some k | _ => none)) : Bool)) Tryz.prog 4 Tryz.f4 Rows.fnRefusedLinesSpec Rows.fnRefusedLinesRow = true := by kernel_rfl
  have g29 : (fun (P : Program) (f : FuncId) (fn : Func) (s : ChangeSpec) (c : OpenClaim) => ((c.pinned == c.pinnedBy) : Bool)) Tryz.prog 4 Tryz.f4 Rows.fnRefusedLinesSpec Rows.fnRefusedLinesRow = true := by kernel_rfl
  have g30 : (fun (P : Program) (f : FuncId) (fn : Func) (s : ChangeSpec) (c : OpenClaim) => ((c.veiled == (fn.params.toList ++ s.plain.varTypes P ++ fn.resultTypes.toList).any (P.veiledRec ·)) : Bool)) Tryz.prog 4 Tryz.f4 Rows.fnRefusedLinesSpec Rows.fnRefusedLinesRow = true := by kernel_rfl
  have g31 : (fun (P : Program) (f : FuncId) (fn : Func) (s : ChangeSpec) (c : OpenClaim) => (c.veiledFits P fn.params.toList (fn.params.toList ++ s.plain.varTypes P ++ fn.resultTypes.toList) : Bool)) Tryz.prog 4 Tryz.f4 Rows.fnRefusedLinesSpec Rows.fnRefusedLinesRow = true := by kernel_rfl
  exact (both (both (both (both (both (both (both (both (both (both (both (both (both (both (both (both (both (both (both (both (both (both (both (both (both (both (both (both (both (both (both g0 seatFact1) seatFact2) g3) g4) g5) g6) g7) g8) f4Fact9) f4Fact10) f4Fact11) f4Fact12) g13) g14) g15) g16) g17) g18) g19) g20) g21) seatFact22) g23) seatFact24) seatFact25) seatFact26) seatFact27) g28) g29) g30) g31)
end Go.Proofs.YtpkfgijailfkjaaGreatDoor
