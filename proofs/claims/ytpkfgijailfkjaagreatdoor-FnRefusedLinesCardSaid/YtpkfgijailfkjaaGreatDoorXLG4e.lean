/- A part of the proof of what the last text of this claim says: LG4e. Conditions: none. -/
import Derived.Test.YtpkfgijailfkjaaGreatDoorCards
import Derived.SevenTiedAt
import Derived.KernelRfl
set_option maxRecDepth 100000
namespace Go.Proofs.YtpkfgijailfkjaaGreatDoor
open Go
theorem f4Named : Tryz.prog.funcNamed "given.example/pub-antiphonal/laws.FnRefusedLines" = some 4 := by kernel_rfl
end Go.Proofs.YtpkfgijailfkjaaGreatDoor
