/- A part of the proof of what the last text of this claim says: LG3e. Conditions: none. -/
import Derived.Test.YtpkfgijailfkjaaGreatDoorCards
import Derived.SevenTiedAt
import Derived.KernelRfl
set_option maxRecDepth 100000
namespace Go.Proofs.YtpkfgijailfkjaaGreatDoor
open Go
theorem f3Named : Tryz.prog.funcNamed "given.example/pub-antiphonal/laws.FnRefusedBehind" = some 3 := by kernel_rfl
end Go.Proofs.YtpkfgijailfkjaaGreatDoor
