/- A part of the proof of what the last text of this claim says: LG5e. Conditions: none. -/
import Derived.Test.YtndpjeldpdppmaaGreatDoorCards
import Derived.SevenTiedAt
import Derived.KernelRfl
set_option maxRecDepth 100000
namespace Go.Proofs.YtndpjeldpdppmaaGreatDoor
open Go
theorem f5Named : Tryz.prog.funcNamed "given.example/pub-antiphonal/laws.FnPartDirective" = some 5 := by kernel_rfl
end Go.Proofs.YtndpjeldpdppmaaGreatDoor
