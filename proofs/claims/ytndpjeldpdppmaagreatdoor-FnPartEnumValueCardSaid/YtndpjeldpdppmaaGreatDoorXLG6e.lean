/- A part of the proof of what the last text of this claim says: LG6e. Conditions: none. -/
import Derived.Test.YtndpjeldpdppmaaGreatDoorCards
import Derived.SevenTiedAt
import Derived.KernelRfl
set_option maxRecDepth 100000
namespace Go.Proofs.YtndpjeldpdppmaaGreatDoor
open Go
theorem f6Named : Tryz.prog.funcNamed "given.example/pub-antiphonal/laws.FnPartEnumValue" = some 6 := by kernel_rfl
end Go.Proofs.YtndpjeldpdppmaaGreatDoor
