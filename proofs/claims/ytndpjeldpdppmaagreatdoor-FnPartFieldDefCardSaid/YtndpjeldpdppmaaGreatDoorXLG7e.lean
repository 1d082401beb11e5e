/- A part of the proof of what the last text of this claim says: LG7e. Conditions: none. -/
import Derived.Test.YtndpjeldpdppmaaGreatDoorCards
import Derived.SevenTiedAt
import Derived.KernelRfl
set_option maxRecDepth 100000
namespace Go.Proofs.YtndpjeldpdppmaaGreatDoor
open Go
theorem f7Named : Tryz.prog.funcNamed "given.example/pub-antiphonal/laws.FnPartFieldDef" = some 7 := by kernel_rfl
end Go.Proofs.YtndpjeldpdppmaaGreatDoor
