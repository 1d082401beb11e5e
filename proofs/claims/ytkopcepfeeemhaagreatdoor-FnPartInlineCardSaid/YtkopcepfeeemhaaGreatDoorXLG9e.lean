/- A part of the proof of what the last text of this claim says: LG9e. Conditions: none. -/
import Derived.Test.YtkopcepfeeemhaaGreatDoorCards
import Derived.SevenTiedAt
import Derived.KernelRfl
set_option maxRecDepth 100000
namespace Go.Proofs.YtkopcepfeeemhaaGreatDoor
open Go
theorem f9Named : Tryz.prog.funcNamed "given.example/pub-antiphonal/laws.FnPartInline" = some 9 := by kernel_rfl
end Go.Proofs.YtkopcepfeeemhaaGreatDoor
