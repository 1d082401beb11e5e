/- A part of the proof of what the last text of this claim says: QS1. Conditions: none. -/
import Derived.Test.YtpkfgijailfkjaaGreatDoorZAe
import Derived.Test.YtpkfgijailfkjaaGreatDoorZAt
set_option maxRecDepth 10000
namespace Go.Vx
open Go Go.Proofs
end Go.Vx
