/- A part of the proof of what the last text of this claim says: QR1. Conditions: none. -/
import Derived.Test.YtpkfgijailfkjaaGreatDoorZAn
import Derived.Test.YtpkfgijailfkjaaGreatDoorZAp
import Derived.Test.YtpkfgijailfkjaaGreatDoorZAq
set_option maxRecDepth 10000
namespace Go.Vx
open Go Go.Proofs
end Go.Vx
