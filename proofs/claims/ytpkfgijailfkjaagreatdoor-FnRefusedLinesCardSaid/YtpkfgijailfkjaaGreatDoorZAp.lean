/- A part of the proof of what the last text of this claim says: QT1. Conditions: none. -/
import Derived.Test.YtpkfgijailfkjaaGreatDoorZAf
import Derived.Test.YtpkfgijailfkjaaGreatDoorZAo
set_option maxRecDepth 10000
namespace Go.Vx
open Go Go.Proofs
theorem nm {a b:Nat} (h:a≠b):a∉ [b]:=by simpa using h
end Go.Vx
