/- A part of the proof of what the last text of this claim says: QV8, QT6, QV9, QV10. Conditions: none. -/
import Derived.Test.YtkopcepfeeemhaaGreatDoorYBAp
set_option maxRecDepth 10000
namespace Go.Vx
open Go Go.Proofs
section
variable {E:PEnv} {t:Tr} {de ds ms os:List Tr}
end
section
variable {G:Heap} {b lb nb:Nat} {t:Tr}
end
section
variable {G:Heap} {b lb nb:Nat} {t:Tr}
end
end Go.Vx
