/- A part of the proof of what the last text of this claim says: PC10, PC11, PC12. Conditions: none. -/
import Derived.Laws.StructEq
import Derived.Test.YtkopcepfeeemhaaGreatDoorYDAg
import Derived.Test.YtkopcepfeeemhaaGreatDoorYDAh
set_option maxRecDepth 10000
namespace Go.Vx
open Go Go.Proofs
def k7H (x y:Nd):Prop:=x.kind=y.kind∧x.name=y.name∧x.alias=y.alias∧x.text=y.text∧x.size=y.size∧(x.kind=15→x.flag=y.flag)
def cut (x:Nd):Nd:=if x.kind=15 then x else{x with flag:=0}
end Go.Vx
