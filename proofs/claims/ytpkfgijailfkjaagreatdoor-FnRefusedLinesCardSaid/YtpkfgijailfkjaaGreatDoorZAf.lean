/- A part of the proof of what the last text of this claim says: PC10, PC11, PC12. Conditions: none. -/
import Derived.Laws.StructEq
import Derived.Test.YtpkfgijailfkjaaGreatDoorZAd
import Derived.Test.YtpkfgijailfkjaaGreatDoorZAe
set_option maxRecDepth 10000
namespace Go.Vx
open Go Go.Proofs
theorem und_int:PP.underlying tq3=some (.int .i64):=by kernel_rfl
theorem und_string:PP.underlying tq9=some .string:=by kernel_rfl
theorem part_int (xs:Array Value) (o:Nat) (w:World) (x:Value) (hx:xs[o]?=some x):(part tq3 xs o).run PP w= .ok x w:=by
 have h:pureV PP (isAgg tq3)=some false:=by kernel_rfl
 have h2:=pureV_run PP _ _ h w
 simp[part,Sem.run_bind,h2,hx]
theorem part_string (xs:Array Value) (o:Nat) (w:World) (x:Value) (hx:xs[o]?=some x):(part tq9 xs o).run PP w= .ok x w:=by
 have h:pureV PP (isAgg tq9)=some false:=by kernel_rfl
 have h2:=pureV_run PP _ _ h w
 simp[part,Sem.run_bind,h2,hx]
def cut (x:Nd):Nd:=if x.kind=15 then x else{x with flag:=0}
end Go.Vx
