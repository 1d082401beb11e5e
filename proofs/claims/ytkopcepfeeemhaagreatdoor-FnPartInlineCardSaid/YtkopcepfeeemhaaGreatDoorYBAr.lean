/- A part of the proof of what the last text of this claim says: WB7. Conditions: none. -/
import Derived.Test.YtkopcepfeeemhaaGreatDoorZAc
namespace Go.Vx
open Go Go.Proofs
set_option maxRecDepth 100000
def setNil0.W (t:Nat) (H:Heap) (R:RR):Prop:=
 newB H (.cells #[(pq t)] tq60) fun _b1 H2=>
 newB H2 (.cells #[(.pointer none)] tq192) fun b3 H4=>
 lw H4 b3 0 ⟨Unit,fun _=>(.pointer none)⟩ fun(_x5:Unit)=>
 retK (some []) H4 R
theorem setNil0.enter (t:Nat) (H:Heap) (R:RR) (h:setNil0.W t H R):Fn PP fq125 #[(pq t),(.pointer none)] H R:=
 fnS mixed Tryz.func125 (hz [(4,⟨Unit,fun _=>(.pointer none)⟩)]) _ H R (Eq.mp (by unfold setNil0.W;kernel_rfl) h)
end Go.Vx
