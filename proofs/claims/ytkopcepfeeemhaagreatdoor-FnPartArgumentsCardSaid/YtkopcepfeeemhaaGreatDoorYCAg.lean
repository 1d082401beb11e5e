/- A part of the proof of what the last text of this claim says: WB5. Conditions: none. -/
import Derived.Test.YtkopcepfeeemhaaGreatDoorZAc
namespace Go.Vx
open Go Go.Proofs
set_option maxRecDepth 100000
def tpartInputValueDefinition.W (t:Nat) (v:Nat) (_kind:Int) (H:Heap) (R:RR):Prop:=
 newB H (.cells #[(pq t)] tq60) fun b1 H2=>
 lw H2 b1 0 pPtr fun(x3:Option Addr)=>
 newB H2 (.cells #[(pq v)] tq120) fun b4 H5=>
 callW PP fq71 #[(.pointer x3),(.slice (some ⟨b4,0,none⟩) 1 1)] H5 pUn fun(_:Unit) H7=>
 retK (some []) H7 R
theorem tpartInputValueDefinition.enter (t:Nat) (v:Nat) (kind:Int) (H:Heap) (R:RR) (h:tpartInputValueDefinition.W t v kind H R):Fn PP fq38 #[(pq t),(.iface tq120 (pq v)),(.int .i64 kind)] H R:=
 fnS mixed Tryz.func38 (hz [(107,pPtr),(110,pUn)]) _ H R (Eq.mp (by unfold tpartInputValueDefinition.W;kernel_rfl) h)
end Go.Vx
