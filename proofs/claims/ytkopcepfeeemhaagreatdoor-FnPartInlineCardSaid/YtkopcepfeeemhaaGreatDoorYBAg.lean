/- A part of the proof of what the last text of this claim says: WB5. Conditions: none. -/
import Derived.Test.YtkopcepfeeemhaaGreatDoorZAc
namespace Go.Vx
open Go Go.Proofs
set_option maxRecDepth 100000
def tpartField.W (t:Nat) (v:Nat) (_kind:Int) (H:Heap) (R:RR):Prop:=
 newB H (.cells #[(pq t)] tq60) fun b1 H2=>
 lw H2 b1 0 pPtr fun(x3:Option Addr)=>
 callW PP fq73 #[(.pointer x3),(.iface tq126 (pq v))] H2 pUn fun(_:Unit) H5=>
 retK (some []) H5 R
theorem tpartField.enter (t:Nat) (v:Nat) (kind:Int) (H:Heap) (R:RR) (h:tpartField.W t v kind H R):Fn PP fq38 #[(pq t),(.iface tq126 (pq v)),(.int .i64 kind)] H R:=
 fnS mixed Tryz.func38 (hz [(130,pPtr),(133,pUn)]) _ H R (Eq.mp (by unfold tpartField.W;kernel_rfl) h)
def tpartFragmentSpread.W (t:Nat) (v:Nat) (_kind:Int) (H:Heap) (R:RR):Prop:=
 newB H (.cells #[(pq t)] tq60) fun b1 H2=>
 lw H2 b1 0 pPtr fun(x3:Option Addr)=>
 callW PP fq73 #[(.pointer x3),(.iface tq128 (pq v))] H2 pUn fun(_:Unit) H5=>
 retK (some []) H5 R
theorem tpartFragmentSpread.enter (t:Nat) (v:Nat) (kind:Int) (H:Heap) (R:RR) (h:tpartFragmentSpread.W t v kind H R):Fn PP fq38 #[(pq t),(.iface tq128 (pq v)),(.int .i64 kind)] H R:=
 fnS mixed Tryz.func38 (hz [(137,pPtr),(140,pUn)]) _ H R (Eq.mp (by unfold tpartFragmentSpread.W;kernel_rfl) h)
def tpartInlineFragment.W (t:Nat) (v:Nat) (_kind:Int) (H:Heap) (R:RR):Prop:=
 newB H (.cells #[(pq t)] tq60) fun b1 H2=>
 lw H2 b1 0 pPtr fun(x3:Option Addr)=>
 callW PP fq73 #[(.pointer x3),(.iface tq129 (pq v))] H2 pUn fun(_:Unit) H5=>
 retK (some []) H5 R
theorem tpartInlineFragment.enter (t:Nat) (v:Nat) (kind:Int) (H:Heap) (R:RR) (h:tpartInlineFragment.W t v kind H R):Fn PP fq38 #[(pq t),(.iface tq129 (pq v)),(.int .i64 kind)] H R:=
 fnS mixed Tryz.func38 (hz [(144,pPtr),(147,pUn)]) _ H R (Eq.mp (by unfold tpartInlineFragment.W;kernel_rfl) h)
def tpartOperationDefinition.W (t:Nat) (v:Nat) (_kind:Int) (H:Heap) (R:RR):Prop:=
 newB H (.cells #[(pq t)] tq60) fun b1 H2=>
 asW PP (.iface tq200 (pq v)) tq20 tq131 true (
 lw H2 b1 0 pPtr fun(x3:Option Addr)=>
 callW PP fq74 #[(.pointer x3),(.iface tq200 (pq v))] H2 pUn fun(_:Unit) H5=>
 retK (some []) H5 R)
theorem tpartOperationDefinition.enter (t:Nat) (v:Nat) (kind:Int) (H:Heap) (R:RR) (h:tpartOperationDefinition.W t v kind H R):Fn PP fq38 #[(pq t),(.iface tq200 (pq v)),(.int .i64 kind)] H R:=
 fnS mixed Tryz.func38 (hz [(151,pPtr),(153,pUn)]) _ H R (Eq.mp (by unfold tpartOperationDefinition.W;kernel_rfl) h)
def tpartFragmentDefinition.W (t:Nat) (v:Nat) (_kind:Int) (H:Heap) (R:RR):Prop:=
 newB H (.cells #[(pq t)] tq60) fun b1 H2=>
 asW PP (.iface tq203 (pq v)) tq20 tq131 true (
 lw H2 b1 0 pPtr fun(x3:Option Addr)=>
 callW PP fq74 #[(.pointer x3),(.iface tq203 (pq v))] H2 pUn fun(_:Unit) H5=>
 retK (some []) H5 R)
theorem tpartFragmentDefinition.enter (t:Nat) (v:Nat) (kind:Int) (H:Heap) (R:RR) (h:tpartFragmentDefinition.W t v kind H R):Fn PP fq38 #[(pq t),(.iface tq203 (pq v)),(.int .i64 kind)] H R:=
 fnS mixed Tryz.func38 (hz [(151,pPtr),(153,pUn)]) _ H R (Eq.mp (by unfold tpartFragmentDefinition.W;kernel_rfl) h)
def tpartScalarDefinition.W (t:Nat) (v:Nat) (_kind:Int) (H:Heap) (R:RR):Prop:=
 newB H (.cells #[(pq t)] tq60) fun b1 H2=>
 asW PP (.iface tq231 (pq v)) tq20 tq131 true (
 lw H2 b1 0 pPtr fun(x3:Option Addr)=>
 callW PP fq74 #[(.pointer x3),(.iface tq231 (pq v))] H2 pUn fun(_:Unit) H5=>
 retK (some []) H5 R)
theorem tpartScalarDefinition.enter (t:Nat) (v:Nat) (kind:Int) (H:Heap) (R:RR) (h:tpartScalarDefinition.W t v kind H R):Fn PP fq38 #[(pq t),(.iface tq231 (pq v)),(.int .i64 kind)] H R:=
 fnS mixed Tryz.func38 (hz [(151,pPtr),(153,pUn)]) _ H R (Eq.mp (by unfold tpartScalarDefinition.W;kernel_rfl) h)
end Go.Vx
