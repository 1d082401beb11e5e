/- A part of the proof of what the last text of this claim says: WB5. Conditions: none. -/
import Derived.Test.YtkopcepfeeemhaaGreatDoorZAc
namespace Go.Vx
open Go Go.Proofs
set_option maxRecDepth 100000
def tpartScalarDefinition.W (t:Nat) (v:Nat) (_kind:Int) (H:Heap) (R:RR):Prop:=
 newB H (.cells #[(pq t)] tq60) fun b1 H2=>
 asW PP (.iface tq231 (pq v)) tq20 tq131 true (
 lw H2 b1 0 pPtr fun(x3:Option Addr)=>
 callW PP fq74 #[(.pointer x3),(.iface tq231 (pq v))] H2 pUn fun(_:Unit) H5=>
 retK (some []) H5 R)
theorem tpartScalarDefinition.enter (t:Nat) (v:Nat) (kind:Int) (H:Heap) (R:RR) (h:tpartScalarDefinition.W t v kind H R):Fn PP fq38 #[(pq t),(.iface tq231 (pq v)),(.int .i64 kind)] H R:=
 fnS mixed Tryz.func38 (hz [(151,pPtr),(153,pUn)]) _ H R (Eq.mp (by unfold tpartScalarDefinition.W;kernel_rfl) h)
def tpartObjectDefinition.W (t:Nat) (v:Nat) (_kind:Int) (H:Heap) (R:RR):Prop:=
 newB H (.cells #[(pq t)] tq60) fun b1 H2=>
 asW PP (.iface tq235 (pq v)) tq20 tq131 true (
 lw H2 b1 0 pPtr fun(x3:Option Addr)=>
 callW PP fq74 #[(.pointer x3),(.iface tq235 (pq v))] H2 pUn fun(_:Unit) H5=>
 retK (some []) H5 R)
theorem tpartObjectDefinition.enter (t:Nat) (v:Nat) (kind:Int) (H:Heap) (R:RR) (h:tpartObjectDefinition.W t v kind H R):Fn PP fq38 #[(pq t),(.iface tq235 (pq v)),(.int .i64 kind)] H R:=
 fnS mixed Tryz.func38 (hz [(151,pPtr),(153,pUn)]) _ H R (Eq.mp (by unfold tpartObjectDefinition.W;kernel_rfl) h)
def tpartInterfaceDefinition.W (t:Nat) (v:Nat) (_kind:Int) (H:Heap) (R:RR):Prop:=
 newB H (.cells #[(pq t)] tq60) fun b1 H2=>
 asW PP (.iface tq248 (pq v)) tq20 tq131 true (
 lw H2 b1 0 pPtr fun(x3:Option Addr)=>
 callW PP fq74 #[(.pointer x3),(.iface tq248 (pq v))] H2 pUn fun(_:Unit) H5=>
 retK (some []) H5 R)
theorem tpartInterfaceDefinition.enter (t:Nat) (v:Nat) (kind:Int) (H:Heap) (R:RR) (h:tpartInterfaceDefinition.W t v kind H R):Fn PP fq38 #[(pq t),(.iface tq248 (pq v)),(.int .i64 kind)] H R:=
 fnS mixed Tryz.func38 (hz [(151,pPtr),(153,pUn)]) _ H R (Eq.mp (by unfold tpartInterfaceDefinition.W;kernel_rfl) h)
def tpartEnumDefinition.W (t:Nat) (v:Nat) (_kind:Int) (H:Heap) (R:RR):Prop:=
 newB H (.cells #[(pq t)] tq60) fun b1 H2=>
 asW PP (.iface tq257 (pq v)) tq20 tq131 true (
 lw H2 b1 0 pPtr fun(x3:Option Addr)=>
 callW PP fq74 #[(.pointer x3),(.iface tq257 (pq v))] H2 pUn fun(_:Unit) H5=>
 retK (some []) H5 R)
theorem tpartEnumDefinition.enter (t:Nat) (v:Nat) (kind:Int) (H:Heap) (R:RR) (h:tpartEnumDefinition.W t v kind H R):Fn PP fq38 #[(pq t),(.iface tq257 (pq v)),(.int .i64 kind)] H R:=
 fnS mixed Tryz.func38 (hz [(151,pPtr),(153,pUn)]) _ H R (Eq.mp (by unfold tpartEnumDefinition.W;kernel_rfl) h)
def tpartInputObjectDefinition.W (t:Nat) (v:Nat) (_kind:Int) (H:Heap) (R:RR):Prop:=
 newB H (.cells #[(pq t)] tq60) fun b1 H2=>
 asW PP (.iface tq262 (pq v)) tq20 tq131 true (
 lw H2 b1 0 pPtr fun(x3:Option Addr)=>
 callW PP fq74 #[(.pointer x3),(.iface tq262 (pq v))] H2 pUn fun(_:Unit) H5=>
 retK (some []) H5 R)
theorem tpartInputObjectDefinition.enter (t:Nat) (v:Nat) (kind:Int) (H:Heap) (R:RR) (h:tpartInputObjectDefinition.W t v kind H R):Fn PP fq38 #[(pq t),(.iface tq262 (pq v)),(.int .i64 kind)] H R:=
 fnS mixed Tryz.func38 (hz [(151,pPtr),(153,pUn)]) _ H R (Eq.mp (by unfold tpartInputObjectDefinition.W;kernel_rfl) h)
def tpartDirectiveDefinition.W (t:Nat) (v:Nat) (_kind:Int) (H:Heap) (R:RR):Prop:=
 newB H (.cells #[(pq t)] tq60) fun b1 H2=>
 asW PP (.iface tq270 (pq v)) tq20 tq131 true (
 lw H2 b1 0 pPtr fun(x3:Option Addr)=>
 callW PP fq74 #[(.pointer x3),(.iface tq270 (pq v))] H2 pUn fun(_:Unit) H5=>
 retK (some []) H5 R)
theorem tpartDirectiveDefinition.enter (t:Nat) (v:Nat) (kind:Int) (H:Heap) (R:RR) (h:tpartDirectiveDefinition.W t v kind H R):Fn PP fq38 #[(pq t),(.iface tq270 (pq v)),(.int .i64 kind)] H R:=
 fnS mixed Tryz.func38 (hz [(151,pPtr),(153,pUn)]) _ H R (Eq.mp (by unfold tpartDirectiveDefinition.W;kernel_rfl) h)
def tpartTypeExtensionDefinition.W (t:Nat) (v:Nat) (_kind:Int) (H:Heap) (R:RR):Prop:=
 newB H (.cells #[(pq t)] tq60) fun b1 H2=>
 asW PP (.iface tq266 (pq v)) tq20 tq131 true (
 lw H2 b1 0 pPtr fun(x3:Option Addr)=>
 callW PP fq74 #[(.pointer x3),(.iface tq266 (pq v))] H2 pUn fun(_:Unit) H5=>
 retK (some []) H5 R)
theorem tpartTypeExtensionDefinition.enter (t:Nat) (v:Nat) (kind:Int) (H:Heap) (R:RR) (h:tpartTypeExtensionDefinition.W t v kind H R):Fn PP fq38 #[(pq t),(.iface tq266 (pq v)),(.int .i64 kind)] H R:=
 fnS mixed Tryz.func38 (hz [(151,pPtr),(153,pUn)]) _ H R (Eq.mp (by unfold tpartTypeExtensionDefinition.W;kernel_rfl) h)
end Go.Vx
