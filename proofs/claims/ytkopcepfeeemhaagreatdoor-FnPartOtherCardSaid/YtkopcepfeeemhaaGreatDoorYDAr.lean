/- A part of the proof of what the last text of this claim says: WB5. Conditions: none. -/
import Derived.Test.YtkopcepfeeemhaaGreatDoorYDAc
namespace Go.Vx
open Go Go.Proofs
set_option maxRecDepth 100000
def k7d.W (t:Nat) (v:Nat) (_kind:Int) (H:Heap) (R:RR):Prop:=
 newB H (.cells #[(pq t)] tq60) fun b1 H2=>
 asW PP (.iface tq200 (pq v)) tq20 tq131 true (
 lw H2 b1 0 pPtr fun(x3:OA)=>
 k00 PP fq74 #[(.pointer x3),(.iface tq200 (pq v))] H2 pUn fun(_:Unit) H5=>
 rk [] H5 R)
theorem k7d.enter (t:Nat) (v:Nat) (kind:Int) (H:Heap) (R:RR) (h:k7d.W t v kind H R):Fn PP fq38 #[(pq t),(.iface tq200 (pq v)),(.int .i64 kind)] H R:=
 fnE Tryz.func38 (hz [(151,pPtr),(153,pUn)]) (by unfold k7d.W;kernel_rfl) h
def k78.W (t:Nat) (v:Nat) (_kind:Int) (H:Heap) (R:RR):Prop:=
 newB H (.cells #[(pq t)] tq60) fun b1 H2=>
 asW PP (.iface tq203 (pq v)) tq20 tq131 true (
 lw H2 b1 0 pPtr fun(x3:OA)=>
 k00 PP fq74 #[(.pointer x3),(.iface tq203 (pq v))] H2 pUn fun(_:Unit) H5=>
 rk [] H5 R)
theorem k78.enter (t:Nat) (v:Nat) (kind:Int) (H:Heap) (R:RR) (h:k78.W t v kind H R):Fn PP fq38 #[(pq t),(.iface tq203 (pq v)),(.int .i64 kind)] H R:=
 fnE Tryz.func38 (hz [(151,pPtr),(153,pUn)]) (by unfold k78.W;kernel_rfl) h
def k7f.W (t:Nat) (v:Nat) (_kind:Int) (H:Heap) (R:RR):Prop:=
 newB H (.cells #[(pq t)] tq60) fun b1 H2=>
 asW PP (.iface tq218 (pq v)) tq20 tq131 true (
 lw H2 b1 0 pPtr fun(x3:OA)=>
 k00 PP fq74 #[(.pointer x3),(.iface tq218 (pq v))] H2 pUn fun(_:Unit) H5=>
 rk [] H5 R)
theorem k7f.enter (t:Nat) (v:Nat) (kind:Int) (H:Heap) (R:RR) (h:k7f.W t v kind H R):Fn PP fq38 #[(pq t),(.iface tq218 (pq v)),(.int .i64 kind)] H R:=
 fnE Tryz.func38 (hz [(151,pPtr),(153,pUn)]) (by unfold k7f.W;kernel_rfl) h
def k4v.W (t:Nat) (v:Nat) (_kind:Int) (H:Heap) (R:RR):Prop:=
 newB H (.cells #[(pq t)] tq60) fun b1 H2=>
 asW PP (.iface tq231 (pq v)) tq20 tq131 true (
 lw H2 b1 0 pPtr fun(x3:OA)=>
 k00 PP fq74 #[(.pointer x3),(.iface tq231 (pq v))] H2 pUn fun(_:Unit) H5=>
 rk [] H5 R)
theorem k4v.enter (t:Nat) (v:Nat) (kind:Int) (H:Heap) (R:RR) (h:k4v.W t v kind H R):Fn PP fq38 #[(pq t),(.iface tq231 (pq v)),(.int .i64 kind)] H R:=
 fnE Tryz.func38 (hz [(151,pPtr),(153,pUn)]) (by unfold k4v.W;kernel_rfl) h
def k7c.W (t:Nat) (v:Nat) (_kind:Int) (H:Heap) (R:RR):Prop:=
 newB H (.cells #[(pq t)] tq60) fun b1 H2=>
 asW PP (.iface tq235 (pq v)) tq20 tq131 true (
 lw H2 b1 0 pPtr fun(x3:OA)=>
 k00 PP fq74 #[(.pointer x3),(.iface tq235 (pq v))] H2 pUn fun(_:Unit) H5=>
 rk [] H5 R)
theorem k7c.enter (t:Nat) (v:Nat) (kind:Int) (H:Heap) (R:RR) (h:k7c.W t v kind H R):Fn PP fq38 #[(pq t),(.iface tq235 (pq v)),(.int .i64 kind)] H R:=
 fnE Tryz.func38 (hz [(151,pPtr),(153,pUn)]) (by unfold k7c.W;kernel_rfl) h
def k7b.W (t:Nat) (v:Nat) (_kind:Int) (H:Heap) (R:RR):Prop:=
 newB H (.cells #[(pq t)] tq60) fun b1 H2=>
 asW PP (.iface tq248 (pq v)) tq20 tq131 true (
 lw H2 b1 0 pPtr fun(x3:OA)=>
 k00 PP fq74 #[(.pointer x3),(.iface tq248 (pq v))] H2 pUn fun(_:Unit) H5=>
 rk [] H5 R)
theorem k7b.enter (t:Nat) (v:Nat) (kind:Int) (H:Heap) (R:RR) (h:k7b.W t v kind H R):Fn PP fq38 #[(pq t),(.iface tq248 (pq v)),(.int .i64 kind)] H R:=
 fnE Tryz.func38 (hz [(151,pPtr),(153,pUn)]) (by unfold k7b.W;kernel_rfl) h
def k7i.W (t:Nat) (v:Nat) (_kind:Int) (H:Heap) (R:RR):Prop:=
 newB H (.cells #[(pq t)] tq60) fun b1 H2=>
 asW PP (.iface tq252 (pq v)) tq20 tq131 true (
 lw H2 b1 0 pPtr fun(x3:OA)=>
 k00 PP fq74 #[(.pointer x3),(.iface tq252 (pq v))] H2 pUn fun(_:Unit) H5=>
 rk [] H5 R)
theorem k7i.enter (t:Nat) (v:Nat) (kind:Int) (H:Heap) (R:RR) (h:k7i.W t v kind H R):Fn PP fq38 #[(pq t),(.iface tq252 (pq v)),(.int .i64 kind)] H R:=
 fnE Tryz.func38 (hz [(151,pPtr),(153,pUn)]) (by unfold k7i.W;kernel_rfl) h
def k76.W (t:Nat) (v:Nat) (_kind:Int) (H:Heap) (R:RR):Prop:=
 newB H (.cells #[(pq t)] tq60) fun b1 H2=>
 asW PP (.iface tq257 (pq v)) tq20 tq131 true (
 lw H2 b1 0 pPtr fun(x3:OA)=>
 k00 PP fq74 #[(.pointer x3),(.iface tq257 (pq v))] H2 pUn fun(_:Unit) H5=>
 rk [] H5 R)
theorem k76.enter (t:Nat) (v:Nat) (kind:Int) (H:Heap) (R:RR) (h:k76.W t v kind H R):Fn PP fq38 #[(pq t),(.iface tq257 (pq v)),(.int .i64 kind)] H R:=
 fnE Tryz.func38 (hz [(151,pPtr),(153,pUn)]) (by unfold k76.W;kernel_rfl) h
def k7a.W (t:Nat) (v:Nat) (_kind:Int) (H:Heap) (R:RR):Prop:=
 newB H (.cells #[(pq t)] tq60) fun b1 H2=>
 asW PP (.iface tq262 (pq v)) tq20 tq131 true (
 lw H2 b1 0 pPtr fun(x3:OA)=>
 k00 PP fq74 #[(.pointer x3),(.iface tq262 (pq v))] H2 pUn fun(_:Unit) H5=>
 rk [] H5 R)
theorem k7a.enter (t:Nat) (v:Nat) (kind:Int) (H:Heap) (R:RR) (h:k7a.W t v kind H R):Fn PP fq38 #[(pq t),(.iface tq262 (pq v)),(.int .i64 kind)] H R:=
 fnE Tryz.func38 (hz [(151,pPtr),(153,pUn)]) (by unfold k7a.W;kernel_rfl) h
def k75.W (t:Nat) (v:Nat) (_kind:Int) (H:Heap) (R:RR):Prop:=
 newB H (.cells #[(pq t)] tq60) fun b1 H2=>
 asW PP (.iface tq270 (pq v)) tq20 tq131 true (
 lw H2 b1 0 pPtr fun(x3:OA)=>
 k00 PP fq74 #[(.pointer x3),(.iface tq270 (pq v))] H2 pUn fun(_:Unit) H5=>
 rk [] H5 R)
theorem k75.enter (t:Nat) (v:Nat) (kind:Int) (H:Heap) (R:RR) (h:k75.W t v kind H R):Fn PP fq38 #[(pq t),(.iface tq270 (pq v)),(.int .i64 kind)] H R:=
 fnE Tryz.func38 (hz [(151,pPtr),(153,pUn)]) (by unfold k75.W;kernel_rfl) h
def k7h.W (t:Nat) (v:Nat) (_kind:Int) (H:Heap) (R:RR):Prop:=
 newB H (.cells #[(pq t)] tq60) fun b1 H2=>
 asW PP (.iface tq266 (pq v)) tq20 tq131 true (
 lw H2 b1 0 pPtr fun(x3:OA)=>
 k00 PP fq74 #[(.pointer x3),(.iface tq266 (pq v))] H2 pUn fun(_:Unit) H5=>
 rk [] H5 R)
theorem k7h.enter (t:Nat) (v:Nat) (kind:Int) (H:Heap) (R:RR) (h:k7h.W t v kind H R):Fn PP fq38 #[(pq t),(.iface tq266 (pq v)),(.int .i64 kind)] H R:=
 fnE Tryz.func38 (hz [(151,pPtr),(153,pUn)]) (by unfold k7h.W;kernel_rfl) h
end Go.Vx
