/- A part of the proof of what the last text of this claim says: WE2. Conditions: none. -/
import Derived.Test.YtkopcepfeeemhaaGreatDoorYDAc
namespace Go.Vx
open Go Go.Proofs
set_option maxRecDepth 100000
def k5n.W (err:Nat) (H:Heap) (R:RR):Prop:=
 newB H (.cells #[nI] tq20) fun b1 H2=>
 rk [(.slice (some ⟨b1,0,none⟩) 1 1),(.iface tq328 (pq err))] H2 R
theorem k5n.enter (err:Nat) (H:Heap) (R:RR) (h:k5n.W err H R):Fn PP fq87 #[nI,(.iface tq328 (pq err))] H R:=
 fnE Tryz.func87 (hz []) (by unfold k5n.W;kernel_rfl) h
def k8c.W (p:Nat) (H:Heap) (R:RR):Prop:=
 lw H p 6 (pInt .i64) fun(_x1:Int)=>
 k00 PP fq137 #[(pq p),(.string (bs [115,99,104,101,109,97]))] H ⟨Int×Int×Int×BA×Nat,fun x=>(.tuple #[(.agg #[(.int .i64 x.1),(.int .i64 x.2.1),(.int .i64 x.2.2.1),(.string x.2.2.2.1)]),(.iface tq328 (pq x.2.2.2.2))])⟩ fun(x2:Int×Int×Int×BA×Nat) H3=>
 newB H3 (.cells #[(.int .i64 0),(.int .i64 0),(.int .i64 0),sE] tq85) fun b4 H5=>
 k08 H5 ⟨b4,0,none⟩ [(.int .i64 x2.1),(.int .i64 x2.2.1),(.int .i64 x2.2.2.1),(.string x2.2.2.2.1)] fun H6=>
 rk [nI,(.iface tq328 (pq x2.2.2.2.2))] H6 R
theorem k8c.enter (p:Nat) (H:Heap) (R:RR) (h:k8c.W p H R):Fn PP fq88 #[(pq p)] H R:=
 fnE Tryz.func88 (hz [(18,(pInt .i64)),(21,⟨Int×Int×Int×BA×Nat,fun x=>(.tuple #[(.agg #[(.int .i64 x.1),(.int .i64 x.2.1),(.int .i64 x.2.2.1),(.string x.2.2.2.1)]),(.iface tq328 (pq x.2.2.2.2))])⟩)]) (by unfold k8c.W;kernel_rfl) h
def k8b.W (p:Nat) (H:Heap) (R:RR):Prop:=
 lw H p 6 (pInt .i64) fun(_x1:Int)=>
 k00 PP fq108 #[(pq p)] H ⟨OA,fun x=>(.tuple #[(.pointer x),nI])⟩ fun(_x2:OA) H3=>
 k00 PP fq137 #[(pq p),(.string (bs [115,99,97,108,97,114]))] H3 ⟨Int×Int×Int×BA×Nat,fun x=>(.tuple #[(.agg #[(.int .i64 x.1),(.int .i64 x.2.1),(.int .i64 x.2.2.1),(.string x.2.2.2.1)]),(.iface tq328 (pq x.2.2.2.2))])⟩ fun(x4:Int×Int×Int×BA×Nat) H5=>
 rk [nI,(.iface tq328 (pq x4.2.2.2.2))] H5 R
theorem k8b.enter (p:Nat) (H:Heap) (R:RR) (h:k8b.W p H R):Fn PP fq90 #[(pq p)] H R:=
 fnE Tryz.func90 (hz [(14,(pInt .i64)),(17,⟨OA,fun x=>(.tuple #[(.pointer x),nI])⟩),(25,⟨Int×Int×Int×BA×Nat,fun x=>(.tuple #[(.agg #[(.int .i64 x.1),(.int .i64 x.2.1),(.int .i64 x.2.2.1),(.string x.2.2.2.1)]),(.iface tq328 (pq x.2.2.2.2))])⟩)]) (by unfold k8b.W;kernel_rfl) h
def k8a.W (p:Nat) (H:Heap) (R:RR):Prop:=
 lw H p 6 (pInt .i64) fun(_x1:Int)=>
 k00 PP fq108 #[(pq p)] H ⟨OA,fun x=>(.tuple #[(.pointer x),nI])⟩ fun(_x2:OA) H3=>
 k00 PP fq137 #[(pq p),(.string (bs [116,121,112,101]))] H3 ⟨Int×Int×Int×BA×Nat,fun x=>(.tuple #[(.agg #[(.int .i64 x.1),(.int .i64 x.2.1),(.int .i64 x.2.2.1),(.string x.2.2.2.1)]),(.iface tq328 (pq x.2.2.2.2))])⟩ fun(x4:Int×Int×Int×BA×Nat) H5=>
 rk [nI,(.iface tq328 (pq x4.2.2.2.2))] H5 R
theorem k8a.enter (p:Nat) (H:Heap) (R:RR) (h:k8a.W p H R):Fn PP fq91 #[(pq p)] H R:=
 fnE Tryz.func91 (hz [(18,(pInt .i64)),(21,⟨OA,fun x=>(.tuple #[(.pointer x),nI])⟩),(29,⟨Int×Int×Int×BA×Nat,fun x=>(.tuple #[(.agg #[(.int .i64 x.1),(.int .i64 x.2.1),(.int .i64 x.2.2.1),(.string x.2.2.2.1)]),(.iface tq328 (pq x.2.2.2.2))])⟩)]) (by unfold k8a.W;kernel_rfl) h
def k89.W (p:Nat) (H:Heap) (R:RR):Prop:=
 lw H p 6 (pInt .i64) fun(_x1:Int)=>
 k00 PP fq108 #[(pq p)] H ⟨OA,fun x=>(.tuple #[(.pointer x),nI])⟩ fun(_x2:OA) H3=>
 k00 PP fq137 #[(pq p),(.string (bs [105,110,116,101,114,102,97,99,101]))] H3 ⟨Int×Int×Int×BA×Nat,fun x=>(.tuple #[(.agg #[(.int .i64 x.1),(.int .i64 x.2.1),(.int .i64 x.2.2.1),(.string x.2.2.2.1)]),(.iface tq328 (pq x.2.2.2.2))])⟩ fun(x4:Int×Int×Int×BA×Nat) H5=>
 rk [nI,(.iface tq328 (pq x4.2.2.2.2))] H5 R
theorem k89.enter (p:Nat) (H:Heap) (R:RR) (h:k89.W p H R):Fn PP fq98 #[(pq p)] H R:=
 fnE Tryz.func98 (hz [(17,(pInt .i64)),(20,⟨OA,fun x=>(.tuple #[(.pointer x),nI])⟩),(28,⟨Int×Int×Int×BA×Nat,fun x=>(.tuple #[(.agg #[(.int .i64 x.1),(.int .i64 x.2.1),(.int .i64 x.2.2.1),(.string x.2.2.2.1)]),(.iface tq328 (pq x.2.2.2.2))])⟩)]) (by unfold k89.W;kernel_rfl) h
def k8e.W (p:Nat) (H:Heap) (R:RR):Prop:=
 lw H p 6 (pInt .i64) fun(_x1:Int)=>
 k00 PP fq108 #[(pq p)] H ⟨OA,fun x=>(.tuple #[(.pointer x),nI])⟩ fun(_x2:OA) H3=>
 k00 PP fq137 #[(pq p),(.string (bs [117,110,105,111,110]))] H3 ⟨Int×Int×Int×BA×Nat,fun x=>(.tuple #[(.agg #[(.int .i64 x.1),(.int .i64 x.2.1),(.int .i64 x.2.2.1),(.string x.2.2.2.1)]),(.iface tq328 (pq x.2.2.2.2))])⟩ fun(x4:Int×Int×Int×BA×Nat) H5=>
 rk [nI,(.iface tq328 (pq x4.2.2.2.2))] H5 R
theorem k8e.enter (p:Nat) (H:Heap) (R:RR) (h:k8e.W p H R):Fn PP fq99 #[(pq p)] H R:=
 fnE Tryz.func99 (hz [(14,(pInt .i64)),(17,⟨OA,fun x=>(.tuple #[(.pointer x),nI])⟩),(25,⟨Int×Int×Int×BA×Nat,fun x=>(.tuple #[(.agg #[(.int .i64 x.1),(.int .i64 x.2.1),(.int .i64 x.2.2.1),(.string x.2.2.2.1)]),(.iface tq328 (pq x.2.2.2.2))])⟩)]) (by unfold k8e.W;kernel_rfl) h
def k87.W (p:Nat) (H:Heap) (R:RR):Prop:=
 lw H p 6 (pInt .i64) fun(_x1:Int)=>
 k00 PP fq108 #[(pq p)] H ⟨OA,fun x=>(.tuple #[(.pointer x),nI])⟩ fun(_x2:OA) H3=>
 k00 PP fq137 #[(pq p),(.string (bs [101,110,117,109]))] H3 ⟨Int×Int×Int×BA×Nat,fun x=>(.tuple #[(.agg #[(.int .i64 x.1),(.int .i64 x.2.1),(.int .i64 x.2.2.1),(.string x.2.2.2.1)]),(.iface tq328 (pq x.2.2.2.2))])⟩ fun(x4:Int×Int×Int×BA×Nat) H5=>
 rk [nI,(.iface tq328 (pq x4.2.2.2.2))] H5 R
theorem k87.enter (p:Nat) (H:Heap) (R:RR) (h:k87.W p H R):Fn PP fq101 #[(pq p)] H R:=
 fnE Tryz.func101 (hz [(17,(pInt .i64)),(20,⟨OA,fun x=>(.tuple #[(.pointer x),nI])⟩),(28,⟨Int×Int×Int×BA×Nat,fun x=>(.tuple #[(.agg #[(.int .i64 x.1),(.int .i64 x.2.1),(.int .i64 x.2.2.1),(.string x.2.2.2.1)]),(.iface tq328 (pq x.2.2.2.2))])⟩)]) (by unfold k87.W;kernel_rfl) h
def k88.W (p:Nat) (H:Heap) (R:RR):Prop:=
 lw H p 6 (pInt .i64) fun(_x1:Int)=>
 k00 PP fq108 #[(pq p)] H ⟨OA,fun x=>(.tuple #[(.pointer x),nI])⟩ fun(_x2:OA) H3=>
 k00 PP fq137 #[(pq p),(.string (bs [105,110,112,117,116]))] H3 ⟨Int×Int×Int×BA×Nat,fun x=>(.tuple #[(.agg #[(.int .i64 x.1),(.int .i64 x.2.1),(.int .i64 x.2.2.1),(.string x.2.2.2.1)]),(.iface tq328 (pq x.2.2.2.2))])⟩ fun(x4:Int×Int×Int×BA×Nat) H5=>
 rk [nI,(.iface tq328 (pq x4.2.2.2.2))] H5 R
theorem k88.enter (p:Nat) (H:Heap) (R:RR) (h:k88.W p H R):Fn PP fq103 #[(pq p)] H R:=
 fnE Tryz.func103 (hz [(17,(pInt .i64)),(20,⟨OA,fun x=>(.tuple #[(.pointer x),nI])⟩),(28,⟨Int×Int×Int×BA×Nat,fun x=>(.tuple #[(.agg #[(.int .i64 x.1),(.int .i64 x.2.1),(.int .i64 x.2.2.1),(.string x.2.2.2.1)]),(.iface tq328 (pq x.2.2.2.2))])⟩)]) (by unfold k88.W;kernel_rfl) h
def k86.W (p:Nat) (H:Heap) (R:RR):Prop:=
 lw H p 6 (pInt .i64) fun(_x1:Int)=>
 k00 PP fq108 #[(pq p)] H ⟨OA,fun x=>(.tuple #[(.pointer x),nI])⟩ fun(_x2:OA) H3=>
 k00 PP fq137 #[(pq p),(.string (bs [100,105,114,101,99,116,105,118,101]))] H3 ⟨Int×Int×Int×BA×Nat,fun x=>(.tuple #[(.agg #[(.int .i64 x.1),(.int .i64 x.2.1),(.int .i64 x.2.2.1),(.string x.2.2.2.1)]),(.iface tq328 (pq x.2.2.2.2))])⟩ fun(x4:Int×Int×Int×BA×Nat) H5=>
 rk [nI,(.iface tq328 (pq x4.2.2.2.2))] H5 R
theorem k86.enter (p:Nat) (H:Heap) (R:RR) (h:k86.W p H R):Fn PP fq105 #[(pq p)] H R:=
 fnE Tryz.func105 (hz [(14,(pInt .i64)),(17,⟨OA,fun x=>(.tuple #[(.pointer x),nI])⟩),(25,⟨Int×Int×Int×BA×Nat,fun x=>(.tuple #[(.agg #[(.int .i64 x.1),(.int .i64 x.2.1),(.int .i64 x.2.2.1),(.string x.2.2.2.1)]),(.iface tq328 (pq x.2.2.2.2))])⟩)]) (by unfold k86.W;kernel_rfl) h
def k8d.W (p:Nat) (H:Heap) (R:RR):Prop:=
 lw H p 6 (pInt .i64) fun(_x1:Int)=>
 k00 PP fq137 #[(pq p),(.string (bs [101,120,116,101,110,100]))] H ⟨Int×Int×Int×BA×Nat,fun x=>(.tuple #[(.agg #[(.int .i64 x.1),(.int .i64 x.2.1),(.int .i64 x.2.2.1),(.string x.2.2.2.1)]),(.iface tq328 (pq x.2.2.2.2))])⟩ fun(x2:Int×Int×Int×BA×Nat) H3=>
 newB H3 (.cells #[(.int .i64 0),(.int .i64 0),(.int .i64 0),sE] tq85) fun b4 H5=>
 k08 H5 ⟨b4,0,none⟩ [(.int .i64 x2.1),(.int .i64 x2.2.1),(.int .i64 x2.2.2.1),(.string x2.2.2.2.1)] fun H6=>
 rk [nI,(.iface tq328 (pq x2.2.2.2.2))] H6 R
theorem k8d.enter (p:Nat) (H:Heap) (R:RR) (h:k8d.W p H R):Fn PP fq104 #[(pq p)] H R:=
 fnE Tryz.func104 (hz [(12,(pInt .i64)),(15,⟨Int×Int×Int×BA×Nat,fun x=>(.tuple #[(.agg #[(.int .i64 x.1),(.int .i64 x.2.1),(.int .i64 x.2.2.1),(.string x.2.2.2.1)]),(.iface tq328 (pq x.2.2.2.2))])⟩)]) (by unfold k8d.W;kernel_rfl) h
def k1u.W (p:Nat) (name:BA) (H:Heap) (R:RR):Prop:=
 k02 (name.toList==(bs [115,99,104,101,109,97]).toList)
 (k00 PP fq88 #[(pq p)] H ⟨Nat,fun x=>(.tuple #[nI,(.iface tq328 (pq x))])⟩ fun(x1:Nat) H2=>
 k00 PP fq87 #[nI,(.iface tq328 (pq x1))] H2 ⟨Sl×Nat,fun x=>(.tuple #[(.slice x.1.1 x.1.2.1 x.1.2.2),(.iface tq328 (pq x.2))])⟩ fun(x3:Sl×Nat) H4=>
 rk [(.slice x3.1.1 x3.1.2.1 x3.1.2.2),(.iface tq328 (pq x3.2))] H4 R)
 (k02 (name.toList==(bs [111,112,101,114,97,116,105,111,110,32,116,121,112,101]).toList)
 (k00 PP fq89 #[(pq p)] H ⟨Value,fun x=>(.tuple #[x,nI])⟩ fun(x5:Value) H6=>
 k00 PP fq87 #[x5,nI] H6 ⟨Sl×Nat,fun x=>(.tuple #[(.slice x.1.1 x.1.2.1 x.1.2.2),(.iface tq328 (pq x.2))])⟩ fun(x7:Sl×Nat) H8=>
 rk [(.slice x7.1.1 x7.1.2.1 x7.1.2.2),(.iface tq328 (pq x7.2))] H8 R)
 (k02 (name.toList==(bs [115,99,97,108,97,114]).toList)
 (k00 PP fq90 #[(pq p)] H ⟨Nat,fun x=>(.tuple #[nI,(.iface tq328 (pq x))])⟩ fun(x9:Nat) H10=>
 k00 PP fq87 #[nI,(.iface tq328 (pq x9))] H10 ⟨Sl×Nat,fun x=>(.tuple #[(.slice x.1.1 x.1.2.1 x.1.2.2),(.iface tq328 (pq x.2))])⟩ fun(x11:Sl×Nat) H12=>
 rk [(.slice x11.1.1 x11.1.2.1 x11.1.2.2),(.iface tq328 (pq x11.2))] H12 R)
 (k02 (name.toList==(bs [116,121,112,101]).toList)
 (k00 PP fq91 #[(pq p)] H ⟨Nat,fun x=>(.tuple #[nI,(.iface tq328 (pq x))])⟩ fun(x13:Nat) H14=>
 k00 PP fq87 #[nI,(.iface tq328 (pq x13))] H14 ⟨Sl×Nat,fun x=>(.tuple #[(.slice x.1.1 x.1.2.1 x.1.2.2),(.iface tq328 (pq x.2))])⟩ fun(x15:Sl×Nat) H16=>
 rk [(.slice x15.1.1 x15.1.2.1 x15.1.2.2),(.iface tq328 (pq x15.2))] H16 R)
 (k02 (name.toList==(bs [105,109,112,108,101,109,101,110,116,115]).toList)
 (k00 PP fq93 #[(pq p)] H pSlE fun(x17:Sl) H18=>
 k00 PP fq92 #[(.slice x17.1 x17.2.1 x17.2.2),nI] H18 pSlE fun(x19:Sl) H20=>
 rk [(.slice x19.1 x19.2.1 x19.2.2),nI] H20 R)
 (k02 (name.toList==(bs [102,105,101,108,100,32,100,101,102,105,110,105,116,105,111,110]).toList)
 (k00 PP fq94 #[(pq p)] H ⟨Value,fun x=>(.tuple #[x,nI])⟩ fun(x21:Value) H22=>
 k00 PP fq87 #[x21,nI] H22 ⟨Sl×Nat,fun x=>(.tuple #[(.slice x.1.1 x.1.2.1 x.1.2.2),(.iface tq328 (pq x.2))])⟩ fun(x23:Sl×Nat) H24=>
 rk [(.slice x23.1.1 x23.1.2.1 x23.1.2.2),(.iface tq328 (pq x23.2))] H24 R)
 (k02 (name.toList==(bs [97,114,103,117,109,101,110,116,32,100,101,102,105,110,105,116,105,111,110,115]).toList)
 (k00 PP fq96 #[(pq p)] H pSlE fun(x25:Sl) H26=>
 k00 PP fq95 #[(.slice x25.1 x25.2.1 x25.2.2),nI] H26 pSlE fun(x27:Sl) H28=>
 rk [(.slice x27.1 x27.2.1 x27.2.2),nI] H28 R)
 (k02 (name.toList==(bs [105,110,112,117,116,32,118,97,108,117,101]).toList)
 (k00 PP fq97 #[(pq p)] H ⟨Value,fun x=>(.tuple #[x,nI])⟩ fun(x29:Value) H30=>
 k00 PP fq87 #[x29,nI] H30 ⟨Sl×Nat,fun x=>(.tuple #[(.slice x.1.1 x.1.2.1 x.1.2.2),(.iface tq328 (pq x.2))])⟩ fun(x31:Sl×Nat) H32=>
 rk [(.slice x31.1.1 x31.1.2.1 x31.1.2.2),(.iface tq328 (pq x31.2))] H32 R)
 (k02 (name.toList==(bs [105,110,116,101,114,102,97,99,101]).toList)
 (k00 PP fq98 #[(pq p)] H ⟨Nat,fun x=>(.tuple #[nI,(.iface tq328 (pq x))])⟩ fun(x33:Nat) H34=>
 k00 PP fq87 #[nI,(.iface tq328 (pq x33))] H34 ⟨Sl×Nat,fun x=>(.tuple #[(.slice x.1.1 x.1.2.1 x.1.2.2),(.iface tq328 (pq x.2))])⟩ fun(x35:Sl×Nat) H36=>
 rk [(.slice x35.1.1 x35.1.2.1 x35.1.2.2),(.iface tq328 (pq x35.2))] H36 R)
 (k02 (name.toList==(bs [117,110,105,111,110]).toList)
 (k00 PP fq99 #[(pq p)] H ⟨Nat,fun x=>(.tuple #[nI,(.iface tq328 (pq x))])⟩ fun(x37:Nat) H38=>
 k00 PP fq87 #[nI,(.iface tq328 (pq x37))] H38 ⟨Sl×Nat,fun x=>(.tuple #[(.slice x.1.1 x.1.2.1 x.1.2.2),(.iface tq328 (pq x.2))])⟩ fun(x39:Sl×Nat) H40=>
 rk [(.slice x39.1.1 x39.1.2.1 x39.1.2.2),(.iface tq328 (pq x39.2))] H40 R)
 (k02 (name.toList==(bs [109,101,109,98,101,114,115]).toList)
 (k00 PP fq100 #[(pq p)] H pSlE fun(x41:Sl) H42=>
 k00 PP fq92 #[(.slice x41.1 x41.2.1 x41.2.2),nI] H42 pSlE fun(x43:Sl) H44=>
 rk [(.slice x43.1 x43.2.1 x43.2.2),nI] H44 R)
 (k02 (name.toList==(bs [101,110,117,109]).toList)
 (k00 PP fq101 #[(pq p)] H ⟨Nat,fun x=>(.tuple #[nI,(.iface tq328 (pq x))])⟩ fun(x45:Nat) H46=>
 k00 PP fq87 #[nI,(.iface tq328 (pq x45))] H46 ⟨Sl×Nat,fun x=>(.tuple #[(.slice x.1.1 x.1.2.1 x.1.2.2),(.iface tq328 (pq x.2))])⟩ fun(x47:Sl×Nat) H48=>
 rk [(.slice x47.1.1 x47.1.2.1 x47.1.2.2),(.iface tq328 (pq x47.2))] H48 R)
 (k02 (name.toList==(bs [101,110,117,109,32,118,97,108,117,101]).toList)
 (k00 PP fq102 #[(pq p)] H ⟨Value,fun x=>(.tuple #[x,nI])⟩ fun(x49:Value) H50=>
 k00 PP fq87 #[x49,nI] H50 ⟨Sl×Nat,fun x=>(.tuple #[(.slice x.1.1 x.1.2.1 x.1.2.2),(.iface tq328 (pq x.2))])⟩ fun(x51:Sl×Nat) H52=>
 rk [(.slice x51.1.1 x51.1.2.1 x51.1.2.2),(.iface tq328 (pq x51.2))] H52 R)
 (k02 (name.toList==(bs [105,110,112,117,116]).toList)
 (k00 PP fq103 #[(pq p)] H ⟨Nat,fun x=>(.tuple #[nI,(.iface tq328 (pq x))])⟩ fun(x53:Nat) H54=>
 k00 PP fq87 #[nI,(.iface tq328 (pq x53))] H54 ⟨Sl×Nat,fun x=>(.tuple #[(.slice x.1.1 x.1.2.1 x.1.2.2),(.iface tq328 (pq x.2))])⟩ fun(x55:Sl×Nat) H56=>
 rk [(.slice x55.1.1 x55.1.2.1 x55.1.2.2),(.iface tq328 (pq x55.2))] H56 R)
 (k02 (name.toList==(bs [101,120,116,101,110,100]).toList)
 (k00 PP fq104 #[(pq p)] H ⟨Nat,fun x=>(.tuple #[nI,(.iface tq328 (pq x))])⟩ fun(x57:Nat) H58=>
 k00 PP fq87 #[nI,(.iface tq328 (pq x57))] H58 ⟨Sl×Nat,fun x=>(.tuple #[(.slice x.1.1 x.1.2.1 x.1.2.2),(.iface tq328 (pq x.2))])⟩ fun(x59:Sl×Nat) H60=>
 rk [(.slice x59.1.1 x59.1.2.1 x59.1.2.2),(.iface tq328 (pq x59.2))] H60 R)
 (k02 (name.toList==(bs [100,105,114,101,99,116,105,118,101,32,100,101,102,105,110,105,116,105,111,110]).toList)
 (k00 PP fq105 #[(pq p)] H ⟨Nat,fun x=>(.tuple #[nI,(.iface tq328 (pq x))])⟩ fun(x61:Nat) H62=>
 k00 PP fq87 #[nI,(.iface tq328 (pq x61))] H62 ⟨Sl×Nat,fun x=>(.tuple #[(.slice x.1.1 x.1.2.1 x.1.2.2),(.iface tq328 (pq x.2))])⟩ fun(x63:Sl×Nat) H64=>
 rk [(.slice x63.1.1 x63.1.2.1 x63.1.2.2),(.iface tq328 (pq x63.2))] H64 R)
 (k02 (name.toList==(bs [108,111,99,97,116,105,111,110,115]).toList)
 (k00 PP fq107 #[(pq p)] H pSlE fun(x65:Sl) H66=>
 k00 PP fq106 #[(.slice x65.1 x65.2.1 x65.2.2),nI] H66 pSlE fun(x67:Sl) H68=>
 rk [(.slice x67.1 x67.2.1 x67.2.2),nI] H68 R)
 (k02 (name.toList==(bs [100,101,115,99,114,105,112,116,105,111,110]).toList)
 (k00 PP fq108 #[(pq p)] H pBlE fun(x69:Nat) H70=>
 k00 PP fq87 #[(.iface tq102 (pq x69)),nI] H70 ⟨Sl×Nat,fun x=>(.tuple #[(.slice x.1.1 x.1.2.1 x.1.2.2),(.iface tq328 (pq x.2))])⟩ fun(x71:Sl×Nat) H72=>
 rk [(.slice x71.1.1 x71.1.2.1 x71.1.2.2),(.iface tq328 (pq x71.2))] H72 R)
 (k02 (name.toList==(bs [111,112,101,114,97,116,105,111,110]).toList)
 (k00 PP fq109 #[(pq p)] H ⟨Value,fun x=>(.tuple #[x,nI])⟩ fun(x73:Value) H74=>
 k00 PP fq87 #[x73,nI] H74 ⟨Sl×Nat,fun x=>(.tuple #[(.slice x.1.1 x.1.2.1 x.1.2.2),(.iface tq328 (pq x.2))])⟩ fun(x75:Sl×Nat) H76=>
 rk [(.slice x75.1.1 x75.1.2.1 x75.1.2.2),(.iface tq328 (pq x75.2))] H76 R)
 (k02 (name.toList==(bs [102,114,97,103,109,101,110,116]).toList)
 (k00 PP fq110 #[(pq p)] H ⟨Value,fun x=>(.tuple #[x,nI])⟩ fun(x77:Value) H78=>
 k00 PP fq87 #[x77,nI] H78 ⟨Sl×Nat,fun x=>(.tuple #[(.slice x.1.1 x.1.2.1 x.1.2.2),(.iface tq328 (pq x.2))])⟩ fun(x79:Sl×Nat) H80=>
 rk [(.slice x79.1.1 x79.1.2.1 x79.1.2.2),(.iface tq328 (pq x79.2))] H80 R)
 (k02 (name.toList==(bs [118,97,114,105,97,98,108,101]).toList)
 (k00 PP fq111 #[(pq p)] H ⟨Value,fun x=>(.tuple #[x,nI])⟩ fun(x81:Value) H82=>
 k00 PP fq87 #[x81,nI] H82 ⟨Sl×Nat,fun x=>(.tuple #[(.slice x.1.1 x.1.2.1 x.1.2.2),(.iface tq328 (pq x.2))])⟩ fun(x83:Sl×Nat) H84=>
 rk [(.slice x83.1.1 x83.1.2.1 x83.1.2.2),(.iface tq328 (pq x83.2))] H84 R)
 (k02 (name.toList==(bs [102,105,101,108,100]).toList)
 (k00 PP fq112 #[(pq p)] H pBlE fun(x85:Nat) H86=>
 k00 PP fq87 #[(.iface tq126 (pq x85)),nI] H86 ⟨Sl×Nat,fun x=>(.tuple #[(.slice x.1.1 x.1.2.1 x.1.2.2),(.iface tq328 (pq x.2))])⟩ fun(x87:Sl×Nat) H88=>
 rk [(.slice x87.1.1 x87.1.2.1 x87.1.2.2),(.iface tq328 (pq x87.2))] H88 R)
 (k02 (name.toList==(bs [115,112,114,101,97,100]).toList)
 (k00 PP fq113 #[(pq p)] H ⟨Value,fun x=>(.tuple #[x,nI])⟩ fun(x89:Value) H90=>
 k00 PP fq87 #[x89,nI] H90 ⟨Sl×Nat,fun x=>(.tuple #[(.slice x.1.1 x.1.2.1 x.1.2.2),(.iface tq328 (pq x.2))])⟩ fun(x91:Sl×Nat) H92=>
 rk [(.slice x91.1.1 x91.1.2.1 x91.1.2.2),(.iface tq328 (pq x91.2))] H92 R)
 (k02 (name.toList==(bs [97,114,103,117,109,101,110,116]).toList)
 (k00 PP fq114 #[(pq p)] H ⟨Value,fun x=>(.tuple #[x,nI])⟩ fun(x93:Value) H94=>
 k00 PP fq87 #[x93,nI] H94 ⟨Sl×Nat,fun x=>(.tuple #[(.slice x.1.1 x.1.2.1 x.1.2.2),(.iface tq328 (pq x.2))])⟩ fun(x95:Sl×Nat) H96=>
 rk [(.slice x95.1.1 x95.1.2.1 x95.1.2.2),(.iface tq328 (pq x95.2))] H96 R)
 (k02 (name.toList==(bs [100,105,114,101,99,116,105,118,101]).toList)
 (k00 PP fq115 #[(pq p)] H pBlE fun(x97:Nat) H98=>
 k00 PP fq87 #[(.iface tq99 (pq x97)),nI] H98 ⟨Sl×Nat,fun x=>(.tuple #[(.slice x.1.1 x.1.2.1 x.1.2.2),(.iface tq328 (pq x.2))])⟩ fun(x99:Sl×Nat) H100=>
 rk [(.slice x99.1.1 x99.1.2.1 x99.1.2.2),(.iface tq328 (pq x99.2))] H100 R)
 (k00 PP fq116 #[] H ⟨Unit,fun _=>nI⟩ fun(_:Unit) H102=>
 rk [(.slice none 0 0),nI] H102 R)))))))))))))))))))))))))
theorem k1u.enter (p:Nat) (name:BA) (H:Heap) (R:RR) (h:k1u.W p name H R):Fn PP fq62 #[(pq p),(.string name)] H R:=
 fnE Tryz.func62 (hz [(10,⟨Nat,fun x=>(.tuple #[nI,(.iface tq328 (pq x))])⟩),(13,⟨Sl×Nat,fun x=>(.tuple #[(.slice x.1.1 x.1.2.1 x.1.2.2),(.iface tq328 (pq x.2))])⟩),(19,⟨Value,fun x=>(.tuple #[x,nI])⟩),(22,⟨Sl×Nat,fun x=>(.tuple #[(.slice x.1.1 x.1.2.1 x.1.2.2),(.iface tq328 (pq x.2))])⟩),(28,⟨Nat,fun x=>(.tuple #[nI,(.iface tq328 (pq x))])⟩),(31,⟨Sl×Nat,fun x=>(.tuple #[(.slice x.1.1 x.1.2.1 x.1.2.2),(.iface tq328 (pq x.2))])⟩),(37,⟨Nat,fun x=>(.tuple #[nI,(.iface tq328 (pq x))])⟩),(40,⟨Sl×Nat,fun x=>(.tuple #[(.slice x.1.1 x.1.2.1 x.1.2.2),(.iface tq328 (pq x.2))])⟩),(46,pSlE),(49,pSlE),(55,⟨Value,fun x=>(.tuple #[x,nI])⟩),(58,⟨Sl×Nat,fun x=>(.tuple #[(.slice x.1.1 x.1.2.1 x.1.2.2),(.iface tq328 (pq x.2))])⟩),(64,pSlE),(67,pSlE),(73,⟨Value,fun x=>(.tuple #[x,nI])⟩),(76,⟨Sl×Nat,fun x=>(.tuple #[(.slice x.1.1 x.1.2.1 x.1.2.2),(.iface tq328 (pq x.2))])⟩),(82,⟨Nat,fun x=>(.tuple #[nI,(.iface tq328 (pq x))])⟩),(85,⟨Sl×Nat,fun x=>(.tuple #[(.slice x.1.1 x.1.2.1 x.1.2.2),(.iface tq328 (pq x.2))])⟩),(91,⟨Nat,fun x=>(.tuple #[nI,(.iface tq328 (pq x))])⟩),(94,⟨Sl×Nat,fun x=>(.tuple #[(.slice x.1.1 x.1.2.1 x.1.2.2),(.iface tq328 (pq x.2))])⟩),(100,pSlE),(103,pSlE),(109,⟨Nat,fun x=>(.tuple #[nI,(.iface tq328 (pq x))])⟩),(112,⟨Sl×Nat,fun x=>(.tuple #[(.slice x.1.1 x.1.2.1 x.1.2.2),(.iface tq328 (pq x.2))])⟩),(118,⟨Value,fun x=>(.tuple #[x,nI])⟩),(121,⟨Sl×Nat,fun x=>(.tuple #[(.slice x.1.1 x.1.2.1 x.1.2.2),(.iface tq328 (pq x.2))])⟩),(127,⟨Nat,fun x=>(.tuple #[nI,(.iface tq328 (pq x))])⟩),(130,⟨Sl×Nat,fun x=>(.tuple #[(.slice x.1.1 x.1.2.1 x.1.2.2),(.iface tq328 (pq x.2))])⟩),(136,⟨Nat,fun x=>(.tuple #[nI,(.iface tq328 (pq x))])⟩),(139,⟨Sl×Nat,fun x=>(.tuple #[(.slice x.1.1 x.1.2.1 x.1.2.2),(.iface tq328 (pq x.2))])⟩),(145,⟨Nat,fun x=>(.tuple #[nI,(.iface tq328 (pq x))])⟩),(148,⟨Sl×Nat,fun x=>(.tuple #[(.slice x.1.1 x.1.2.1 x.1.2.2),(.iface tq328 (pq x.2))])⟩),(154,pSlE),(157,pSlE),(163,pBlE),(167,⟨Sl×Nat,fun x=>(.tuple #[(.slice x.1.1 x.1.2.1 x.1.2.2),(.iface tq328 (pq x.2))])⟩),(173,⟨Value,fun x=>(.tuple #[x,nI])⟩),(176,⟨Sl×Nat,fun x=>(.tuple #[(.slice x.1.1 x.1.2.1 x.1.2.2),(.iface tq328 (pq x.2))])⟩),(182,⟨Value,fun x=>(.tuple #[x,nI])⟩),(185,⟨Sl×Nat,fun x=>(.tuple #[(.slice x.1.1 x.1.2.1 x.1.2.2),(.iface tq328 (pq x.2))])⟩),(191,⟨Value,fun x=>(.tuple #[x,nI])⟩),(194,⟨Sl×Nat,fun x=>(.tuple #[(.slice x.1.1 x.1.2.1 x.1.2.2),(.iface tq328 (pq x.2))])⟩),(200,pBlE),(204,⟨Sl×Nat,fun x=>(.tuple #[(.slice x.1.1 x.1.2.1 x.1.2.2),(.iface tq328 (pq x.2))])⟩),(210,⟨Value,fun x=>(.tuple #[x,nI])⟩),(213,⟨Sl×Nat,fun x=>(.tuple #[(.slice x.1.1 x.1.2.1 x.1.2.2),(.iface tq328 (pq x.2))])⟩),(219,⟨Value,fun x=>(.tuple #[x,nI])⟩),(222,⟨Sl×Nat,fun x=>(.tuple #[(.slice x.1.1 x.1.2.1 x.1.2.2),(.iface tq328 (pq x.2))])⟩),(228,pBlE),(232,⟨Sl×Nat,fun x=>(.tuple #[(.slice x.1.1 x.1.2.1 x.1.2.2),(.iface tq328 (pq x.2))])⟩),(235,⟨Unit,fun _=>nI⟩)]) (by unfold k1u.W;kernel_rfl) h
def k5m.W (name:BA) (text:BA) (H:Heap) (R:RR):Prop:=
 k00 PP fq61 #[(.string text)] H pBlE fun(x1:Nat) H2=>
 k00 PP fq62 #[(pq x1),(.string name)] H2 ⟨Sl×Nat,fun x=>(.tuple #[(.slice x.1.1 x.1.2.1 x.1.2.2),(.iface tq328 (pq x.2))])⟩ fun(x3:Sl×Nat) H4=>
 lw H4 x1 6 (pInt .i64) fun(x5:Int)=>
 rk [(.slice x3.1.1 x3.1.2.1 x3.1.2.2),(.int .i64 x5),(.iface tq328 (pq x3.2))] H4 R
theorem k5m.enter (name:BA) (text:BA) (H:Heap) (R:RR) (h:k5m.W name text H R):Fn PP fq37 #[(.string name),(.string text)] H R:=
 fnE Tryz.func37 (hz [(12,pBlE),(21,⟨Sl×Nat,fun x=>(.tuple #[(.slice x.1.1 x.1.2.1 x.1.2.2),(.iface tq328 (pq x.2))])⟩),(29,(pInt .i64))]) (by unfold k5m.W;kernel_rfl) h
def k6B.W (step:BA) (_kind:Int) (text:BA) (H:Heap) (R:RR):Prop:=
 k00 PP fq37 #[(.string step),(.string text)] H ⟨Sl×Int×Nat,fun x=>(.tuple #[(.slice x.1.1 x.1.2.1 x.1.2.2),(.int .i64 x.2.1),(.iface tq328 (pq x.2.2))])⟩ fun(_x1:Sl×Int×Nat) H2=>
 rk [(.slice none 0 0),(.int .i64 0),(.bool false)] H2 R
theorem k6B.enter (step:BA) (kind:Int) (text:BA) (H:Heap) (R:RR) (h:k6B.W step kind text H R):Fn PP fq30 #[(.string step),(.int .i64 kind),(.string text)] H R:=
 fnE Tryz.func30 (hz [(17,⟨Sl×Int×Nat,fun x=>(.tuple #[(.slice x.1.1 x.1.2.1 x.1.2.2),(.int .i64 x.2.1),(.iface tq328 (pq x.2.2))])⟩)]) (by unfold k6B.W;kernel_rfl) h
end Go.Vx
