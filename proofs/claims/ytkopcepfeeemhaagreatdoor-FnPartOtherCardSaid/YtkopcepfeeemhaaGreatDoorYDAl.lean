/- A part of the proof of what the last text of this claim says: WB2. Conditions: none. -/
import Derived.Test.YtkopcepfeeemhaaGreatDoorYDAc
namespace Go.Vx
open Go Go.Proofs
set_option maxRecDepth 100000
def advance.W (p:Nat) (H:Heap) (R:RR):Prop:=
 lw H p 7 (pInt .i64) fun(x1:Int)=>
 k08 H ⟨p,4,none⟩ [(.int .i64 x1)] fun H2=>
 lw H2 p 0 ⟨Nat×Nat,fun x=>(.func (.func fq196) #[] #[(pq x.1),(pq x.2)])⟩ fun(x3:Nat×Nat)=>
 lw H2 p 4 (pInt .i64) fun(x4:Int)=>
 (k00 PP fq196 #[(.int .i64 x4),(pq x3.1),(pq x3.2)] H2 pTkE fun(x5:Int×Int×Int×BA) H6=>
 newB H6 (.cells #[(.int .i64 0),(.int .i64 0),(.int .i64 0),sE] tq85) fun b7 H8=>
 lc H8 p 4 (.int .i64 x4)∧
 lc H8 p 0 (.func (.func fq196) #[] #[(pq x3.1),(pq x3.2)])∧
 k08 H8 ⟨b7,0,none⟩ [(.int .i64 x5.1),(.int .i64 x5.2.1),(.int .i64 x5.2.2.1),(.string x5.2.2.2)] fun H9=>
 k01 H9 true 4 ⟨b7,0,none⟩ pTk fun(x10:Int×Int×Int×BA)=>
 k08 H9 ⟨p,5,none⟩ [(.int .i64 x10.1),(.int .i64 x10.2.1),(.int .i64 x10.2.2.1),(.string x10.2.2.2)] fun H11=>
 rk [nI] H11 R)∧
 (newB H2 (.cells #[(.int .i64 0),(.int .i64 0),(.int .i64 0),sE] tq85) fun b12 H13=>
 lc H13 p 4 (.int .i64 x4)∧
 lc H13 p 0 (.func (.func fq196) #[] #[(pq x3.1),(pq x3.2)])∧
 k00 PP fq196 #[(.int .i64 x4),(pq x3.1),(pq x3.2)] H13 pTkE fun(x14:Int×Int×Int×BA) H15=>
 k08 H15 ⟨b12,0,none⟩ [(.int .i64 x14.1),(.int .i64 x14.2.1),(.int .i64 x14.2.2.1),(.string x14.2.2.2)] fun H16=>
 k01 H16 true 4 ⟨b12,0,none⟩ pTk fun(x17:Int×Int×Int×BA)=>
 k08 H16 ⟨p,5,none⟩ [(.int .i64 x17.1),(.int .i64 x17.2.1),(.int .i64 x17.2.2.1),(.string x17.2.2.2)] fun H18=>
 rk [nI] H18 R)
theorem advance.enter (p:Nat) (H:Heap) (R:RR) (h:advance.W p H R):Fn PP fq149 #[(pq p)] H R:=
 fnE Tryz.func149 (hz [(10,(pInt .i64)),(17,⟨Nat×Nat,fun x=>(.func (.func fq196) #[] #[(pq x.1),(pq x.2)])⟩),(21,(pInt .i64)),(22,pTkE),(29,pTk)]) (by unfold advance.W;kernel_rfl) h
def peek.W (p:Nat) (k:Int) (H:Heap) (R:RR):Prop:=
 lw H p 5 (pInt .i64) fun(x1:Int)=>
 rk [(.bool (x1==k))] H R
theorem peek.enter (p:Nat) (k:Int) (H:Heap) (R:RR) (h:peek.W p k H R):Fn PP fq153 #[(pq p),(.int .i64 k)] H R:=
 fnE Tryz.func153 (hz [(9,(pInt .i64))]) (by unfold peek.W;kernel_rfl) h
def peekDescription.W (p:Nat) (H:Heap) (R:RR):Prop:=
 k0d (Bool×Unit) (fun J1=>
 k00 PP fq153 #[(pq p),(.int .i64 18)] H k04 fun(x4:Bool) H5=>
 k02 x4
 (J1 (true,()) H5)
 (k00 PP fq153 #[(pq p),(.int .i64 19)] H5 k04 fun(x6:Bool) H7=>
 J1 (x6,()) H7)) fun y2 H3=>
 rk [(.bool y2.1)] H3 R
theorem peekDescription.enter (p:Nat) (H:Heap) (R:RR) (h:peekDescription.W p H R):Fn PP fq163 #[(pq p)] H R:=
 fnE Tryz.func163 ⟨patL [(4,k04),(7,k04)],k06 [],k03 [],k03 [],k05 [(1,[Slot.bool 2],false)]⟩ (by unfold peekDescription.W;kernel_rfl) h
def skip.W (p:Nat) (k:Int) (H:Heap) (R:RR):Prop:=
 lw H p 5 (pInt .i64) fun(x1:Int)=>
 k02 (x1==k)
 (k00 PP fq149 #[(pq p)] H ⟨Unit,fun _=>nI⟩ fun(_:Unit) H3=>
 rk [(.bool true),nI] H3 R)
 (rk [(.bool false),nI] H R)
theorem skip.enter (p:Nat) (k:Int) (H:Heap) (R:RR) (h:skip.W p k H R):Fn PP fq150 #[(pq p),(.int .i64 k)] H R:=
 fnE Tryz.func150 (hz [(10,(pInt .i64)),(14,⟨Unit,fun _=>nI⟩)]) (by unfold skip.W;kernel_rfl) h
def expect.W (p:Nat) (k:Int) (H:Heap) (R:RR):Prop:=
 newB H (.cells #[(.int .i64 0),(.int .i64 0),(.int .i64 0),sE] tq85) fun b1 H2=>
 k01 H2 true 4 ⟨p,5,none⟩ pTk fun(x3:Int×Int×Int×BA)=>
 newB H2 (.cells #[(.int .i64 0),(.int .i64 0),(.int .i64 0),sE] tq85) fun b4 H5=>
 k08 H5 ⟨b4,0,none⟩ [(.int .i64 x3.1),(.int .i64 x3.2.1),(.int .i64 x3.2.2.1),(.string x3.2.2.2)] fun H6=>
 lw H6 b4 0 (pInt .i64) fun(x7:Int)=>
 k02 (x7==k)
 (k01 H6 true 4 ⟨b4,0,none⟩ pTk fun(x8:Int×Int×Int×BA)=>
 k00 PP fq149 #[(pq p)] H6 ⟨Unit,fun _=>nI⟩ fun(_:Unit) H10=>
 k07 H10 true 4 ⟨b4,0,none⟩=some (.agg #[(.int .i64 x8.1),(.int .i64 x8.2.1),(.int .i64 x8.2.2.1),(.string x8.2.2.2)])∧
 k08 H10 ⟨b1,0,none⟩ [(.int .i64 x8.1),(.int .i64 x8.2.1),(.int .i64 x8.2.2.1),(.string x8.2.2.2)] fun H11=>
 retK (k09 (k07 H11 true 4 ⟨b1,0,none⟩) ((k09 (some nI) (some [])))) H11 R)
 (k01 H6 true 4 ⟨b4,0,none⟩ pTk fun(x12:Int×Int×Int×BA)=>
 lw H6 p 1 pBlk fun(x13:Nat)=>
 lw H6 b4 1 (pInt .i64) fun(x14:Int)=>
 k00 PP fq198 #[(pq x13),(.int .i64 x14),(.string (bs [69,120,112,101,99,116,101,100,32,37,115,44,32,102,111,117,110,100,32,37,115]))] H6 pBlk fun(x15:Nat) H16=>
 k07 H16 true 4 ⟨b4,0,none⟩=some (.agg #[(.int .i64 x12.1),(.int .i64 x12.2.1),(.int .i64 x12.2.2.1),(.string x12.2.2.2)])∧
 k08 H16 ⟨b1,0,none⟩ [(.int .i64 x12.1),(.int .i64 x12.2.1),(.int .i64 x12.2.2.1),(.string x12.2.2.2)] fun H17=>
 retK (k09 (k07 H17 true 4 ⟨b1,0,none⟩) ((k09 (some (.iface tq328 (pq x15))) (some [])))) H17 R)
theorem expect.enter (p:Nat) (k:Int) (H:Heap) (R:RR) (h:expect.W p k H R):Fn PP fq143 #[(pq p),(.int .i64 k)] H R:=
 fnE Tryz.func143 (hz [(11,pTk),(13,(pInt .i64)),(16,pTk),(18,⟨Unit,fun _=>nI⟩),(19,pTk),(23,pBlk),(25,(pInt .i64)),(27,pBlk)]) (by unfold expect.W;kernel_rfl) h
def expectKeyWord.W (p:Nat) (v:BA) (H:Heap) (R:RR):Prop:=
 newB H (.cells #[(.int .i64 0),(.int .i64 0),(.int .i64 0),sE] tq85) fun b1 H2=>
 k01 H2 true 4 ⟨p,5,none⟩ pTk fun(x3:Int×Int×Int×BA)=>
 newB H2 (.cells #[(.int .i64 0),(.int .i64 0),(.int .i64 0),sE] tq85) fun b4 H5=>
 k08 H5 ⟨b4,0,none⟩ [(.int .i64 x3.1),(.int .i64 x3.2.1),(.int .i64 x3.2.2.1),(.string x3.2.2.2)] fun H6=>
 k0j (Bool×Unit) H6 (fun J7=>
 lw H6 b4 0 (pInt .i64) fun(x9:Int)=>
 k02 (x9==15)
 (lw H6 b4 3 pStr fun(x10:BA)=>
 J7 ((x10.toList==v.toList),()) H6)
 (J7 (false,()) H6)) fun y8=>
 k02 y8.1
 (k01 H6 true 4 ⟨b4,0,none⟩ pTk fun(x11:Int×Int×Int×BA)=>
 k00 PP fq149 #[(pq p)] H6 ⟨Unit,fun _=>nI⟩ fun(_:Unit) H13=>
 k07 H13 true 4 ⟨b4,0,none⟩=some (.agg #[(.int .i64 x11.1),(.int .i64 x11.2.1),(.int .i64 x11.2.2.1),(.string x11.2.2.2)])∧
 k08 H13 ⟨b1,0,none⟩ [(.int .i64 x11.1),(.int .i64 x11.2.1),(.int .i64 x11.2.2.1),(.string x11.2.2.2)] fun H14=>
 retK (k09 (k07 H14 true 4 ⟨b1,0,none⟩) ((k09 (some nI) (some [])))) H14 R)
 (k01 H6 true 4 ⟨b4,0,none⟩ pTk fun(x15:Int×Int×Int×BA)=>
 lw H6 p 1 pBlk fun(x16:Nat)=>
 lw H6 b4 1 (pInt .i64) fun(x17:Int)=>
 k00 PP fq198 #[(pq x16),(.int .i64 x17),(.string (bs [69,120,112,101,99,116,101,100,32,34,37,115,34,44,32,102,111,117,110,100,32,37,115]))] H6 pBlk fun(x18:Nat) H19=>
 k07 H19 true 4 ⟨b4,0,none⟩=some (.agg #[(.int .i64 x15.1),(.int .i64 x15.2.1),(.int .i64 x15.2.2.1),(.string x15.2.2.2)])∧
 k08 H19 ⟨b1,0,none⟩ [(.int .i64 x15.1),(.int .i64 x15.2.1),(.int .i64 x15.2.2.1),(.string x15.2.2.2)] fun H20=>
 retK (k09 (k07 H20 true 4 ⟨b1,0,none⟩) ((k09 (some (.iface tq328 (pq x18))) (some [])))) H20 R)
theorem expectKeyWord.enter (p:Nat) (v:BA) (H:Heap) (R:RR) (h:expectKeyWord.W p v H R):Fn PP fq137 #[(pq p),(.string v)] H R:=
 fnE Tryz.func137 ⟨patL [(11,pTk),(13,(pInt .i64)),(17,pStr),(21,pTk),(23,⟨Unit,fun _=>nI⟩),(24,pTk),(28,pBlk),(30,(pInt .i64)),(32,pBlk)],k06 [],k03 [],k03 [],k05 [(2,[Slot.bool 20],true)]⟩ (by unfold expectKeyWord.W;kernel_rfl) h
def loc.W (p:Nat) (st:Int) (H:Heap) (R:RR):Prop:=
 lw H p 2 k04 fun(x1:Bool)=>
 k02 x1
 (rk [(.pointer none)] H R)
 (lw H p 3 k04 fun(x2:Bool)=>
 k02 x2
 (lw H p 4 (pInt .i64) fun(x3:Int)=>
 newB H (.cells #[(.int .i64 st),(.int .i64 x3),(.pointer none)] tq185) fun b4 H5=>
 k00 PP fq200 #[(pq b4)] H5 pBlk fun(x6:Nat) H7=>
 rk [(pq x6)] H7 R)
 (lw H p 4 (pInt .i64) fun(x8:Int)=>
 lw H p 1 pBlk fun(x9:Nat)=>
 newB H (.cells #[(.int .i64 st),(.int .i64 x8),(pq x9)] tq185) fun b10 H11=>
 k00 PP fq200 #[(pq b10)] H11 pBlk fun(x12:Nat) H13=>
 rk [(pq x12)] H13 R))
theorem loc.enter (p:Nat) (st:Int) (H:Heap) (R:RR) (h:loc.W p st H R):Fn PP fq141 #[(pq p),(.int .i64 st)] H R:=
 fnE Tryz.func141 (hz [(9,k04),(14,k04),(19,(pInt .i64)),(22,pBlk),(27,(pInt .i64)),(31,pBlk),(34,pBlk)]) (by unfold loc.W;kernel_rfl) h
def NewSource.W (s:Nat) (H:Heap) (R:RR):Prop:=
 lw H s 1 pStr fun(x1:BA)=>
 k02 (x1.toList==(bs []).toList)
 (k08 H ⟨s,1,none⟩ [(.string (bs [71,114,97,112,104,81,76]))] fun H2=>
 rk [(pq s)] H2 R)
 (rk [(pq s)] H R)
theorem NewSource.enter (s:Nat) (H:Heap) (R:RR) (h:NewSource.W s H R):Fn PP fq86 #[(pq s)] H R:=
 fnE Tryz.func86 (hz [(10,pStr)]) (by unfold NewSource.W;kernel_rfl) h
def makeParser.W (s:Nat) (H:Heap) (R:RR):Prop:=
 newB H (.cells #[(.bool false),(.bool false)] tq90) fun b1 H2=>
 k00 PP fq136 #[(pq s)] H2 ⟨Nat×Nat,fun x=>(.func (.func fq196) #[] #[(pq x.1),(pq x.2)])⟩ fun(x3:Nat×Nat) H4=>
 k00 PP fq196 #[(.int .i64 0),(pq x3.1),(pq x3.2)] H4 pTkE fun(x5:Int×Int×Int×BA) H6=>
 newB H6 (.cells #[(.int .i64 0),(.int .i64 0),(.int .i64 0),sE] tq85) fun b7 H8=>
 k08 H8 ⟨b7,0,none⟩ [(.int .i64 x5.1),(.int .i64 x5.2.1),(.int .i64 x5.2.2.1),(.string x5.2.2.2)] fun H9=>
 k01 H9 true 2 ⟨b1,0,none⟩ ⟨Bool×Bool,fun x=>(.agg #[(.bool x.1),(.bool x.2)])⟩ fun(x10:Bool×Bool)=>
 k01 H9 true 4 ⟨b7,0,none⟩ pTk fun(x11:Int×Int×Int×BA)=>
 newB H9 (.cells #[(.func (.func fq196) #[] #[(pq x3.1),(pq x3.2)]),(pq s),(.bool x10.1),(.bool x10.2),(.int .i64 0),(.int .i64 x11.1),(.int .i64 x11.2.1),(.int .i64 x11.2.2.1),(.string x11.2.2.2)] tq92) fun b12 H13=>
 rk [(pq b12),nI] H13 R
theorem makeParser.enter (s:Nat) (H:Heap) (R:RR) (h:makeParser.W s H R):Fn PP fq85 #[(pq s),(.agg #[(.bool false),(.bool false)])] H R:=
 fnE Tryz.func85 (hz [(10,⟨Nat×Nat,fun x=>(.func (.func fq196) #[] #[(pq x.1),(pq x.2)])⟩),(13,pTkE),(23,⟨Bool×Bool,fun x=>(.agg #[(.bool x.1),(.bool x.2)])⟩),(24,pTk)]) (by unfold makeParser.W;kernel_rfl) h
def k5o.W (xT x:Nat) (H:Heap) (R:RR):Prop:=
 newB H (.cells #[(.iface xT (pq x))] tq20) fun b1 H2=>
 rk [(.slice (some ⟨b1,0,none⟩) 1 1),nI] H2 R
theorem k5o.enter (xT x:Nat) (H:Heap) (R:RR) (h:k5o.W xT x H R):Fn PP fq87 #[(.iface xT (pq x)),nI] H R:=
 fnE Tryz.func87 (hz []) (by unfold k5o.W;kernel_rfl) h
def parseName.W (p:Nat) (H:Heap) (R:RR):Prop:=
 k00 PP fq143 #[(pq p),(.int .i64 15)] H pTkE fun(x1:Int×Int×Int×BA) H2=>
 newB H2 (.cells #[(.int .i64 0),(.int .i64 0),(.int .i64 0),sE] tq85) fun b3 H4=>
 k08 H4 ⟨b3,0,none⟩ [(.int .i64 x1.1),(.int .i64 x1.2.1),(.int .i64 x1.2.2.1),(.string x1.2.2.2)] fun H5=>
 lw H5 b3 3 pStr fun(x6:BA)=>
 lw H5 b3 1 (pInt .i64) fun(x7:Int)=>
 k00 PP fq141 #[(pq p),(.int .i64 x7)] H5 pBlk fun(x8:Nat) H9=>
 lc H9 b3 3 (.string x6)∧
 newB H9 (.cells #[sE,(pq x8),(.string x6)] tq115) fun b10 H11=>
 k00 PP fq203 #[(pq b10)] H11 pBlk fun(x12:Nat) H13=>
 rk [(pq x12),nI] H13 R
theorem parseName.enter (p:Nat) (H:Heap) (R:RR) (h:parseName.W p H R):Fn PP fq146 #[(pq p)] H R:=
 fnE Tryz.func146 (hz [(8,pTkE),(15,pStr),(18,(pInt .i64)),(19,pBlk),(22,pBlk)]) (by unfold parseName.W;kernel_rfl) h
def parseNamed.W (p:Nat) (H:Heap) (R:RR):Prop:=
 lw H p 6 (pInt .i64) fun(x1:Int)=>
 k00 PP fq146 #[(pq p)] H pBlE fun(x2:Nat) H3=>
 k00 PP fq141 #[(pq p),(.int .i64 x1)] H3 pBlk fun(x4:Nat) H5=>
 newB H5 (.cells #[sE,(pq x4),(pq x2)] tq113) fun b6 H7=>
 k00 PP fq202 #[(pq b6)] H7 pBlk fun(x8:Nat) H9=>
 rk [(pq x8),nI] H9 R
theorem parseNamed.enter (p:Nat) (H:Heap) (R:RR) (h:parseNamed.W p H R):Fn PP fq144 #[(pq p)] H R:=
 fnE Tryz.func144 (hz [(11,(pInt .i64)),(14,pBlE),(23,pBlk),(26,pBlk)]) (by unfold parseNamed.W;kernel_rfl) h
def parseOperationType.W (p:Nat) (H:Heap) (R:RR):Prop:=
 k00 PP fq143 #[(pq p),(.int .i64 15)] H pTkE fun(x1:Int×Int×Int×BA) H2=>
 newB H2 (.cells #[(.int .i64 0),(.int .i64 0),(.int .i64 0),sE] tq85) fun b3 H4=>
 k08 H4 ⟨b3,0,none⟩ [(.int .i64 x1.1),(.int .i64 x1.2.1),(.int .i64 x1.2.2.1),(.string x1.2.2.2)] fun H5=>
 lw H5 b3 3 pStr fun(x6:BA)=>
 k02 (x6.toList==(bs [113,117,101,114,121]).toList)
 (lw H5 b3 3 pStr fun(x7:BA)=>
 rk [(.string x7),nI] H5 R)
 (k02 (x6.toList==(bs [109,117,116,97,116,105,111,110]).toList)
 (lw H5 b3 3 pStr fun(x8:BA)=>
 rk [(.string x8),nI] H5 R)
 (k02 (x6.toList==(bs [115,117,98,115,99,114,105,112,116,105,111,110]).toList)
 (lw H5 b3 3 pStr fun(x9:BA)=>
 rk [(.string x9),nI] H5 R)
 (k01 H5 true 4 ⟨b3,0,none⟩ pTk fun(x10:Int×Int×Int×BA)=>
 k00 PP fq201 #[(pq p),(.agg #[(.int .i64 x10.1),(.int .i64 x10.2.1),(.int .i64 x10.2.2.1),(.string x10.2.2.2)])] H5 ⟨Unit,fun _=>nI⟩ fun(_:Unit) H12=>
 rk [sE,nI] H12 R)))
theorem parseOperationType.enter (p:Nat) (H:Heap) (R:RR) (h:parseOperationType.W p H R):Fn PP fq142 #[(pq p)] H R:=
 fnE Tryz.func142 (hz [(8,pTkE),(15,pStr),(17,pTk),(18,⟨Unit,fun _=>nI⟩),(22,pStr),(26,pStr),(30,pStr)]) (by unfold parseOperationType.W;kernel_rfl) h
def parseStringLiteral.W (p:Nat) (H:Heap) (R:RR):Prop:=
 k01 H true 4 ⟨p,5,none⟩ pTk fun(x1:Int×Int×Int×BA)=>
 newB H (.cells #[(.int .i64 0),(.int .i64 0),(.int .i64 0),sE] tq85) fun b2 H3=>
 k08 H3 ⟨b2,0,none⟩ [(.int .i64 x1.1),(.int .i64 x1.2.1),(.int .i64 x1.2.2.1),(.string x1.2.2.2)] fun H4=>
 k00 PP fq149 #[(pq p)] H4 ⟨Unit,fun _=>nI⟩ fun(_:Unit) H6=>
 lw H6 b2 3 pStr fun(x7:BA)=>
 lw H6 b2 1 (pInt .i64) fun(x8:Int)=>
 k00 PP fq141 #[(pq p),(.int .i64 x8)] H6 pBlk fun(x9:Nat) H10=>
 lc H10 b2 3 (.string x7)∧
 newB H10 (.cells #[sE,(pq x9),(.string x7)] tq183) fun b11 H12=>
 k00 PP fq206 #[(pq b11)] H12 pBlk fun(x13:Nat) H14=>
 rk [(pq x13),nI] H14 R
theorem parseStringLiteral.enter (p:Nat) (H:Heap) (R:RR) (h:parseStringLiteral.W p H R):Fn PP fq164 #[(pq p)] H R:=
 fnE Tryz.func164 (hz [(9,pTk),(11,⟨Unit,fun _=>nI⟩),(16,pStr),(19,(pInt .i64)),(20,pBlk),(23,pBlk)]) (by unfold parseStringLiteral.W;kernel_rfl) h
def parseDescription.W (p:Nat) (H:Heap) (R:RR):Prop:=
 k00 PP fq163 #[(pq p)] H k04 fun(x1:Bool) H2=>
 k02 x1
 (k00 PP fq164 #[(pq p)] H2 pBlE fun(x3:Nat) H4=>
 rk [(pq x3),nI] H4 R)
 (rk [(.pointer none),nI] H2 R)
theorem parseDescription.enter (p:Nat) (H:Heap) (R:RR) (h:parseDescription.W p H R):Fn PP fq108 #[(pq p)] H R:=
 fnE Tryz.func108 (hz [(5,k04),(7,pBlE)]) (by unfold parseDescription.W;kernel_rfl) h
def parseDirectives.W (p:Nat) (H:Heap) (R:RR):Prop:=
 newB H (.cells #[] tq99) fun b1 H2=>
 k0e (Sl×Unit) (((some ⟨b1,0,none⟩),0,0),()) H2 fun z3 H4 next5=>
 k00 PP fq153 #[(pq p),(.int .i64 9)] H4 k04 fun(x6:Bool) H7=>
 k02 x6
 (k00 PP fq115 #[(pq p)] H7 pBlE fun(x8:Nat) H9=>
 newB H9 (.cells #[(pq x8)] tq99) fun b10 H11=>
 appK H11 tq99 1 8 z3.1.1 z3.1.2.1 z3.1.2.2 (some ⟨b10,0,none⟩) 1 fun a12 c13 H14=>
 next5 ((a12,(z3.1.2.1+1),c13),()) H14)
 (rk [(.slice z3.1.1 z3.1.2.1 z3.1.2.2),nI] H7 R)
theorem parseDirectives.enter (p:Nat) (H:Heap) (R:RR) (h:parseDirectives.W p H R):Fn PP fq138 #[(pq p)] H R:=
 fnE Tryz.func138 ⟨patL [(9,k04),(12,pBlE)],k06 [(0,[Slot.slc 4])],k03 [],k03 [],k05 []⟩ (by unfold parseDirectives.W;kernel_rfl) h
def parseDirective.W (p:Nat) (H:Heap) (R:RR):Prop:=
 lw H p 6 (pInt .i64) fun(x1:Int)=>
 k00 PP fq143 #[(pq p),(.int .i64 9)] H pTkE fun(_x2:Int×Int×Int×BA) H3=>
 k00 PP fq146 #[(pq p)] H3 pBlE fun(x4:Nat) H5=>
 k00 PP fq173 #[(pq p)] H5 pSlE fun(x6:Sl) H7=>
 k00 PP fq141 #[(pq p),(.int .i64 x1)] H7 pBlk fun(x8:Nat) H9=>
 newB H9 (.cells #[sE,(pq x8),(pq x4),(.slice x6.1 x6.2.1 x6.2.2)] tq182) fun b10 H11=>
 k00 PP fq178 #[(pq b10)] H11 pBlk fun(x12:Nat) H13=>
 rk [(pq x12),nI] H13 R
theorem parseDirective.enter (p:Nat) (H:Heap) (R:RR) (h:parseDirective.W p H R):Fn PP fq115 #[(pq p)] H R:=
 fnE Tryz.func115 (hz [(12,(pInt .i64)),(15,pTkE),(23,pBlE),(31,pSlE),(41,pBlk),(44,pBlk)]) (by unfold parseDirective.W;kernel_rfl) h
def parseFragmentName.W (p:Nat) (H:Heap) (R:RR):Prop:=
 lw H p 8 pStr fun(x1:BA)=>
 k02 (x1.toList==(bs [111,110]).toList)
 (k00 PP fq201 #[(pq p),(.agg #[(.int .i64 0),(.int .i64 0),(.int .i64 0),sE])] H ⟨Unit,fun _=>nI⟩ fun(_:Unit) H3=>
 rk [(.pointer none),nI] H3 R)
 (k00 PP fq146 #[(pq p)] H pBlE fun(x4:Nat) H5=>
 rk [(pq x4),nI] H5 R)
theorem parseFragmentName.enter (p:Nat) (H:Heap) (R:RR) (h:parseFragmentName.W p H R):Fn PP fq168 #[(pq p)] H R:=
 fnE Tryz.func168 (hz [(8,pStr),(12,⟨Unit,fun _=>nI⟩),(14,pBlE)]) (by unfold parseFragmentName.W;kernel_rfl) h
def parseVariable.W (p:Nat) (H:Heap) (R:RR):Prop:=
 lw H p 6 (pInt .i64) fun(x1:Int)=>
 k00 PP fq143 #[(pq p),(.int .i64 3)] H pTkE fun(_x2:Int×Int×Int×BA) H3=>
 k00 PP fq146 #[(pq p)] H3 pBlE fun(x4:Nat) H5=>
 k00 PP fq141 #[(pq p),(.int .i64 x1)] H5 pBlk fun(x6:Nat) H7=>
 newB H7 (.cells #[sE,(pq x6),(pq x4)] tq176) fun b8 H9=>
 k00 PP fq209 #[(pq b8)] H9 pBlk fun(x10:Nat) H11=>
 rk [(pq x10),nI] H11 R
theorem parseVariable.enter (p:Nat) (H:Heap) (R:RR) (h:parseVariable.W p H R):Fn PP fq170 #[(pq p)] H R:=
 fnE Tryz.func170 (hz [(11,(pInt .i64)),(14,pTkE),(22,pBlE),(31,pBlk),(34,pBlk)]) (by unfold parseVariable.W;kernel_rfl) h
def parseType.W (p:Nat) (H:Heap) (R:RR):Prop:=
 k01 H true 4 ⟨p,5,none⟩ pTk fun(x1:Int×Int×Int×BA)=>
 newB H (.cells #[(.int .i64 0),(.int .i64 0),(.int .i64 0),sE] tq85) fun b2 H3=>
 k08 H3 ⟨b2,0,none⟩ [(.int .i64 x1.1),(.int .i64 x1.2.1),(.int .i64 x1.2.2.1),(.string x1.2.2.2)] fun H4=>
 lw H4 b2 0 (pInt .i64) fun(x5:Int)=>
 k02 (x5==10)
 (k00 PP fq149 #[(pq p)] H4 ⟨Unit,fun _=>nI⟩ fun(_:Unit) H7=>
 k00 PP fq151 #[(pq p)] H7 pIfE fun(x8:(Nat×Nat)) H9=>
 k00 PP fq149 #[(pq p)] H9 ⟨Unit,fun _=>nI⟩ fun(_:Unit) H11=>
 lw H11 b2 1 (pInt .i64) fun(x12:Int)=>
 k00 PP fq141 #[(pq p),(.int .i64 x12)] H11 pBlk fun(x13:Nat) H14=>
 newB H14 (.cells #[sE,(pq x13),(.iface x8.1 (pq x8.2))] tq297) fun b15 H16=>
 k00 PP fq204 #[(pq b15)] H16 pBlk fun(x17:Nat) H18=>
 k00 PP fq150 #[(pq p),(.int .i64 2)] H18 pBoE fun(x19:Bool) H20=>
 k02 x19
 (lw H20 b2 1 (pInt .i64) fun(x21:Int)=>
 k00 PP fq141 #[(pq p),(.int .i64 x21)] H20 pBlk fun(x22:Nat) H23=>
 newB H23 (.cells #[sE,(pq x22),(.iface tq295 (pq x17))] tq299) fun b24 H25=>
 k00 PP fq205 #[(pq b24)] H25 pBlk fun(x26:Nat) H27=>
 rk [(.iface tq298 (pq x26)),nI] H27 R)
 (rk [(.iface tq295 (pq x17)),nI] H20 R))
 (k02 (x5==11)
 (k00 PP fq149 #[(pq p)] H4 ⟨Unit,fun _=>nI⟩ fun(_:Unit) H29=>
 lw H29 b2 1 (pInt .i64) fun(x30:Int)=>
 k00 PP fq141 #[(pq p),(.int .i64 x30)] H29 pBlk fun(x31:Nat) H32=>
 newB H32 (.cells #[sE,(pq x31),nI] tq297) fun b33 H34=>
 k00 PP fq204 #[(pq b33)] H34 pBlk fun(x35:Nat) H36=>
 k00 PP fq150 #[(pq p),(.int .i64 2)] H36 pBoE fun(x37:Bool) H38=>
 k02 x37
 (lw H38 b2 1 (pInt .i64) fun(x39:Int)=>
 k00 PP fq141 #[(pq p),(.int .i64 x39)] H38 pBlk fun(x40:Nat) H41=>
 newB H41 (.cells #[sE,(pq x40),(.iface tq295 (pq x35))] tq299) fun b42 H43=>
 k00 PP fq205 #[(pq b42)] H43 pBlk fun(x44:Nat) H45=>
 rk [(.iface tq298 (pq x44)),nI] H45 R)
 (rk [(.iface tq295 (pq x35)),nI] H38 R))
 (k02 (x5==15)
 (k00 PP fq144 #[(pq p)] H4 pBlE fun(x46:Nat) H47=>
 k00 PP fq150 #[(pq p),(.int .i64 2)] H47 pBoE fun(x48:Bool) H49=>
 k02 x48
 (lw H49 b2 1 (pInt .i64) fun(x50:Int)=>
 k00 PP fq141 #[(pq p),(.int .i64 x50)] H49 pBlk fun(x51:Nat) H52=>
 newB H52 (.cells #[sE,(pq x51),(.iface tq107 (pq x46))] tq299) fun b53 H54=>
 k00 PP fq205 #[(pq b53)] H54 pBlk fun(x55:Nat) H56=>
 rk [(.iface tq298 (pq x55)),nI] H56 R)
 (rk [(.iface tq107 (pq x46)),nI] H49 R))
 (k00 PP fq150 #[(pq p),(.int .i64 2)] H4 pBoE fun(x57:Bool) H58=>
 k02 x57
 (lw H58 b2 1 (pInt .i64) fun(x59:Int)=>
 k00 PP fq141 #[(pq p),(.int .i64 x59)] H58 pBlk fun(x60:Nat) H61=>
 newB H61 (.cells #[sE,(pq x60),nI] tq299) fun b62 H63=>
 k00 PP fq205 #[(pq b62)] H63 pBlk fun(x64:Nat) H65=>
 rk [(.iface tq298 (pq x64)),nI] H65 R)
 (rk [nI,nI] H58 R))))
theorem parseType.enter (p:Nat) (H:Heap) (R:RR) (h:parseType.W p H R):Fn PP fq151 #[(pq p)] H R:=
 fnE Tryz.func151 (hz [(10,pTk),(12,(pInt .i64)),(20,⟨Unit,fun _=>nI⟩),(26,pIfE),(33,⟨Unit,fun _=>nI⟩),(40,(pInt .i64)),(41,pBlk),(44,pBlk),(48,pBlE),(57,pBoE),(67,(pInt .i64)),(68,pBlk),(71,pBlk)]) (by unfold parseType.W;kernel_rfl) h
def parseImplementsInterfaces.W (p:Nat) (H:Heap) (R:RR):Prop:=
 newB H (.cells #[] tq107) fun b1 H2=>
 lw H2 p 8 pStr fun(x3:BA)=>
 k02 (x3.toList==(bs [105,109,112,108,101,109,101,110,116,115]).toList)
 (k00 PP fq149 #[(pq p)] H2 ⟨Unit,fun _=>nI⟩ fun(_:Unit) H5=>
 k00 PP fq150 #[(pq p),(.int .i64 20)] H5 pBoE fun(_x6:Bool) H7=>
 k0e (Sl×Unit) (((some ⟨b1,0,none⟩),0,0),()) H7 fun z8 H9 next10=>
 k00 PP fq144 #[(pq p)] H9 pBlE fun(x11:Nat) H12=>
 newB H12 (.cells #[(pq x11)] tq107) fun b13 H14=>
 appK H14 tq107 1 8 z8.1.1 z8.1.2.1 z8.1.2.2 (some ⟨b13,0,none⟩) 1 fun a15 c16 H17=>
 k00 PP fq150 #[(pq p),(.int .i64 20)] H17 pBoE fun(x18:Bool) H19=>
 k02 (!x18)
 (rk [(.slice a15 (z8.1.2.1+1) c16),nI] H19 R)
 (next10 ((a15,(z8.1.2.1+1),c16),()) H19))
 (rk [(.slice (some ⟨b1,0,none⟩) 0 0),nI] H2 R)
theorem parseImplementsInterfaces.enter (p:Nat) (H:Heap) (R:RR) (h:parseImplementsInterfaces.W p H R):Fn PP fq93 #[(pq p)] H R:=
 fnE Tryz.func93 ⟨patL [(15,pStr),(18,⟨Unit,fun _=>nI⟩),(23,pBoE),(26,pBlE),(39,pBoE)],k06 [(0,[Slot.slc 4])],k03 [],k03 [],k05 []⟩ (by unfold parseImplementsInterfaces.W;kernel_rfl) h
def parseUnionMembers.W (p:Nat) (H:Heap) (R:RR):Prop:=
 newB H (.cells #[] tq107) fun b1 H2=>
 k0e (Sl×Unit) (((some ⟨b1,0,none⟩),0,0),()) H2 fun z3 H4 next5=>
 k00 PP fq144 #[(pq p)] H4 pBlE fun(x6:Nat) H7=>
 newB H7 (.cells #[(pq x6)] tq107) fun b8 H9=>
 appK H9 tq107 1 8 z3.1.1 z3.1.2.1 z3.1.2.2 (some ⟨b8,0,none⟩) 1 fun a10 c11 H12=>
 k00 PP fq150 #[(pq p),(.int .i64 13)] H12 pBoE fun(x13:Bool) H14=>
 k02 (!x13)
 (rk [(.slice a10 (z3.1.2.1+1) c11),nI] H14 R)
 (next5 ((a10,(z3.1.2.1+1),c11),()) H14)
theorem parseUnionMembers.enter (p:Nat) (H:Heap) (R:RR) (h:parseUnionMembers.W p H R):Fn PP fq100 #[(pq p)] H R:=
 fnE Tryz.func100 ⟨patL [(12,pBlE),(25,pBoE)],k06 [(0,[Slot.slc 4])],k03 [],k03 [],k05 []⟩ (by unfold parseUnionMembers.W;kernel_rfl) h
def parseDirectiveLocations.W (p:Nat) (H:Heap) (R:RR):Prop:=
 newB H (.cells #[] tq111) fun b1 H2=>
 k0e (Sl×Unit) (((some ⟨b1,0,none⟩),0,0),()) H2 fun z3 H4 next5=>
 k00 PP fq146 #[(pq p)] H4 pBlE fun(x6:Nat) H7=>
 newB H7 (.cells #[(pq x6)] tq111) fun b8 H9=>
 appK H9 tq111 1 8 z3.1.1 z3.1.2.1 z3.1.2.2 (some ⟨b8,0,none⟩) 1 fun a10 c11 H12=>
 k00 PP fq150 #[(pq p),(.int .i64 13)] H12 pBoE fun(x13:Bool) H14=>
 k02 (!x13)
 (rk [(.slice a10 (z3.1.2.1+1) c11),nI] H14 R)
 (next5 ((a10,(z3.1.2.1+1),c11),()) H14)
theorem parseDirectiveLocations.enter (p:Nat) (H:Heap) (R:RR) (h:parseDirectiveLocations.W p H R):Fn PP fq107 #[(pq p)] H R:=
 fnE Tryz.func107 ⟨patL [(12,pBlE),(25,pBoE)],k06 [(0,[Slot.slc 4])],k03 [],k03 [],k05 []⟩ (by unfold parseDirectiveLocations.W;kernel_rfl) h
def parseOperationTypeDefinition.W (p:Nat) (H:Heap) (R:RR):Prop:=
 lw H p 6 (pInt .i64) fun(x1:Int)=>
 k00 PP fq142 #[(pq p)] H ⟨BA,fun x=>(.tuple #[(.string x),nI])⟩ fun(x2:BA) H3=>
 k00 PP fq143 #[(pq p),(.int .i64 7)] H3 pTkE fun(_x4:Int×Int×Int×BA) H5=>
 k00 PP fq144 #[(pq p)] H5 pBlE fun(x6:Nat) H7=>
 k00 PP fq141 #[(pq p),(.int .i64 x1)] H7 pBlk fun(x8:Nat) H9=>
 newB H9 (.cells #[sE,(pq x8),(.string x2),(pq x6)] tq109) fun b10 H11=>
 k00 PP fq145 #[(pq b10)] H11 pBlk fun(x12:Nat) H13=>
 rk [(.iface tq104 (pq x12)),nI] H13 R
theorem parseOperationTypeDefinition.enter (p:Nat) (H:Heap) (R:RR) (h:parseOperationTypeDefinition.W p H R):Fn PP fq89 #[(pq p)] H R:=
 fnE Tryz.func89 (hz [(12,(pInt .i64)),(15,⟨BA,fun x=>(.tuple #[(.string x),nI])⟩),(23,pTkE),(31,pBlE),(41,pBlk),(44,pBlk)]) (by unfold parseOperationTypeDefinition.W;kernel_rfl) h
def parseScalarTypeDefinition.W (p:Nat) (H:Heap) (R:RR):Prop:=
 lw H p 6 (pInt .i64) fun(x1:Int)=>
 k00 PP fq108 #[(pq p)] H ⟨OA,fun x=>(.tuple #[(.pointer x),nI])⟩ fun(x2:OA) H3=>
 k00 PP fq137 #[(pq p),(.string (bs [115,99,97,108,97,114]))] H3 pTkE fun(_x4:Int×Int×Int×BA) H5=>
 k00 PP fq146 #[(pq p)] H5 pBlE fun(x6:Nat) H7=>
 k00 PP fq138 #[(pq p)] H7 pSlE fun(x8:Sl) H9=>
 k00 PP fq141 #[(pq p),(.int .i64 x1)] H9 pBlk fun(x10:Nat) H11=>
 newB H11 (.cells #[sE,(pq x10),(.pointer x2),(pq x6),(.slice x8.1 x8.2.1 x8.2.2)] tq234) fun b12 H13=>
 k00 PP fq147 #[(pq b12)] H13 pBlk fun(x14:Nat) H15=>
 rk [(.iface tq231 (pq x14)),nI] H15 R
theorem parseScalarTypeDefinition.enter (p:Nat) (H:Heap) (R:RR) (h:parseScalarTypeDefinition.W p H R):Fn PP fq90 #[(pq p)] H R:=
 fnE Tryz.func90 (hz [(14,(pInt .i64)),(17,⟨OA,fun x=>(.tuple #[(.pointer x),nI])⟩),(25,pTkE),(33,pBlE),(41,pSlE),(52,pBlk),(55,pBlk)]) (by unfold parseScalarTypeDefinition.W;kernel_rfl) h
def parseEnumValueDefinition.W (p:Nat) (H:Heap) (R:RR):Prop:=
 lw H p 6 (pInt .i64) fun(x1:Int)=>
 k00 PP fq108 #[(pq p)] H ⟨OA,fun x=>(.tuple #[(.pointer x),nI])⟩ fun(x2:OA) H3=>
 k00 PP fq146 #[(pq p)] H3 pBlE fun(x4:Nat) H5=>
 k00 PP fq138 #[(pq p)] H5 pSlE fun(x6:Sl) H7=>
 k00 PP fq141 #[(pq p),(.int .i64 x1)] H7 pBlk fun(x8:Nat) H9=>
 newB H9 (.cells #[sE,(pq x8),(pq x4),(.pointer x2),(.slice x6.1 x6.2.1 x6.2.2)] tq125) fun b10 H11=>
 k00 PP fq159 #[(pq b10)] H11 pBlk fun(x12:Nat) H13=>
 rk [(.iface tq123 (pq x12)),nI] H13 R
theorem parseEnumValueDefinition.enter (p:Nat) (H:Heap) (R:RR) (h:parseEnumValueDefinition.W p H R):Fn PP fq102 #[(pq p)] H R:=
 fnE Tryz.func102 (hz [(13,(pInt .i64)),(16,⟨OA,fun x=>(.tuple #[(.pointer x),nI])⟩),(24,pBlE),(32,pSlE),(43,pBlk),(46,pBlk)]) (by unfold parseEnumValueDefinition.W;kernel_rfl) h
def parseTypeExtensionDefinition.W (p:Nat) (H:Heap) (R:RR):Prop:=
 lw H p 6 (pInt .i64) fun(x1:Int)=>
 k00 PP fq137 #[(pq p),(.string (bs [101,120,116,101,110,100]))] H pTkE fun(x2:Int×Int×Int×BA) H3=>
 newB H3 (.cells #[(.int .i64 0),(.int .i64 0),(.int .i64 0),sE] tq85) fun b4 H5=>
 k08 H5 ⟨b4,0,none⟩ [(.int .i64 x2.1),(.int .i64 x2.2.1),(.int .i64 x2.2.2.1),(.string x2.2.2.2)] fun H6=>
 k00 PP fq91 #[(pq p)] H6 ⟨Nat,fun x=>(.tuple #[(.iface tq235 (pq x)),nI])⟩ fun(x7:Nat) H8=>
 k00 PP fq141 #[(pq p),(.int .i64 x1)] H8 pBlk fun(x9:Nat) H10=>
 newB H10 (.cells #[sE,(pq x9),(pq x7)] tq269) fun b11 H12=>
 k00 PP fq161 #[(pq b11)] H12 pBlk fun(x13:Nat) H14=>
 rk [(.iface tq266 (pq x13)),nI] H14 R
theorem parseTypeExtensionDefinition.enter (p:Nat) (H:Heap) (R:RR) (h:parseTypeExtensionDefinition.W p H R):Fn PP fq104 #[(pq p)] H R:=
 fnE Tryz.func104 (hz [(12,(pInt .i64)),(15,pTkE),(23,⟨Nat,fun x=>(.tuple #[(.iface tq235 (pq x)),nI])⟩),(31,pBlk),(36,pBlk)]) (by unfold parseTypeExtensionDefinition.W;kernel_rfl) h
def parseDirectiveDefinition.W (p:Nat) (H:Heap) (R:RR):Prop:=
 lw H p 6 (pInt .i64) fun(x1:Int)=>
 k00 PP fq108 #[(pq p)] H ⟨OA,fun x=>(.tuple #[(.pointer x),nI])⟩ fun(x2:OA) H3=>
 k00 PP fq137 #[(pq p),(.string (bs [100,105,114,101,99,116,105,118,101]))] H3 pTkE fun(_x4:Int×Int×Int×BA) H5=>
 k00 PP fq143 #[(pq p),(.int .i64 9)] H5 pTkE fun(_x6:Int×Int×Int×BA) H7=>
 k00 PP fq146 #[(pq p)] H7 pBlE fun(x8:Nat) H9=>
 k00 PP fq96 #[(pq p)] H9 pSlE fun(x10:Sl) H11=>
 k00 PP fq137 #[(pq p),(.string (bs [111,110]))] H11 pTkE fun(_x12:Int×Int×Int×BA) H13=>
 k00 PP fq107 #[(pq p)] H13 pSlE fun(x14:Sl) H15=>
 k00 PP fq141 #[(pq p),(.int .i64 x1)] H15 pBlk fun(x16:Nat) H17=>
 newB H17 (.cells #[sE,(pq x16),(pq x8),(.pointer x2),(.slice x10.1 x10.2.1 x10.2.2),(.slice x14.1 x14.2.1 x14.2.2)] tq273) fun b18 H19=>
 k00 PP fq162 #[(pq b18)] H19 pBlk fun(x20:Nat) H21=>
 rk [(.iface tq270 (pq x20)),nI] H21 R
theorem parseDirectiveDefinition.enter (p:Nat) (H:Heap) (R:RR) (h:parseDirectiveDefinition.W p H R):Fn PP fq105 #[(pq p)] H R:=
 fnE Tryz.func105 (hz [(14,(pInt .i64)),(17,⟨OA,fun x=>(.tuple #[(.pointer x),nI])⟩),(25,pTkE),(33,pTkE),(41,pBlE),(49,pSlE),(57,pTkE),(65,pSlE),(73,pBlk),(80,pBlk)]) (by unfold parseDirectiveDefinition.W;kernel_rfl) h
def parseUnionTypeDefinition.W (p:Nat) (H:Heap) (R:RR):Prop:=
 lw H p 6 (pInt .i64) fun(x1:Int)=>
 k00 PP fq108 #[(pq p)] H ⟨OA,fun x=>(.tuple #[(.pointer x),nI])⟩ fun(x2:OA) H3=>
 k00 PP fq137 #[(pq p),(.string (bs [117,110,105,111,110]))] H3 pTkE fun(_x4:Int×Int×Int×BA) H5=>
 k00 PP fq146 #[(pq p)] H5 pBlE fun(x6:Nat) H7=>
 k00 PP fq138 #[(pq p)] H7 pSlE fun(x8:Sl) H9=>
 k00 PP fq143 #[(pq p),(.int .i64 8)] H9 pTkE fun(_x10:Int×Int×Int×BA) H11=>
 k00 PP fq100 #[(pq p)] H11 pSlE fun(x12:Sl) H13=>
 k00 PP fq141 #[(pq p),(.int .i64 x1)] H13 pBlk fun(x14:Nat) H15=>
 newB H15 (.cells #[sE,(pq x14),(pq x6),(.pointer x2),(.slice x8.1 x8.2.1 x8.2.2),(.slice x12.1 x12.2.1 x12.2.2)] tq255) fun b16 H17=>
 k00 PP fq157 #[(pq b16)] H17 pBlk fun(x18:Nat) H19=>
 rk [(.iface tq252 (pq x18)),nI] H19 R
theorem parseUnionTypeDefinition.enter (p:Nat) (H:Heap) (R:RR) (h:parseUnionTypeDefinition.W p H R):Fn PP fq99 #[(pq p)] H R:=
 fnE Tryz.func99 (hz [(14,(pInt .i64)),(17,⟨OA,fun x=>(.tuple #[(.pointer x),nI])⟩),(25,pTkE),(33,pBlE),(41,pSlE),(49,pTkE),(57,pSlE),(68,pBlk),(72,pBlk)]) (by unfold parseUnionTypeDefinition.W;kernel_rfl) h
def parseFieldDefinition.W (p:Nat) (H:Heap) (R:RR):Prop:=
 lw H p 6 (pInt .i64) fun(x1:Int)=>
 k00 PP fq108 #[(pq p)] H ⟨OA,fun x=>(.tuple #[(.pointer x),nI])⟩ fun(x2:OA) H3=>
 k00 PP fq146 #[(pq p)] H3 pBlE fun(x4:Nat) H5=>
 k00 PP fq96 #[(pq p)] H5 pSlE fun(x6:Sl) H7=>
 k00 PP fq143 #[(pq p),(.int .i64 7)] H7 pTkE fun(_x8:Int×Int×Int×BA) H9=>
 k00 PP fq151 #[(pq p)] H9 pIfE fun(x10:(Nat×Nat)) H11=>
 k00 PP fq138 #[(pq p)] H11 pSlE fun(x12:Sl) H13=>
 k00 PP fq141 #[(pq p),(.int .i64 x1)] H13 pBlk fun(x14:Nat) H15=>
 newB H15 (.cells #[sE,(pq x14),(pq x4),(.pointer x2),(.slice x6.1 x6.2.1 x6.2.2),(.iface x10.1 (pq x10.2)),(.slice x12.1 x12.2.1 x12.2.2)] tq187) fun b16 H17=>
 k00 PP fq152 #[(pq b16)] H17 pBlk fun(x18:Nat) H19=>
 rk [(.iface tq117 (pq x18)),nI] H19 R
theorem parseFieldDefinition.enter (p:Nat) (H:Heap) (R:RR) (h:parseFieldDefinition.W p H R):Fn PP fq94 #[(pq p)] H R:=
 fnE Tryz.func94 (hz [(15,(pInt .i64)),(18,⟨OA,fun x=>(.tuple #[(.pointer x),nI])⟩),(26,pBlE),(34,pSlE),(42,pTkE),(50,pIfE),(58,pSlE),(71,pBlk),(74,pBlk)]) (by unfold parseFieldDefinition.W;kernel_rfl) h
end Go.Vx
