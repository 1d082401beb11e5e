/- A part of the proof of what the last text of this claim says: WB2. Conditions: none. -/
import Derived.Test.YtkopcepfeeemhaaGreatDoorZAc
namespace Go.Vx
open Go Go.Proofs
set_option maxRecDepth 100000
def advance.W (p:Nat) (H:Heap) (R:RR):Prop:=
 lw H p 7 (pInt .i64) fun(x1:Int)=>
 storeW H ⟨p,4,none⟩ [(.int .i64 x1)] fun H2=>
 lw H2 p 0 ⟨Nat×Nat,fun x=>(.func (.func fq196) #[] #[(pq x.1),(pq x.2)])⟩ fun(x3:Nat×Nat)=>
 lw H2 p 4 (pInt .i64) fun(x4:Int)=>
 (callW PP fq196 #[(.int .i64 x4),(pq x3.1),(pq x3.2)] H2 pTkE fun(x5:Int×Int×Int×ByteArray) H6=>
 newB H6 (.cells #[(.int .i64 0),(.int .i64 0),(.int .i64 0),(.string (bs []))] tq85) fun b7 H8=>
 lc H8 p 4 (.int .i64 x4)∧
 lc H8 p 0 (.func (.func fq196) #[] #[(pq x3.1),(pq x3.2)])∧
 storeW H8 ⟨b7,0,none⟩ [(.int .i64 x5.1),(.int .i64 x5.2.1),(.int .i64 x5.2.2.1),(.string x5.2.2.2)] fun H9=>
 loadW H9 true 4 ⟨b7,0,none⟩ pTk fun(x10:Int×Int×Int×ByteArray)=>
 storeW H9 ⟨p,5,none⟩ [(.int .i64 x10.1),(.int .i64 x10.2.1),(.int .i64 x10.2.2.1),(.string x10.2.2.2)] fun H11=>
 retK (some [.nilIface]) H11 R)∧
 (newB H2 (.cells #[(.int .i64 0),(.int .i64 0),(.int .i64 0),(.string (bs []))] tq85) fun b12 H13=>
 lc H13 p 4 (.int .i64 x4)∧
 lc H13 p 0 (.func (.func fq196) #[] #[(pq x3.1),(pq x3.2)])∧
 callW PP fq196 #[(.int .i64 x4),(pq x3.1),(pq x3.2)] H13 pTkE fun(x14:Int×Int×Int×ByteArray) H15=>
 storeW H15 ⟨b12,0,none⟩ [(.int .i64 x14.1),(.int .i64 x14.2.1),(.int .i64 x14.2.2.1),(.string x14.2.2.2)] fun H16=>
 loadW H16 true 4 ⟨b12,0,none⟩ pTk fun(x17:Int×Int×Int×ByteArray)=>
 storeW H16 ⟨p,5,none⟩ [(.int .i64 x17.1),(.int .i64 x17.2.1),(.int .i64 x17.2.2.1),(.string x17.2.2.2)] fun H18=>
 retK (some [.nilIface]) H18 R)
theorem advance.enter (p:Nat) (H:Heap) (R:RR) (h:advance.W p H R):Fn PP fq149 #[(pq p)] H R:=
 fnS mixed Tryz.func149 (hz [(10,(pInt .i64)),(17,⟨Nat×Nat,fun x=>(.func (.func fq196) #[] #[(pq x.1),(pq x.2)])⟩),(21,(pInt .i64)),(22,pTkE),(29,pTk)]) _ H R (Eq.mp (by unfold advance.W;kernel_rfl) h)
def peek.W (p:Nat) (k:Int) (H:Heap) (R:RR):Prop:=
 lw H p 5 (pInt .i64) fun(x1:Int)=>
 retK (some [(.bool (x1==k))]) H R
theorem peek.enter (p:Nat) (k:Int) (H:Heap) (R:RR) (h:peek.W p k H R):Fn PP fq153 #[(pq p),(.int .i64 k)] H R:=
 fnS mixed Tryz.func153 (hz [(9,(pInt .i64))]) _ H R (Eq.mp (by unfold peek.W;kernel_rfl) h)
def peekDescription.W (p:Nat) (H:Heap) (R:RR):Prop:=
 joinK (Bool×Unit) (fun J1=>
 callW PP fq153 #[(pq p),(.int .i64 18)] H pBool fun(x4:Bool) H5=>
 forkB x4
 (J1 (true,()) H5)
 (callW PP fq153 #[(pq p),(.int .i64 19)] H5 pBool fun(x6:Bool) H7=>
 J1 (x6,()) H7)) fun y2 H3=>
 retK (some [(.bool y2.1)]) H3 R
theorem peekDescription.enter (p:Nat) (H:Heap) (R:RR) (h:peekDescription.W p H R):Fn PP fq163 #[(pq p)] H R:=
 fnS mixed Tryz.func163 ⟨patL [(4,pBool),(7,pBool)],loopL [],joinL [],joinL [],joinRL [(1,[Slot.bool 2],false)]⟩ _ H R (Eq.mp (by unfold peekDescription.W;kernel_rfl) h)
def skip.W (p:Nat) (k:Int) (H:Heap) (R:RR):Prop:=
 lw H p 5 (pInt .i64) fun(x1:Int)=>
 forkB (x1==k)
 (callW PP fq149 #[(pq p)] H ⟨Unit,fun _=> .nilIface⟩ fun(_:Unit) H3=>
 retK (some [(.bool true),.nilIface]) H3 R)
 (retK (some [(.bool false),.nilIface]) H R)
theorem skip.enter (p:Nat) (k:Int) (H:Heap) (R:RR) (h:skip.W p k H R):Fn PP fq150 #[(pq p),(.int .i64 k)] H R:=
 fnS mixed Tryz.func150 (hz [(10,(pInt .i64)),(14,⟨Unit,fun _=> .nilIface⟩)]) _ H R (Eq.mp (by unfold skip.W;kernel_rfl) h)
def expect.W (p:Nat) (k:Int) (H:Heap) (R:RR):Prop:=
 newB H (.cells #[(.int .i64 0),(.int .i64 0),(.int .i64 0),(.string (bs []))] tq85) fun b1 H2=>
 loadW H2 true 4 ⟨p,5,none⟩ pTk fun(x3:Int×Int×Int×ByteArray)=>
 newB H2 (.cells #[(.int .i64 0),(.int .i64 0),(.int .i64 0),(.string (bs []))] tq85) fun b4 H5=>
 storeW H5 ⟨b4,0,none⟩ [(.int .i64 x3.1),(.int .i64 x3.2.1),(.int .i64 x3.2.2.1),(.string x3.2.2.2)] fun H6=>
 lw H6 b4 0 (pInt .i64) fun(x7:Int)=>
 forkB (x7==k)
 (loadW H6 true 4 ⟨b4,0,none⟩ pTk fun(x8:Int×Int×Int×ByteArray)=>
 callW PP fq149 #[(pq p)] H6 ⟨Unit,fun _=> .nilIface⟩ fun(_:Unit) H10=>
 loadC H10 true 4 ⟨b4,0,none⟩=some (.agg #[(.int .i64 x8.1),(.int .i64 x8.2.1),(.int .i64 x8.2.2.1),(.string x8.2.2.2)])∧
 storeW H10 ⟨b1,0,none⟩ [(.int .i64 x8.1),(.int .i64 x8.2.1),(.int .i64 x8.2.2.1),(.string x8.2.2.2)] fun H11=>
 retK (consO (loadC H11 true 4 ⟨b1,0,none⟩) ((consO (some .nilIface) (some [])))) H11 R)
 (loadW H6 true 4 ⟨b4,0,none⟩ pTk fun(x12:Int×Int×Int×ByteArray)=>
 lw H6 p 1 pBlk fun(x13:Nat)=>
 lw H6 b4 1 (pInt .i64) fun(x14:Int)=>
 callW PP fq198 #[(pq x13),(.int .i64 x14),(.string (bs [69,120,112,101,99,116,101,100,32,37,115,44,32,102,111,117,110,100,32,37,115]))] H6 pBlk fun(x15:Nat) H16=>
 loadC H16 true 4 ⟨b4,0,none⟩=some (.agg #[(.int .i64 x12.1),(.int .i64 x12.2.1),(.int .i64 x12.2.2.1),(.string x12.2.2.2)])∧
 storeW H16 ⟨b1,0,none⟩ [(.int .i64 x12.1),(.int .i64 x12.2.1),(.int .i64 x12.2.2.1),(.string x12.2.2.2)] fun H17=>
 retK (consO (loadC H17 true 4 ⟨b1,0,none⟩) ((consO (some (.iface tq328 (pq x15))) (some [])))) H17 R)
theorem expect.enter (p:Nat) (k:Int) (H:Heap) (R:RR) (h:expect.W p k H R):Fn PP fq143 #[(pq p),(.int .i64 k)] H R:=
 fnS mixed Tryz.func143 (hz [(11,pTk),(13,(pInt .i64)),(16,pTk),(18,⟨Unit,fun _=> .nilIface⟩),(19,pTk),(23,pBlk),(25,(pInt .i64)),(27,pBlk)]) _ H R (Eq.mp (by unfold expect.W;kernel_rfl) h)
def expectKeyWord.W (p:Nat) (v:ByteArray) (H:Heap) (R:RR):Prop:=
 newB H (.cells #[(.int .i64 0),(.int .i64 0),(.int .i64 0),(.string (bs []))] tq85) fun b1 H2=>
 loadW H2 true 4 ⟨p,5,none⟩ pTk fun(x3:Int×Int×Int×ByteArray)=>
 newB H2 (.cells #[(.int .i64 0),(.int .i64 0),(.int .i64 0),(.string (bs []))] tq85) fun b4 H5=>
 storeW H5 ⟨b4,0,none⟩ [(.int .i64 x3.1),(.int .i64 x3.2.1),(.int .i64 x3.2.2.1),(.string x3.2.2.2)] fun H6=>
 joinPK (Bool×Unit) H6 (fun J7=>
 lw H6 b4 0 (pInt .i64) fun(x9:Int)=>
 forkB (x9==15)
 (lw H6 b4 3 pStr fun(x10:ByteArray)=>
 J7 ((x10.toList==v.toList),()) H6)
 (J7 (false,()) H6)) fun y8=>
 forkB y8.1
 (loadW H6 true 4 ⟨b4,0,none⟩ pTk fun(x11:Int×Int×Int×ByteArray)=>
 callW PP fq149 #[(pq p)] H6 ⟨Unit,fun _=> .nilIface⟩ fun(_:Unit) H13=>
 loadC H13 true 4 ⟨b4,0,none⟩=some (.agg #[(.int .i64 x11.1),(.int .i64 x11.2.1),(.int .i64 x11.2.2.1),(.string x11.2.2.2)])∧
 storeW H13 ⟨b1,0,none⟩ [(.int .i64 x11.1),(.int .i64 x11.2.1),(.int .i64 x11.2.2.1),(.string x11.2.2.2)] fun H14=>
 retK (consO (loadC H14 true 4 ⟨b1,0,none⟩) ((consO (some .nilIface) (some [])))) H14 R)
 (loadW H6 true 4 ⟨b4,0,none⟩ pTk fun(x15:Int×Int×Int×ByteArray)=>
 lw H6 p 1 pBlk fun(x16:Nat)=>
 lw H6 b4 1 (pInt .i64) fun(x17:Int)=>
 callW PP fq198 #[(pq x16),(.int .i64 x17),(.string (bs [69,120,112,101,99,116,101,100,32,34,37,115,34,44,32,102,111,117,110,100,32,37,115]))] H6 pBlk fun(x18:Nat) H19=>
 loadC H19 true 4 ⟨b4,0,none⟩=some (.agg #[(.int .i64 x15.1),(.int .i64 x15.2.1),(.int .i64 x15.2.2.1),(.string x15.2.2.2)])∧
 storeW H19 ⟨b1,0,none⟩ [(.int .i64 x15.1),(.int .i64 x15.2.1),(.int .i64 x15.2.2.1),(.string x15.2.2.2)] fun H20=>
 retK (consO (loadC H20 true 4 ⟨b1,0,none⟩) ((consO (some (.iface tq328 (pq x18))) (some [])))) H20 R)
theorem expectKeyWord.enter (p:Nat) (v:ByteArray) (H:Heap) (R:RR) (h:expectKeyWord.W p v H R):Fn PP fq137 #[(pq p),(.string v)] H R:=
 fnS mixed Tryz.func137 ⟨patL [(11,pTk),(13,(pInt .i64)),(17,pStr),(21,pTk),(23,⟨Unit,fun _=> .nilIface⟩),(24,pTk),(28,pBlk),(30,(pInt .i64)),(32,pBlk)],loopL [],joinL [],joinL [],joinRL [(2,[Slot.bool 20],true)]⟩ _ H R (Eq.mp (by unfold expectKeyWord.W;kernel_rfl) h)
def loc.W (p:Nat) (st:Int) (H:Heap) (R:RR):Prop:=
 lw H p 2 pBool fun(x1:Bool)=>
 forkB x1
 (retK (some [(.pointer none)]) H R)
 (lw H p 3 pBool fun(x2:Bool)=>
 forkB x2
 (lw H p 4 (pInt .i64) fun(x3:Int)=>
 newB H (.cells #[(.int .i64 st),(.int .i64 x3),(.pointer none)] tq185) fun b4 H5=>
 callW PP fq200 #[(pq b4)] H5 pBlk fun(x6:Nat) H7=>
 retK (some [(pq x6)]) H7 R)
 (lw H p 4 (pInt .i64) fun(x8:Int)=>
 lw H p 1 pBlk fun(x9:Nat)=>
 newB H (.cells #[(.int .i64 st),(.int .i64 x8),(pq x9)] tq185) fun b10 H11=>
 callW PP fq200 #[(pq b10)] H11 pBlk fun(x12:Nat) H13=>
 retK (some [(pq x12)]) H13 R))
theorem loc.enter (p:Nat) (st:Int) (H:Heap) (R:RR) (h:loc.W p st H R):Fn PP fq141 #[(pq p),(.int .i64 st)] H R:=
 fnS mixed Tryz.func141 (hz [(9,pBool),(14,pBool),(19,(pInt .i64)),(22,pBlk),(27,(pInt .i64)),(31,pBlk),(34,pBlk)]) _ H R (Eq.mp (by unfold loc.W;kernel_rfl) h)
def NewSource.W (s:Nat) (H:Heap) (R:RR):Prop:=
 lw H s 1 pStr fun(x1:ByteArray)=>
 forkB (x1.toList==(bs []).toList)
 (storeW H ⟨s,1,none⟩ [(.string (bs [71,114,97,112,104,81,76]))] fun H2=>
 retK (some [(pq s)]) H2 R)
 (retK (some [(pq s)]) H R)
theorem NewSource.enter (s:Nat) (H:Heap) (R:RR) (h:NewSource.W s H R):Fn PP fq86 #[(pq s)] H R:=
 fnS mixed Tryz.func86 (hz [(10,pStr)]) _ H R (Eq.mp (by unfold NewSource.W;kernel_rfl) h)
def makeParser.W (s:Nat) (H:Heap) (R:RR):Prop:=
 newB H (.cells #[(.bool false),(.bool false)] tq90) fun b1 H2=>
 callW PP fq136 #[(pq s)] H2 ⟨Nat×Nat,fun x=>(.func (.func fq196) #[] #[(pq x.1),(pq x.2)])⟩ fun(x3:Nat×Nat) H4=>
 callW PP fq196 #[(.int .i64 0),(pq x3.1),(pq x3.2)] H4 pTkE fun(x5:Int×Int×Int×ByteArray) H6=>
 newB H6 (.cells #[(.int .i64 0),(.int .i64 0),(.int .i64 0),(.string (bs []))] tq85) fun b7 H8=>
 storeW H8 ⟨b7,0,none⟩ [(.int .i64 x5.1),(.int .i64 x5.2.1),(.int .i64 x5.2.2.1),(.string x5.2.2.2)] fun H9=>
 loadW H9 true 2 ⟨b1,0,none⟩ ⟨Bool×Bool,fun x=>(.agg #[(.bool x.1),(.bool x.2)])⟩ fun(x10:Bool×Bool)=>
 loadW H9 true 4 ⟨b7,0,none⟩ pTk fun(x11:Int×Int×Int×ByteArray)=>
 newB H9 (.cells #[(.func (.func fq196) #[] #[(pq x3.1),(pq x3.2)]),(pq s),(.bool x10.1),(.bool x10.2),(.int .i64 0),(.int .i64 x11.1),(.int .i64 x11.2.1),(.int .i64 x11.2.2.1),(.string x11.2.2.2)] tq92) fun b12 H13=>
 retK (some [(pq b12),.nilIface]) H13 R
theorem makeParser.enter (s:Nat) (H:Heap) (R:RR) (h:makeParser.W s H R):Fn PP fq85 #[(pq s),(.agg #[(.bool false),(.bool false)])] H R:=
 fnS mixed Tryz.func85 (hz [(10,⟨Nat×Nat,fun x=>(.func (.func fq196) #[] #[(pq x.1),(pq x.2)])⟩),(13,pTkE),(23,⟨Bool×Bool,fun x=>(.agg #[(.bool x.1),(.bool x.2)])⟩),(24,pTk)]) _ H R (Eq.mp (by unfold makeParser.W;kernel_rfl) h)
def alone_.W (xT x:Nat) (H:Heap) (R:RR):Prop:=
 newB H (.cells #[(.iface xT (pq x))] tq20) fun b1 H2=>
 retK (some [(.slice (some ⟨b1,0,none⟩) 1 1),.nilIface]) H2 R
theorem alone_.enter (xT x:Nat) (H:Heap) (R:RR) (h:alone_.W xT x H R):Fn PP fq87 #[(.iface xT (pq x)),.nilIface] H R:=
 fnS mixed Tryz.func87 (hz []) _ H R (Eq.mp (by unfold alone_.W;kernel_rfl) h)
def parseName.W (p:Nat) (H:Heap) (R:RR):Prop:=
 callW PP fq143 #[(pq p),(.int .i64 15)] H pTkE fun(x1:Int×Int×Int×ByteArray) H2=>
 newB H2 (.cells #[(.int .i64 0),(.int .i64 0),(.int .i64 0),(.string (bs []))] tq85) fun b3 H4=>
 storeW H4 ⟨b3,0,none⟩ [(.int .i64 x1.1),(.int .i64 x1.2.1),(.int .i64 x1.2.2.1),(.string x1.2.2.2)] fun H5=>
 lw H5 b3 3 pStr fun(x6:ByteArray)=>
 lw H5 b3 1 (pInt .i64) fun(x7:Int)=>
 callW PP fq141 #[(pq p),(.int .i64 x7)] H5 pBlk fun(x8:Nat) H9=>
 lc H9 b3 3 (.string x6)∧
 newB H9 (.cells #[(.string (bs [])),(pq x8),(.string x6)] tq115) fun b10 H11=>
 callW PP fq203 #[(pq b10)] H11 pBlk fun(x12:Nat) H13=>
 retK (some [(pq x12),.nilIface]) H13 R
theorem parseName.enter (p:Nat) (H:Heap) (R:RR) (h:parseName.W p H R):Fn PP fq146 #[(pq p)] H R:=
 fnS mixed Tryz.func146 (hz [(8,pTkE),(15,pStr),(18,(pInt .i64)),(19,pBlk),(22,pBlk)]) _ H R (Eq.mp (by unfold parseName.W;kernel_rfl) h)
def parseNamed.W (p:Nat) (H:Heap) (R:RR):Prop:=
 lw H p 6 (pInt .i64) fun(x1:Int)=>
 callW PP fq146 #[(pq p)] H pBlE fun(x2:Nat) H3=>
 callW PP fq141 #[(pq p),(.int .i64 x1)] H3 pBlk fun(x4:Nat) H5=>
 newB H5 (.cells #[(.string (bs [])),(pq x4),(pq x2)] tq113) fun b6 H7=>
 callW PP fq202 #[(pq b6)] H7 pBlk fun(x8:Nat) H9=>
 retK (some [(pq x8),.nilIface]) H9 R
theorem parseNamed.enter (p:Nat) (H:Heap) (R:RR) (h:parseNamed.W p H R):Fn PP fq144 #[(pq p)] H R:=
 fnS mixed Tryz.func144 (hz [(11,(pInt .i64)),(14,pBlE),(23,pBlk),(26,pBlk)]) _ H R (Eq.mp (by unfold parseNamed.W;kernel_rfl) h)
def parseOperationType.W (p:Nat) (H:Heap) (R:RR):Prop:=
 callW PP fq143 #[(pq p),(.int .i64 15)] H pTkE fun(x1:Int×Int×Int×ByteArray) H2=>
 newB H2 (.cells #[(.int .i64 0),(.int .i64 0),(.int .i64 0),(.string (bs []))] tq85) fun b3 H4=>
 storeW H4 ⟨b3,0,none⟩ [(.int .i64 x1.1),(.int .i64 x1.2.1),(.int .i64 x1.2.2.1),(.string x1.2.2.2)] fun H5=>
 lw H5 b3 3 pStr fun(x6:ByteArray)=>
 forkB (x6.toList==(bs [113,117,101,114,121]).toList)
 (lw H5 b3 3 pStr fun(x7:ByteArray)=>
 retK (some [(.string x7),.nilIface]) H5 R)
 (forkB (x6.toList==(bs [109,117,116,97,116,105,111,110]).toList)
 (lw H5 b3 3 pStr fun(x8:ByteArray)=>
 retK (some [(.string x8),.nilIface]) H5 R)
 (forkB (x6.toList==(bs [115,117,98,115,99,114,105,112,116,105,111,110]).toList)
 (lw H5 b3 3 pStr fun(x9:ByteArray)=>
 retK (some [(.string x9),.nilIface]) H5 R)
 (loadW H5 true 4 ⟨b3,0,none⟩ pTk fun(x10:Int×Int×Int×ByteArray)=>
 callW PP fq201 #[(pq p),(.agg #[(.int .i64 x10.1),(.int .i64 x10.2.1),(.int .i64 x10.2.2.1),(.string x10.2.2.2)])] H5 ⟨Unit,fun _=> .nilIface⟩ fun(_:Unit) H12=>
 retK (some [(.string (bs [])),.nilIface]) H12 R)))
theorem parseOperationType.enter (p:Nat) (H:Heap) (R:RR) (h:parseOperationType.W p H R):Fn PP fq142 #[(pq p)] H R:=
 fnS mixed Tryz.func142 (hz [(8,pTkE),(15,pStr),(17,pTk),(18,⟨Unit,fun _=> .nilIface⟩),(22,pStr),(26,pStr),(30,pStr)]) _ H R (Eq.mp (by unfold parseOperationType.W;kernel_rfl) h)
def parseStringLiteral.W (p:Nat) (H:Heap) (R:RR):Prop:=
 loadW H true 4 ⟨p,5,none⟩ pTk fun(x1:Int×Int×Int×ByteArray)=>
 newB H (.cells #[(.int .i64 0),(.int .i64 0),(.int .i64 0),(.string (bs []))] tq85) fun b2 H3=>
 storeW H3 ⟨b2,0,none⟩ [(.int .i64 x1.1),(.int .i64 x1.2.1),(.int .i64 x1.2.2.1),(.string x1.2.2.2)] fun H4=>
 callW PP fq149 #[(pq p)] H4 ⟨Unit,fun _=> .nilIface⟩ fun(_:Unit) H6=>
 lw H6 b2 3 pStr fun(x7:ByteArray)=>
 lw H6 b2 1 (pInt .i64) fun(x8:Int)=>
 callW PP fq141 #[(pq p),(.int .i64 x8)] H6 pBlk fun(x9:Nat) H10=>
 lc H10 b2 3 (.string x7)∧
 newB H10 (.cells #[(.string (bs [])),(pq x9),(.string x7)] tq183) fun b11 H12=>
 callW PP fq206 #[(pq b11)] H12 pBlk fun(x13:Nat) H14=>
 retK (some [(pq x13),.nilIface]) H14 R
theorem parseStringLiteral.enter (p:Nat) (H:Heap) (R:RR) (h:parseStringLiteral.W p H R):Fn PP fq164 #[(pq p)] H R:=
 fnS mixed Tryz.func164 (hz [(9,pTk),(11,⟨Unit,fun _=> .nilIface⟩),(16,pStr),(19,(pInt .i64)),(20,pBlk),(23,pBlk)]) _ H R (Eq.mp (by unfold parseStringLiteral.W;kernel_rfl) h)
def parseDescription.W (p:Nat) (H:Heap) (R:RR):Prop:=
 callW PP fq163 #[(pq p)] H pBool fun(x1:Bool) H2=>
 forkB x1
 (callW PP fq164 #[(pq p)] H2 pBlE fun(x3:Nat) H4=>
 retK (some [(pq x3),.nilIface]) H4 R)
 (retK (some [(.pointer none),.nilIface]) H2 R)
theorem parseDescription.enter (p:Nat) (H:Heap) (R:RR) (h:parseDescription.W p H R):Fn PP fq108 #[(pq p)] H R:=
 fnS mixed Tryz.func108 (hz [(5,pBool),(7,pBlE)]) _ H R (Eq.mp (by unfold parseDescription.W;kernel_rfl) h)
def parseDirectives.W (p:Nat) (H:Heap) (R:RR):Prop:=
 newB H (.cells #[] tq99) fun b1 H2=>
 loopK (Sl×Unit) (((some ⟨b1,0,none⟩),0,0),()) H2 fun z3 H4 next5=>
 callW PP fq153 #[(pq p),(.int .i64 9)] H4 pBool fun(x6:Bool) H7=>
 forkB x6
 (callW PP fq115 #[(pq p)] H7 pBlE fun(x8:Nat) H9=>
 newB H9 (.cells #[(pq x8)] tq99) fun b10 H11=>
 appK H11 tq99 1 8 z3.1.1 z3.1.2.1 z3.1.2.2 (some ⟨b10,0,none⟩) 1 fun a12 c13 H14=>
 next5 ((a12,(z3.1.2.1+1),c13),()) H14)
 (retK (some [(.slice z3.1.1 z3.1.2.1 z3.1.2.2),.nilIface]) H7 R)
theorem parseDirectives.enter (p:Nat) (H:Heap) (R:RR) (h:parseDirectives.W p H R):Fn PP fq138 #[(pq p)] H R:=
 fnS mixed Tryz.func138 ⟨patL [(9,pBool),(12,pBlE)],loopL [(0,[Slot.slc 4])],joinL [],joinL [],joinRL []⟩ _ H R (Eq.mp (by unfold parseDirectives.W;kernel_rfl) h)
def parseDirective.W (p:Nat) (H:Heap) (R:RR):Prop:=
 lw H p 6 (pInt .i64) fun(x1:Int)=>
 callW PP fq143 #[(pq p),(.int .i64 9)] H pTkE fun(_x2:Int×Int×Int×ByteArray) H3=>
 callW PP fq146 #[(pq p)] H3 pBlE fun(x4:Nat) H5=>
 callW PP fq173 #[(pq p)] H5 pSlE fun(x6:Sl) H7=>
 callW PP fq141 #[(pq p),(.int .i64 x1)] H7 pBlk fun(x8:Nat) H9=>
 newB H9 (.cells #[(.string (bs [])),(pq x8),(pq x4),(.slice x6.1 x6.2.1 x6.2.2)] tq182) fun b10 H11=>
 callW PP fq178 #[(pq b10)] H11 pBlk fun(x12:Nat) H13=>
 retK (some [(pq x12),.nilIface]) H13 R
theorem parseDirective.enter (p:Nat) (H:Heap) (R:RR) (h:parseDirective.W p H R):Fn PP fq115 #[(pq p)] H R:=
 fnS mixed Tryz.func115 (hz [(12,(pInt .i64)),(15,pTkE),(23,pBlE),(31,pSlE),(41,pBlk),(44,pBlk)]) _ H R (Eq.mp (by unfold parseDirective.W;kernel_rfl) h)
def parseFragmentName.W (p:Nat) (H:Heap) (R:RR):Prop:=
 lw H p 8 pStr fun(x1:ByteArray)=>
 forkB (x1.toList==(bs [111,110]).toList)
 (callW PP fq201 #[(pq p),(.agg #[(.int .i64 0),(.int .i64 0),(.int .i64 0),(.string (bs []))])] H ⟨Unit,fun _=> .nilIface⟩ fun(_:Unit) H3=>
 retK (some [(.pointer none),.nilIface]) H3 R)
 (callW PP fq146 #[(pq p)] H pBlE fun(x4:Nat) H5=>
 retK (some [(pq x4),.nilIface]) H5 R)
theorem parseFragmentName.enter (p:Nat) (H:Heap) (R:RR) (h:parseFragmentName.W p H R):Fn PP fq168 #[(pq p)] H R:=
 fnS mixed Tryz.func168 (hz [(8,pStr),(12,⟨Unit,fun _=> .nilIface⟩),(14,pBlE)]) _ H R (Eq.mp (by unfold parseFragmentName.W;kernel_rfl) h)
def parseVariable.W (p:Nat) (H:Heap) (R:RR):Prop:=
 lw H p 6 (pInt .i64) fun(x1:Int)=>
 callW PP fq143 #[(pq p),(.int .i64 3)] H pTkE fun(_x2:Int×Int×Int×ByteArray) H3=>
 callW PP fq146 #[(pq p)] H3 pBlE fun(x4:Nat) H5=>
 callW PP fq141 #[(pq p),(.int .i64 x1)] H5 pBlk fun(x6:Nat) H7=>
 newB H7 (.cells #[(.string (bs [])),(pq x6),(pq x4)] tq176) fun b8 H9=>
 callW PP fq209 #[(pq b8)] H9 pBlk fun(x10:Nat) H11=>
 retK (some [(pq x10),.nilIface]) H11 R
theorem parseVariable.enter (p:Nat) (H:Heap) (R:RR) (h:parseVariable.W p H R):Fn PP fq170 #[(pq p)] H R:=
 fnS mixed Tryz.func170 (hz [(11,(pInt .i64)),(14,pTkE),(22,pBlE),(31,pBlk),(34,pBlk)]) _ H R (Eq.mp (by unfold parseVariable.W;kernel_rfl) h)
def parseType.W (p:Nat) (H:Heap) (R:RR):Prop:=
 loadW H true 4 ⟨p,5,none⟩ pTk fun(x1:Int×Int×Int×ByteArray)=>
 newB H (.cells #[(.int .i64 0),(.int .i64 0),(.int .i64 0),(.string (bs []))] tq85) fun b2 H3=>
 storeW H3 ⟨b2,0,none⟩ [(.int .i64 x1.1),(.int .i64 x1.2.1),(.int .i64 x1.2.2.1),(.string x1.2.2.2)] fun H4=>
 lw H4 b2 0 (pInt .i64) fun(x5:Int)=>
 forkB (x5==10)
 (callW PP fq149 #[(pq p)] H4 ⟨Unit,fun _=> .nilIface⟩ fun(_:Unit) H7=>
 callW PP fq151 #[(pq p)] H7 pIfE fun(x8:(Nat×Nat)) H9=>
 callW PP fq149 #[(pq p)] H9 ⟨Unit,fun _=> .nilIface⟩ fun(_:Unit) H11=>
 lw H11 b2 1 (pInt .i64) fun(x12:Int)=>
 callW PP fq141 #[(pq p),(.int .i64 x12)] H11 pBlk fun(x13:Nat) H14=>
 newB H14 (.cells #[(.string (bs [])),(pq x13),(.iface x8.1 (pq x8.2))] tq297) fun b15 H16=>
 callW PP fq204 #[(pq b15)] H16 pBlk fun(x17:Nat) H18=>
 callW PP fq150 #[(pq p),(.int .i64 2)] H18 pBoE fun(x19:Bool) H20=>
 forkB x19
 (lw H20 b2 1 (pInt .i64) fun(x21:Int)=>
 callW PP fq141 #[(pq p),(.int .i64 x21)] H20 pBlk fun(x22:Nat) H23=>
 newB H23 (.cells #[(.string (bs [])),(pq x22),(.iface tq295 (pq x17))] tq299) fun b24 H25=>
 callW PP fq205 #[(pq b24)] H25 pBlk fun(x26:Nat) H27=>
 retK (some [(.iface tq298 (pq x26)),.nilIface]) H27 R)
 (retK (some [(.iface tq295 (pq x17)),.nilIface]) H20 R))
 (forkB (x5==11)
 (callW PP fq149 #[(pq p)] H4 ⟨Unit,fun _=> .nilIface⟩ fun(_:Unit) H29=>
 lw H29 b2 1 (pInt .i64) fun(x30:Int)=>
 callW PP fq141 #[(pq p),(.int .i64 x30)] H29 pBlk fun(x31:Nat) H32=>
 newB H32 (.cells #[(.string (bs [])),(pq x31),.nilIface] tq297) fun b33 H34=>
 callW PP fq204 #[(pq b33)] H34 pBlk fun(x35:Nat) H36=>
 callW PP fq150 #[(pq p),(.int .i64 2)] H36 pBoE fun(x37:Bool) H38=>
 forkB x37
 (lw H38 b2 1 (pInt .i64) fun(x39:Int)=>
 callW PP fq141 #[(pq p),(.int .i64 x39)] H38 pBlk fun(x40:Nat) H41=>
 newB H41 (.cells #[(.string (bs [])),(pq x40),(.iface tq295 (pq x35))] tq299) fun b42 H43=>
 callW PP fq205 #[(pq b42)] H43 pBlk fun(x44:Nat) H45=>
 retK (some [(.iface tq298 (pq x44)),.nilIface]) H45 R)
 (retK (some [(.iface tq295 (pq x35)),.nilIface]) H38 R))
 (forkB (x5==15)
 (callW PP fq144 #[(pq p)] H4 pBlE fun(x46:Nat) H47=>
 callW PP fq150 #[(pq p),(.int .i64 2)] H47 pBoE fun(x48:Bool) H49=>
 forkB x48
 (lw H49 b2 1 (pInt .i64) fun(x50:Int)=>
 callW PP fq141 #[(pq p),(.int .i64 x50)] H49 pBlk fun(x51:Nat) H52=>
 newB H52 (.cells #[(.string (bs [])),(pq x51),(.iface tq107 (pq x46))] tq299) fun b53 H54=>
 callW PP fq205 #[(pq b53)] H54 pBlk fun(x55:Nat) H56=>
 retK (some [(.iface tq298 (pq x55)),.nilIface]) H56 R)
 (retK (some [(.iface tq107 (pq x46)),.nilIface]) H49 R))
 (callW PP fq150 #[(pq p),(.int .i64 2)] H4 pBoE fun(x57:Bool) H58=>
 forkB x57
 (lw H58 b2 1 (pInt .i64) fun(x59:Int)=>
 callW PP fq141 #[(pq p),(.int .i64 x59)] H58 pBlk fun(x60:Nat) H61=>
 newB H61 (.cells #[(.string (bs [])),(pq x60),.nilIface] tq299) fun b62 H63=>
 callW PP fq205 #[(pq b62)] H63 pBlk fun(x64:Nat) H65=>
 retK (some [(.iface tq298 (pq x64)),.nilIface]) H65 R)
 (retK (some [.nilIface,.nilIface]) H58 R))))
theorem parseType.enter (p:Nat) (H:Heap) (R:RR) (h:parseType.W p H R):Fn PP fq151 #[(pq p)] H R:=
 fnS mixed Tryz.func151 (hz [(10,pTk),(12,(pInt .i64)),(20,⟨Unit,fun _=> .nilIface⟩),(26,pIfE),(33,⟨Unit,fun _=> .nilIface⟩),(40,(pInt .i64)),(41,pBlk),(44,pBlk),(48,pBlE),(57,pBoE),(67,(pInt .i64)),(68,pBlk),(71,pBlk)]) _ H R (Eq.mp (by unfold parseType.W;kernel_rfl) h)
def parseScalarTypeDefinition.W (p:Nat) (H:Heap) (R:RR):Prop:=
 lw H p 6 (pInt .i64) fun(x1:Int)=>
 callW PP fq108 #[(pq p)] H ⟨Option Addr,fun x=>(.tuple #[(.pointer x),.nilIface])⟩ fun(x2:Option Addr) H3=>
 callW PP fq137 #[(pq p),(.string (bs [115,99,97,108,97,114]))] H3 pTkE fun(_x4:Int×Int×Int×ByteArray) H5=>
 callW PP fq146 #[(pq p)] H5 pBlE fun(x6:Nat) H7=>
 callW PP fq138 #[(pq p)] H7 pSlE fun(x8:Sl) H9=>
 callW PP fq141 #[(pq p),(.int .i64 x1)] H9 pBlk fun(x10:Nat) H11=>
 newB H11 (.cells #[(.string (bs [])),(pq x10),(.pointer x2),(pq x6),(.slice x8.1 x8.2.1 x8.2.2)] tq234) fun b12 H13=>
 callW PP fq147 #[(pq b12)] H13 pBlk fun(x14:Nat) H15=>
 retK (some [(.iface tq231 (pq x14)),.nilIface]) H15 R
theorem parseScalarTypeDefinition.enter (p:Nat) (H:Heap) (R:RR) (h:parseScalarTypeDefinition.W p H R):Fn PP fq90 #[(pq p)] H R:=
 fnS mixed Tryz.func90 (hz [(14,(pInt .i64)),(17,⟨Option Addr,fun x=>(.tuple #[(.pointer x),.nilIface])⟩),(25,pTkE),(33,pBlE),(41,pSlE),(52,pBlk),(55,pBlk)]) _ H R (Eq.mp (by unfold parseScalarTypeDefinition.W;kernel_rfl) h)
end Go.Vx
