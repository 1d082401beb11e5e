/- A part of the proof of what the last text of this claim says: WB2. Conditions: none. -/
import Derived.Test.YtpkfgijailfkjaaGreatDoorZAb
namespace Go.Vx
open Go Go.Proofs
set_option maxRecDepth 100000
def advance.W (p:Nat) (H:Heap) (R:RR):Prop:=
 lw H p 7 (pInt .i64) fun(x1:Int)=>
 storeW H ⟨p,4,none⟩ [(.int .i64 x1)] fun H2=>
 lw H2 p 0 ⟨Nat×Nat,fun x=>(.func (.func fq67) #[] #[(pq x.1),(pq x.2)])⟩ fun(x3:Nat×Nat)=>
 lw H2 p 4 (pInt .i64) fun(x4:Int)=>
 (callW PP fq67 #[(.int .i64 x4),(pq x3.1),(pq x3.2)] H2 pTkE fun(x5:Int×Int×Int×ByteArray) H6=>
 newB H6 (.cells #[(.int .i64 0),(.int .i64 0),(.int .i64 0),(.string (bs []))] tq87) fun b7 H8=>
 lc H8 p 4 (.int .i64 x4)∧
 lc H8 p 0 (.func (.func fq67) #[] #[(pq x3.1),(pq x3.2)])∧
 storeW H8 ⟨b7,0,none⟩ [(.int .i64 x5.1),(.int .i64 x5.2.1),(.int .i64 x5.2.2.1),(.string x5.2.2.2)] fun H9=>
 loadW H9 true 4 ⟨b7,0,none⟩ pTk fun(x10:Int×Int×Int×ByteArray)=>
 storeW H9 ⟨p,5,none⟩ [(.int .i64 x10.1),(.int .i64 x10.2.1),(.int .i64 x10.2.2.1),(.string x10.2.2.2)] fun H11=>
 retK (some [.nilIface]) H11 R)∧
 (newB H2 (.cells #[(.int .i64 0),(.int .i64 0),(.int .i64 0),(.string (bs []))] tq87) fun b12 H13=>
 lc H13 p 4 (.int .i64 x4)∧
 lc H13 p 0 (.func (.func fq67) #[] #[(pq x3.1),(pq x3.2)])∧
 callW PP fq67 #[(.int .i64 x4),(pq x3.1),(pq x3.2)] H13 pTkE fun(x14:Int×Int×Int×ByteArray) H15=>
 storeW H15 ⟨b12,0,none⟩ [(.int .i64 x14.1),(.int .i64 x14.2.1),(.int .i64 x14.2.2.1),(.string x14.2.2.2)] fun H16=>
 loadW H16 true 4 ⟨b12,0,none⟩ pTk fun(x17:Int×Int×Int×ByteArray)=>
 storeW H16 ⟨p,5,none⟩ [(.int .i64 x17.1),(.int .i64 x17.2.1),(.int .i64 x17.2.2.1),(.string x17.2.2.2)] fun H18=>
 retK (some [.nilIface]) H18 R)
theorem advance.enter (p:Nat) (H:Heap) (R:RR) (h:advance.W p H R):Fn PP fq69 #[(pq p)] H R:=
 fnS mixed Tryz.func69 (hz [(10,(pInt .i64)),(17,⟨Nat×Nat,fun x=>(.func (.func fq67) #[] #[(pq x.1),(pq x.2)])⟩),(21,(pInt .i64)),(22,pTkE),(29,pTk)]) _ H R (Eq.mp (by unfold advance.W;kernel_rfl) h)
def peek.W (p:Nat) (k:Int) (H:Heap) (R:RR):Prop:=
 lw H p 5 (pInt .i64) fun(x1:Int)=>
 retK (some [(.bool (x1==k))]) H R
theorem peek.enter (p:Nat) (k:Int) (H:Heap) (R:RR) (h:peek.W p k H R):Fn PP fq70 #[(pq p),(.int .i64 k)] H R:=
 fnS mixed Tryz.func70 (hz [(9,(pInt .i64))]) _ H R (Eq.mp (by unfold peek.W;kernel_rfl) h)
def peekDescription.W (p:Nat) (H:Heap) (R:RR):Prop:=
 joinK (Bool×Unit) (fun J1=>
 callW PP fq70 #[(pq p),(.int .i64 18)] H pBool fun(x4:Bool) H5=>
 forkB x4
 (J1 (true,()) H5)
 (callW PP fq70 #[(pq p),(.int .i64 19)] H5 pBool fun(x6:Bool) H7=>
 J1 (x6,()) H7)) fun y2 H3=>
 retK (some [(.bool y2.1)]) H3 R
theorem peekDescription.enter (p:Nat) (H:Heap) (R:RR) (h:peekDescription.W p H R):Fn PP fq77 #[(pq p)] H R:=
 fnS mixed Tryz.func77 ⟨patL [(4,pBool),(7,pBool)],loopL [],joinL [],joinL [],joinRL [(1,[Slot.bool 2],false)]⟩ _ H R (Eq.mp (by unfold peekDescription.W;kernel_rfl) h)
def skip.W (p:Nat) (k:Int) (H:Heap) (R:RR):Prop:=
 lw H p 5 (pInt .i64) fun(x1:Int)=>
 forkB (x1==k)
 (callW PP fq69 #[(pq p)] H ⟨Unit,fun _=> .nilIface⟩ fun(_:Unit) H3=>
 retK (some [(.bool true),.nilIface]) H3 R)
 (retK (some [(.bool false),.nilIface]) H R)
theorem skip.enter (p:Nat) (k:Int) (H:Heap) (R:RR) (h:skip.W p k H R):Fn PP fq35 #[(pq p),(.int .i64 k)] H R:=
 fnS mixed Tryz.func35 (hz [(10,(pInt .i64)),(14,⟨Unit,fun _=> .nilIface⟩)]) _ H R (Eq.mp (by unfold skip.W;kernel_rfl) h)
def loc.W (p:Nat) (st:Int) (H:Heap) (R:RR):Prop:=
 lw H p 2 pBool fun(x1:Bool)=>
 forkB x1
 (retK (some [(.pointer none)]) H R)
 (lw H p 3 pBool fun(x2:Bool)=>
 forkB x2
 (lw H p 4 (pInt .i64) fun(x3:Int)=>
 newB H (.cells #[(.int .i64 st),(.int .i64 x3),(.pointer none)] tq141) fun b4 H5=>
 callW PP fq81 #[(pq b4)] H5 pBlk fun(x6:Nat) H7=>
 retK (some [(pq x6)]) H7 R)
 (lw H p 4 (pInt .i64) fun(x8:Int)=>
 lw H p 1 pBlk fun(x9:Nat)=>
 newB H (.cells #[(.int .i64 st),(.int .i64 x8),(pq x9)] tq141) fun b10 H11=>
 callW PP fq81 #[(pq b10)] H11 pBlk fun(x12:Nat) H13=>
 retK (some [(pq x12)]) H13 R))
theorem loc.enter (p:Nat) (st:Int) (H:Heap) (R:RR) (h:loc.W p st H R):Fn PP fq40 #[(pq p),(.int .i64 st)] H R:=
 fnS mixed Tryz.func40 (hz [(9,pBool),(14,pBool),(19,(pInt .i64)),(22,pBlk),(27,(pInt .i64)),(31,pBlk),(34,pBlk)]) _ H R (Eq.mp (by unfold loc.W;kernel_rfl) h)
def NewSource.W (s:Nat) (H:Heap) (R:RR):Prop:=
 lw H s 1 pStr fun(x1:ByteArray)=>
 forkB (x1.toList==(bs []).toList)
 (storeW H ⟨s,1,none⟩ [(.string (bs [71,114,97,112,104,81,76]))] fun H2=>
 retK (some [(pq s)]) H2 R)
 (retK (some [(pq s)]) H R)
theorem NewSource.enter (s:Nat) (H:Heap) (R:RR) (h:NewSource.W s H R):Fn PP fq15 #[(pq s)] H R:=
 fnS mixed Tryz.func15 (hz [(10,pStr)]) _ H R (Eq.mp (by unfold NewSource.W;kernel_rfl) h)
def makeParser.W (s:Nat) (H:Heap) (R:RR):Prop:=
 newB H (.cells #[(.bool false),(.bool false)] tq46) fun b1 H2=>
 callW PP fq34 #[(pq s)] H2 ⟨Nat×Nat,fun x=>(.func (.func fq67) #[] #[(pq x.1),(pq x.2)])⟩ fun(x3:Nat×Nat) H4=>
 callW PP fq67 #[(.int .i64 0),(pq x3.1),(pq x3.2)] H4 pTkE fun(x5:Int×Int×Int×ByteArray) H6=>
 newB H6 (.cells #[(.int .i64 0),(.int .i64 0),(.int .i64 0),(.string (bs []))] tq87) fun b7 H8=>
 storeW H8 ⟨b7,0,none⟩ [(.int .i64 x5.1),(.int .i64 x5.2.1),(.int .i64 x5.2.2.1),(.string x5.2.2.2)] fun H9=>
 loadW H9 true 2 ⟨b1,0,none⟩ ⟨Bool×Bool,fun x=>(.agg #[(.bool x.1),(.bool x.2)])⟩ fun(x10:Bool×Bool)=>
 loadW H9 true 4 ⟨b7,0,none⟩ pTk fun(x11:Int×Int×Int×ByteArray)=>
 newB H9 (.cells #[(.func (.func fq67) #[] #[(pq x3.1),(pq x3.2)]),(pq s),(.bool x10.1),(.bool x10.2),(.int .i64 0),(.int .i64 x11.1),(.int .i64 x11.2.1),(.int .i64 x11.2.2.1),(.string x11.2.2.2)] tq90) fun b12 H13=>
 retK (some [(pq b12),.nilIface]) H13 R
theorem makeParser.enter (s:Nat) (H:Heap) (R:RR) (h:makeParser.W s H R):Fn PP fq16 #[(pq s),(.agg #[(.bool false),(.bool false)])] H R:=
 fnS mixed Tryz.func16 (hz [(10,⟨Nat×Nat,fun x=>(.func (.func fq67) #[] #[(pq x.1),(pq x.2)])⟩),(13,pTkE),(23,⟨Bool×Bool,fun x=>(.agg #[(.bool x.1),(.bool x.2)])⟩),(24,pTk)]) _ H R (Eq.mp (by unfold makeParser.W;kernel_rfl) h)
def parseStringLiteral.W (p:Nat) (H:Heap) (R:RR):Prop:=
 loadW H true 4 ⟨p,5,none⟩ pTk fun(x1:Int×Int×Int×ByteArray)=>
 newB H (.cells #[(.int .i64 0),(.int .i64 0),(.int .i64 0),(.string (bs []))] tq87) fun b2 H3=>
 storeW H3 ⟨b2,0,none⟩ [(.int .i64 x1.1),(.int .i64 x1.2.1),(.int .i64 x1.2.2.1),(.string x1.2.2.2)] fun H4=>
 callW PP fq69 #[(pq p)] H4 ⟨Unit,fun _=> .nilIface⟩ fun(_:Unit) H6=>
 lw H6 b2 3 pStr fun(x7:ByteArray)=>
 lw H6 b2 1 (pInt .i64) fun(x8:Int)=>
 callW PP fq40 #[(pq p),(.int .i64 x8)] H6 pBlk fun(x9:Nat) H10=>
 lc H10 b2 3 (.string x7)∧
 newB H10 (.cells #[(.string (bs [])),(pq x9),(.string x7)] tq369) fun b11 H12=>
 callW PP fq203 #[(pq b11)] H12 pBlk fun(x13:Nat) H14=>
 retK (some [(pq x13),.nilIface]) H14 R
theorem parseStringLiteral.enter (p:Nat) (H:Heap) (R:RR) (h:parseStringLiteral.W p H R):Fn PP fq180 #[(pq p)] H R:=
 fnS mixed Tryz.func180 (hz [(9,pTk),(11,⟨Unit,fun _=> .nilIface⟩),(16,pStr),(19,(pInt .i64)),(20,pBlk),(23,pBlk)]) _ H R (Eq.mp (by unfold parseStringLiteral.W;kernel_rfl) h)
def parseDescription.W (p:Nat) (H:Heap) (R:RR):Prop:=
 callW PP fq77 #[(pq p)] H pBool fun(x1:Bool) H2=>
 forkB x1
 (callW PP fq180 #[(pq p)] H2 pBlE fun(x3:Nat) H4=>
 retK (some [(pq x3),.nilIface]) H4 R)
 (retK (some [(.pointer none),.nilIface]) H2 R)
theorem parseDescription.enter (p:Nat) (H:Heap) (R:RR) (h:parseDescription.W p H R):Fn PP fq143 #[(pq p)] H R:=
 fnS mixed Tryz.func143 (hz [(5,pBool),(7,pBlE)]) _ H R (Eq.mp (by unfold parseDescription.W;kernel_rfl) h)
end Go.Vx
