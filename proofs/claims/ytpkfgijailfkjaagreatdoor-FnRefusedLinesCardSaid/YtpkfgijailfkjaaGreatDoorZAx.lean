/- A part of the proof of what the last text of this claim says: WX1. Conditions: none. -/
import Derived.Test.YtpkfgijailfkjaaGreatDoorZAb
namespace Go.Vx
open Go Go.Proofs
set_option maxRecDepth 100000
def expectX.W (p:Nat) (k:Int) (H:Heap) (R:RR):Prop:=
 newB H (.cells #[(.int .i64 0),(.int .i64 0),(.int .i64 0),(.string (bs []))] tq87) fun b1 H2=>
 loadW H2 true 4 ⟨p,5,none⟩ pTk fun(x3:Int×Int×Int×ByteArray)=>
 newB H2 (.cells #[(.int .i64 0),(.int .i64 0),(.int .i64 0),(.string (bs []))] tq87) fun b4 H5=>
 storeW H5 ⟨b4,0,none⟩ [(.int .i64 x3.1),(.int .i64 x3.2.1),(.int .i64 x3.2.2.1),(.string x3.2.2.2)] fun H6=>
 lw H6 b4 0 (pInt .i64) fun(x7:Int)=>
 forkB (x7==k)
 (loadW H6 true 4 ⟨b4,0,none⟩ pTk fun(x8:Int×Int×Int×ByteArray)=>
 callW PP fq69 #[(pq p)] H6 ⟨Unit,fun _=> .nilIface⟩ fun(_:Unit) H10=>
 loadC H10 true 4 ⟨b4,0,none⟩=some (.agg #[(.int .i64 x8.1),(.int .i64 x8.2.1),(.int .i64 x8.2.2.1),(.string x8.2.2.2)])∧
 storeW H10 ⟨b1,0,none⟩ [(.int .i64 x8.1),(.int .i64 x8.2.1),(.int .i64 x8.2.2.1),(.string x8.2.2.2)] fun H11=>
 retK (consO (loadC H11 true 4 ⟨b1,0,none⟩) ((consO (some .nilIface) (some [])))) H11 R)
 (loadW H6 true 4 ⟨b4,0,none⟩ pTk fun(x12:Int×Int×Int×ByteArray)=>
 lw H6 p 1 pBlk fun(x13:Nat)=>
 lw H6 b4 1 (pInt .i64) fun(x14:Int)=>
 callW PP fq80 #[(pq x13),(.int .i64 x14),(.string (bs [69,120,112,101,99,116,101,100,32,37,115,44,32,102,111,117,110,100,32,37,115]))] H6 pBlk fun(x15:Nat) H16=>
 loadC H16 true 4 ⟨b4,0,none⟩=some (.agg #[(.int .i64 x12.1),(.int .i64 x12.2.1),(.int .i64 x12.2.2.1),(.string x12.2.2.2)])∧
 storeW H16 ⟨b1,0,none⟩ [(.int .i64 x12.1),(.int .i64 x12.2.1),(.int .i64 x12.2.2.1),(.string x12.2.2.2)] fun H17=>
 retK (consO (loadC H17 true 4 ⟨b1,0,none⟩) ((consO (some (.iface tq49 (pq x15))) (some [])))) H17 R)
theorem expectX.enter (p:Nat) (k:Int) (H:Heap) (R:RR) (h:expectX.W p k H R):Fn PP fq100 #[(pq p),(.int .i64 k)] H R:=
 fnS mixed Tryz.func100 (hz [(11,pTk),(13,(pInt .i64)),(16,pTk),(18,⟨Unit,fun _=> .nilIface⟩),(19,pTk),(23,pBlk),(25,(pInt .i64)),(27,pBlk)]) _ H R (Eq.mp (by unfold expectX.W;kernel_rfl) h)
def expectKeyWordX.W (p:Nat) (v:ByteArray) (H:Heap) (R:RR):Prop:=
 newB H (.cells #[(.int .i64 0),(.int .i64 0),(.int .i64 0),(.string (bs []))] tq87) fun b1 H2=>
 loadW H2 true 4 ⟨p,5,none⟩ pTk fun(x3:Int×Int×Int×ByteArray)=>
 newB H2 (.cells #[(.int .i64 0),(.int .i64 0),(.int .i64 0),(.string (bs []))] tq87) fun b4 H5=>
 storeW H5 ⟨b4,0,none⟩ [(.int .i64 x3.1),(.int .i64 x3.2.1),(.int .i64 x3.2.2.1),(.string x3.2.2.2)] fun H6=>
 joinPK (Bool×Unit) H6 (fun J7=>
 lw H6 b4 0 (pInt .i64) fun(x9:Int)=>
 forkB (x9==15)
 (lw H6 b4 3 pStr fun(x10:ByteArray)=>
 J7 ((x10.toList==v.toList),()) H6)
 (J7 (false,()) H6)) fun y8=>
 forkB y8.1
 (loadW H6 true 4 ⟨b4,0,none⟩ pTk fun(x11:Int×Int×Int×ByteArray)=>
 callW PP fq69 #[(pq p)] H6 ⟨Unit,fun _=> .nilIface⟩ fun(_:Unit) H13=>
 loadC H13 true 4 ⟨b4,0,none⟩=some (.agg #[(.int .i64 x11.1),(.int .i64 x11.2.1),(.int .i64 x11.2.2.1),(.string x11.2.2.2)])∧
 storeW H13 ⟨b1,0,none⟩ [(.int .i64 x11.1),(.int .i64 x11.2.1),(.int .i64 x11.2.2.1),(.string x11.2.2.2)] fun H14=>
 retK (consO (loadC H14 true 4 ⟨b1,0,none⟩) ((consO (some .nilIface) (some [])))) H14 R)
 (loadW H6 true 4 ⟨b4,0,none⟩ pTk fun(x15:Int×Int×Int×ByteArray)=>
 lw H6 p 1 pBlk fun(x16:Nat)=>
 lw H6 b4 1 (pInt .i64) fun(x17:Int)=>
 callW PP fq80 #[(pq x16),(.int .i64 x17),(.string (bs [69,120,112,101,99,116,101,100,32,34,37,115,34,44,32,102,111,117,110,100,32,37,115]))] H6 pBlk fun(x18:Nat) H19=>
 loadC H19 true 4 ⟨b4,0,none⟩=some (.agg #[(.int .i64 x15.1),(.int .i64 x15.2.1),(.int .i64 x15.2.2.1),(.string x15.2.2.2)])∧
 storeW H19 ⟨b1,0,none⟩ [(.int .i64 x15.1),(.int .i64 x15.2.1),(.int .i64 x15.2.2.1),(.string x15.2.2.2)] fun H20=>
 retK (consO (loadC H20 true 4 ⟨b1,0,none⟩) ((consO (some (.iface tq49 (pq x18))) (some [])))) H20 R)
theorem expectKeyWordX.enter (p:Nat) (v:ByteArray) (H:Heap) (R:RR) (h:expectKeyWordX.W p v H R):Fn PP fq137 #[(pq p),(.string v)] H R:=
 fnS mixed Tryz.func137 ⟨patL [(11,pTk),(13,(pInt .i64)),(17,pStr),(21,pTk),(23,⟨Unit,fun _=> .nilIface⟩),(24,pTk),(28,pBlk),(30,(pInt .i64)),(32,pBlk)],loopL [],joinL [],joinL [],joinRL [(2,[Slot.bool 20],true)]⟩ _ H R (Eq.mp (by unfold expectKeyWordX.W;kernel_rfl) h)
def unexpectedX.W (p:Nat) (t:Int×Int×Int×ByteArray) (H:Heap) (R:RR):Prop:=
 newB H (.cells #[(.int .i64 t.1),(.int .i64 t.2.1),(.int .i64 t.2.2.1),(.string t.2.2.2)] tq87) fun b1 H2=>
 loadW H2 true 4 ⟨b1,0,none⟩ pTk fun(x3:Int×Int×Int×ByteArray)=>
 newB H2 (.cells #[(.int .i64 0),(.int .i64 0),(.int .i64 0),(.string (bs []))] tq87) fun b4 H5=>
 storeW H5 ⟨b4,0,none⟩ [(.int .i64 x3.1),(.int .i64 x3.2.1),(.int .i64 x3.2.2.1),(.string x3.2.2.2)] fun H6=>
 loadW H6 true 4 ⟨b1,0,none⟩ pTk fun(x7:Int×Int×Int×ByteArray)=>
 eqW PP .eql tq87 (.agg #[(.int .i64 x7.1),(.int .i64 x7.2.1),(.int .i64 x7.2.2.1),(.string x7.2.2.2)]) (.agg #[(.int .i64 0),(.int .i64 0),(.int .i64 0),(.string (bs []))]) fun(b8:Bool)=>
 forkB b8
 (loadW H6 true 4 ⟨p,5,none⟩ pTk fun(x9:Int×Int×Int×ByteArray)=>
 storeW H6 ⟨b4,0,none⟩ [(.int .i64 x9.1),(.int .i64 x9.2.1),(.int .i64 x9.2.2.1),(.string x9.2.2.2)] fun H10=>
 lw H10 p 1 pBlk fun(x11:Nat)=>
 lw H10 b4 1 (pInt .i64) fun(x12:Int)=>
 callW PP fq80 #[(pq x11),(.int .i64 x12),(.string (bs [85,110,101,120,112,101,99,116,101,100,32,37,118]))] H10 pBlk fun(x13:Nat) H14=>
 retK (some [(.iface tq49 (pq x13))]) H14 R)
 (lw H6 p 1 pBlk fun(x15:Nat)=>
 lw H6 b4 1 (pInt .i64) fun(x16:Int)=>
 callW PP fq80 #[(pq x15),(.int .i64 x16),(.string (bs [85,110,101,120,112,101,99,116,101,100,32,37,118]))] H6 pBlk fun(x17:Nat) H18=>
 retK (some [(.iface tq49 (pq x17))]) H18 R)
theorem unexpectedX.enter (p:Nat) (t:Int×Int×Int×ByteArray) (H:Heap) (R:RR) (h:unexpectedX.W p t H R):Fn PP fq38 #[(pq p),(.agg #[(.int .i64 t.1),(.int .i64 t.2.1),(.int .i64 t.2.2.1),(.string t.2.2.2)])] H R:=
 fnS mixed Tryz.func38 (hz [(7,pTk),(8,pTk),(14,pTk),(18,pBlk),(20,(pInt .i64)),(22,pBlk)]) _ H R (Eq.mp (by unfold unexpectedX.W;kernel_rfl) h)
def unexpectedEmptyX.W (p:Nat) (st:Int) (_ok:Int) (_ck:Int) (H:Heap) (R:RR):Prop:=
 lw H p 1 pBlk fun(x1:Nat)=>
 callW PP fq80 #[(pq x1),(.int .i64 st),(.string (bs [85,110,101,120,112,101,99,116,101,100,32,101,109,112,116,121,32,73,78,32,37,115,37,115]))] H pBlk fun(x2:Nat) H3=>
 retK (some [(.iface tq49 (pq x2))]) H3 R
theorem unexpectedEmptyX.enter (p:Nat) (st:Int) (ok:Int) (ck:Int) (H:Heap) (R:RR) (h:unexpectedEmptyX.W p st ok ck H R):Fn PP fq128 #[(pq p),(.int .i64 st),(.int .i64 ok),(.int .i64 ck)] H R:=
 fnS mixed Tryz.func128 (hz [(13,pBlk),(16,pBlk)]) _ H R (Eq.mp (by unfold unexpectedEmptyX.W;kernel_rfl) h)
def parseNameX.W (p:Nat) (H:Heap) (R:RR):Prop:=
 call2W PP fq100 #[(pq p),(.int .i64 15)] H pTkE ⟨Int×Int×Int×ByteArray×Nat,fun x=>(.tuple #[(.agg #[(.int .i64 x.1),(.int .i64 x.2.1),(.int .i64 x.2.2.1),(.string x.2.2.2.1)]),(.iface tq49 (pq x.2.2.2.2))])⟩ (fun(x1:Int×Int×Int×ByteArray) H3=>
 newB H3 (.cells #[(.int .i64 0),(.int .i64 0),(.int .i64 0),(.string (bs []))] tq87) fun b4 H5=>
 storeW H5 ⟨b4,0,none⟩ [(.int .i64 x1.1),(.int .i64 x1.2.1),(.int .i64 x1.2.2.1),(.string x1.2.2.2)] fun H6=>
 lw H6 b4 3 pStr fun(x7:ByteArray)=>
 lw H6 b4 1 (pInt .i64) fun(x8:Int)=>
 callW PP fq40 #[(pq p),(.int .i64 x8)] H6 pBlk fun(x9:Nat) H10=>
 lc H10 b4 3 (.string x7)∧
 newB H10 (.cells #[(.string (bs [])),(pq x9),(.string x7)] tq168) fun b11 H12=>
 callW PP fq101 #[(pq b11)] H12 pBlk fun(x13:Nat) H14=>
 retK (some [(pq x13),.nilIface]) H14 R)
 (fun(e2:Int×Int×Int×ByteArray×Nat) H3=>
 newB H3 (.cells #[(.int .i64 0),(.int .i64 0),(.int .i64 0),(.string (bs []))] tq87) fun b15 H16=>
 storeW H16 ⟨b15,0,none⟩ [(.int .i64 e2.1),(.int .i64 e2.2.1),(.int .i64 e2.2.2.1),(.string e2.2.2.2.1)] fun H17=>
 retK (some [(.pointer none),(.iface tq49 (pq e2.2.2.2.2))]) H17 R)
theorem parseNameX.enter (p:Nat) (H:Heap) (R:RR) (h:parseNameX.W p H R):Fn PP fq74 #[(pq p)] H R:=
 fnS mixed Tryz.func74 ⟨patX [(8,pTkE,⟨Int×Int×Int×ByteArray×Nat,fun x=>(.tuple #[(.agg #[(.int .i64 x.1),(.int .i64 x.2.1),(.int .i64 x.2.2.1),(.string x.2.2.2.1)]),(.iface tq49 (pq x.2.2.2.2))])⟩)] [(15,pStr),(18,(pInt .i64)),(19,pBlk),(22,pBlk)],loopL [],joinL [],joinL [],joinRL []⟩ _ H R (Eq.mp (by unfold parseNameX.W;kernel_rfl) h)
def parseNamedX.W (p:Nat) (H:Heap) (R:RR):Prop:=
 lw H p 6 (pInt .i64) fun(x1:Int)=>
 call2W PP fq74 #[(pq p)] H pBlE ⟨Nat,fun x=>(.tuple #[(.pointer none),(.iface tq49 (pq x))])⟩ (fun(x2:Nat) H4=>
 callW PP fq40 #[(pq p),(.int .i64 x1)] H4 pBlk fun(x5:Nat) H6=>
 newB H6 (.cells #[(.string (bs [])),(pq x5),(pq x2)] tq330) fun b7 H8=>
 callW PP fq184 #[(pq b7)] H8 pBlk fun(x9:Nat) H10=>
 retK (some [(pq x9),.nilIface]) H10 R)
 (fun(e3:Nat) H4=>
 retK (some [(.pointer none),(.iface tq49 (pq e3))]) H4 R)
theorem parseNamedX.enter (p:Nat) (H:Heap) (R:RR) (h:parseNamedX.W p H R):Fn PP fq139 #[(pq p)] H R:=
 fnS mixed Tryz.func139 ⟨patX [(14,pBlE,⟨Nat,fun x=>(.tuple #[(.pointer none),(.iface tq49 (pq x))])⟩)] [(11,(pInt .i64)),(23,pBlk),(26,pBlk)],loopL [],joinL [],joinL [],joinRL []⟩ _ H R (Eq.mp (by unfold parseNamedX.W;kernel_rfl) h)
def parseOperationTypeX.W (p:Nat) (H:Heap) (R:RR):Prop:=
 call2W PP fq100 #[(pq p),(.int .i64 15)] H pTkE ⟨Int×Int×Int×ByteArray×Nat,fun x=>(.tuple #[(.agg #[(.int .i64 x.1),(.int .i64 x.2.1),(.int .i64 x.2.2.1),(.string x.2.2.2.1)]),(.iface tq49 (pq x.2.2.2.2))])⟩ (fun(x1:Int×Int×Int×ByteArray) H3=>
 newB H3 (.cells #[(.int .i64 0),(.int .i64 0),(.int .i64 0),(.string (bs []))] tq87) fun b4 H5=>
 storeW H5 ⟨b4,0,none⟩ [(.int .i64 x1.1),(.int .i64 x1.2.1),(.int .i64 x1.2.2.1),(.string x1.2.2.2)] fun H6=>
 lw H6 b4 3 pStr fun(x7:ByteArray)=>
 forkB (x7.toList==(bs [113,117,101,114,121]).toList)
 (lw H6 b4 3 pStr fun(x8:ByteArray)=>
 retK (some [(.string x8),.nilIface]) H6 R)
 (forkB (x7.toList==(bs [109,117,116,97,116,105,111,110]).toList)
 (lw H6 b4 3 pStr fun(x9:ByteArray)=>
 retK (some [(.string x9),.nilIface]) H6 R)
 (forkB (x7.toList==(bs [115,117,98,115,99,114,105,112,116,105,111,110]).toList)
 (lw H6 b4 3 pStr fun(x10:ByteArray)=>
 retK (some [(.string x10),.nilIface]) H6 R)
 (loadW H6 true 4 ⟨b4,0,none⟩ pTk fun(x11:Int×Int×Int×ByteArray)=>
 callW PP fq38 #[(pq p),(.agg #[(.int .i64 x11.1),(.int .i64 x11.2.1),(.int .i64 x11.2.2.1),(.string x11.2.2.2)])] H6 ⟨Nat,fun x=>(.iface tq49 (pq x))⟩ fun(x12:Nat) H13=>
 retK (some [(.string (bs [])),(.iface tq49 (pq x12))]) H13 R))))
 (fun(e2:Int×Int×Int×ByteArray×Nat) H3=>
 newB H3 (.cells #[(.int .i64 0),(.int .i64 0),(.int .i64 0),(.string (bs []))] tq87) fun b14 H15=>
 storeW H15 ⟨b14,0,none⟩ [(.int .i64 e2.1),(.int .i64 e2.2.1),(.int .i64 e2.2.2.1),(.string e2.2.2.2.1)] fun H16=>
 retK (some [(.string (bs [])),(.iface tq49 (pq e2.2.2.2.2))]) H16 R)
theorem parseOperationTypeX.enter (p:Nat) (H:Heap) (R:RR) (h:parseOperationTypeX.W p H R):Fn PP fq73 #[(pq p)] H R:=
 fnS mixed Tryz.func73 ⟨patX [(8,pTkE,⟨Int×Int×Int×ByteArray×Nat,fun x=>(.tuple #[(.agg #[(.int .i64 x.1),(.int .i64 x.2.1),(.int .i64 x.2.2.1),(.string x.2.2.2.1)]),(.iface tq49 (pq x.2.2.2.2))])⟩)] [(15,pStr),(17,pTk),(18,⟨Nat,fun x=>(.iface tq49 (pq x))⟩),(22,pStr),(26,pStr),(30,pStr)],loopL [],joinL [],joinL [],joinRL []⟩ _ H R (Eq.mp (by unfold parseOperationTypeX.W;kernel_rfl) h)
def parseDirectivesX.W (p:Nat) (H:Heap) (R:RR):Prop:=
 newB H (.cells #[] tq170) fun b1 H2=>
 loopK (Sl×Unit) (((some ⟨b1,0,none⟩),0,0),()) H2 fun z3 H4 next5=>
 callW PP fq70 #[(pq p),(.int .i64 9)] H4 pBool fun(x6:Bool) H7=>
 forkB x6
 (call2W PP fq103 #[(pq p)] H7 pBlE ⟨Nat,fun x=>(.tuple #[(.pointer none),(.iface tq49 (pq x))])⟩ (fun(x8:Nat) H10=>
 newB H10 (.cells #[(pq x8)] tq170) fun b11 H12=>
 appK H12 tq170 1 8 z3.1.1 z3.1.2.1 z3.1.2.2 (some ⟨b11,0,none⟩) 1 fun a13 c14 H15=>
 next5 ((a13,(z3.1.2.1+1),c14),()) H15)
 (fun(e9:Nat) H10=>
 retK (some [(.slice z3.1.1 z3.1.2.1 z3.1.2.2),(.iface tq49 (pq e9))]) H10 R))
 (retK (some [(.slice z3.1.1 z3.1.2.1 z3.1.2.2),.nilIface]) H7 R)
theorem parseDirectivesX.enter (p:Nat) (H:Heap) (R:RR) (h:parseDirectivesX.W p H R):Fn PP fq76 #[(pq p)] H R:=
 fnS mixed Tryz.func76 ⟨patX [(12,pBlE,⟨Nat,fun x=>(.tuple #[(.pointer none),(.iface tq49 (pq x))])⟩)] [(9,pBool)],loopL [(0,[Slot.slc 4])],joinL [],joinL [],joinRL []⟩ _ H R (Eq.mp (by unfold parseDirectivesX.W;kernel_rfl) h)
def parseDirectiveX.W (p:Nat) (H:Heap) (R:RR):Prop:=
 lw H p 6 (pInt .i64) fun(x1:Int)=>
 call2W PP fq100 #[(pq p),(.int .i64 9)] H pTkE ⟨Int×Int×Int×ByteArray×Nat,fun x=>(.tuple #[(.agg #[(.int .i64 x.1),(.int .i64 x.2.1),(.int .i64 x.2.2.1),(.string x.2.2.2.1)]),(.iface tq49 (pq x.2.2.2.2))])⟩ (fun(_x2:Int×Int×Int×ByteArray) H4=>
 call2W PP fq74 #[(pq p)] H4 pBlE ⟨Nat,fun x=>(.tuple #[(.pointer none),(.iface tq49 (pq x))])⟩ (fun(x5:Nat) H7=>
 call2W PP fq135 #[(pq p)] H7 pSlE ⟨Sl×Nat,fun x=>(.tuple #[(.slice x.1.1 x.1.2.1 x.1.2.2),(.iface tq49 (pq x.2))])⟩ (fun(x8:Sl) H10=>
 callW PP fq40 #[(pq p),(.int .i64 x1)] H10 pBlk fun(x11:Nat) H12=>
 newB H12 (.cells #[(.string (bs [])),(pq x11),(pq x5),(.slice x8.1 x8.2.1 x8.2.2)] tq214) fun b13 H14=>
 callW PP fq136 #[(pq b13)] H14 pBlk fun(x15:Nat) H16=>
 retK (some [(pq x15),.nilIface]) H16 R)
 (fun(e9:Sl×Nat) H10=>
 retK (some [(.pointer none),(.iface tq49 (pq e9.2))]) H10 R))
 (fun(e6:Nat) H7=>
 retK (some [(.pointer none),(.iface tq49 (pq e6))]) H7 R))
 (fun(e3:Int×Int×Int×ByteArray×Nat) H4=>
 retK (some [(.pointer none),(.iface tq49 (pq e3.2.2.2.2))]) H4 R)
theorem parseDirectiveX.enter (p:Nat) (H:Heap) (R:RR) (h:parseDirectiveX.W p H R):Fn PP fq103 #[(pq p)] H R:=
 fnS mixed Tryz.func103 ⟨patX [(15,pTkE,⟨Int×Int×Int×ByteArray×Nat,fun x=>(.tuple #[(.agg #[(.int .i64 x.1),(.int .i64 x.2.1),(.int .i64 x.2.2.1),(.string x.2.2.2.1)]),(.iface tq49 (pq x.2.2.2.2))])⟩),(23,pBlE,⟨Nat,fun x=>(.tuple #[(.pointer none),(.iface tq49 (pq x))])⟩),(31,pSlE,⟨Sl×Nat,fun x=>(.tuple #[(.slice x.1.1 x.1.2.1 x.1.2.2),(.iface tq49 (pq x.2))])⟩)] [(12,(pInt .i64)),(41,pBlk),(44,pBlk)],loopL [],joinL [],joinL [],joinRL []⟩ _ H R (Eq.mp (by unfold parseDirectiveX.W;kernel_rfl) h)
def parseFragmentNameX.W (p:Nat) (H:Heap) (R:RR):Prop:=
 lw H p 8 pStr fun(x1:ByteArray)=>
 forkB (x1.toList==(bs [111,110]).toList)
 (callW PP fq38 #[(pq p),(.agg #[(.int .i64 0),(.int .i64 0),(.int .i64 0),(.string (bs []))])] H ⟨Nat,fun x=>(.iface tq49 (pq x))⟩ fun(x2:Nat) H3=>
 retK (some [(.pointer none),(.iface tq49 (pq x2))]) H3 R)
 (call2W PP fq74 #[(pq p)] H pBlE ⟨Nat,fun x=>(.tuple #[(.pointer none),(.iface tq49 (pq x))])⟩ (fun(x4:Nat) H6=>
 retK (some [(pq x4),.nilIface]) H6 R)
 (fun(e5:Nat) H6=>
 retK (some [(.pointer none),(.iface tq49 (pq e5))]) H6 R))
theorem parseFragmentNameX.enter (p:Nat) (H:Heap) (R:RR) (h:parseFragmentNameX.W p H R):Fn PP fq138 #[(pq p)] H R:=
 fnS mixed Tryz.func138 ⟨patX [(14,pBlE,⟨Nat,fun x=>(.tuple #[(.pointer none),(.iface tq49 (pq x))])⟩)] [(8,pStr),(12,⟨Nat,fun x=>(.iface tq49 (pq x))⟩)],loopL [],joinL [],joinL [],joinRL []⟩ _ H R (Eq.mp (by unfold parseFragmentNameX.W;kernel_rfl) h)
def parseVariableX.W (p:Nat) (H:Heap) (R:RR):Prop:=
 lw H p 6 (pInt .i64) fun(x1:Int)=>
 call2W PP fq100 #[(pq p),(.int .i64 3)] H pTkE ⟨Int×Int×Int×ByteArray×Nat,fun x=>(.tuple #[(.agg #[(.int .i64 x.1),(.int .i64 x.2.1),(.int .i64 x.2.2.1),(.string x.2.2.2.1)]),(.iface tq49 (pq x.2.2.2.2))])⟩ (fun(_x2:Int×Int×Int×ByteArray) H4=>
 call2W PP fq74 #[(pq p)] H4 pBlE ⟨Nat,fun x=>(.tuple #[(.pointer none),(.iface tq49 (pq x))])⟩ (fun(x5:Nat) H7=>
 callW PP fq40 #[(pq p),(.int .i64 x1)] H7 pBlk fun(x8:Nat) H9=>
 newB H9 (.cells #[(.string (bs [])),(pq x8),(pq x5)] tq301) fun b10 H11=>
 callW PP fq173 #[(pq b10)] H11 pBlk fun(x12:Nat) H13=>
 retK (some [(pq x12),.nilIface]) H13 R)
 (fun(e6:Nat) H7=>
 retK (some [(.pointer none),(.iface tq49 (pq e6))]) H7 R))
 (fun(e3:Int×Int×Int×ByteArray×Nat) H4=>
 retK (some [(.pointer none),(.iface tq49 (pq e3.2.2.2.2))]) H4 R)
theorem parseVariableX.enter (p:Nat) (H:Heap) (R:RR) (h:parseVariableX.W p H R):Fn PP fq131 #[(pq p)] H R:=
 fnS mixed Tryz.func131 ⟨patX [(14,pTkE,⟨Int×Int×Int×ByteArray×Nat,fun x=>(.tuple #[(.agg #[(.int .i64 x.1),(.int .i64 x.2.1),(.int .i64 x.2.2.1),(.string x.2.2.2.1)]),(.iface tq49 (pq x.2.2.2.2))])⟩),(22,pBlE,⟨Nat,fun x=>(.tuple #[(.pointer none),(.iface tq49 (pq x))])⟩)] [(11,(pInt .i64)),(31,pBlk),(34,pBlk)],loopL [],joinL [],joinL [],joinRL []⟩ _ H R (Eq.mp (by unfold parseVariableX.W;kernel_rfl) h)
def parseTypeX.W (p:Nat) (H:Heap) (R:RR):Prop:=
 loadW H true 4 ⟨p,5,none⟩ pTk fun(x1:Int×Int×Int×ByteArray)=>
 newB H (.cells #[(.int .i64 0),(.int .i64 0),(.int .i64 0),(.string (bs []))] tq87) fun b2 H3=>
 storeW H3 ⟨b2,0,none⟩ [(.int .i64 x1.1),(.int .i64 x1.2.1),(.int .i64 x1.2.2.1),(.string x1.2.2.2)] fun H4=>
 lw H4 b2 0 (pInt .i64) fun(x5:Int)=>
 forkB (x5==10)
 (callW PP fq69 #[(pq p)] H4 ⟨Unit,fun _=> .nilIface⟩ fun(_:Unit) H7=>
 call2W PP fq132 #[(pq p)] H7 pIfE ⟨Nat,fun x=>(.tuple #[.nilIface,(.iface tq49 (pq x))])⟩ (fun(x8:(Nat×Nat)) H10=>
 callW PP fq69 #[(pq p)] H10 ⟨Unit,fun _=> .nilIface⟩ fun(_:Unit) H12=>
 lw H12 b2 1 (pInt .i64) fun(x13:Int)=>
 callW PP fq40 #[(pq p),(.int .i64 x13)] H12 pBlk fun(x14:Nat) H15=>
 newB H15 (.cells #[(.string (bs [])),(pq x14),(.iface x8.1 (pq x8.2))] tq305) fun b16 H17=>
 callW PP fq174 #[(pq b16)] H17 pBlk fun(x18:Nat) H19=>
 callW PP fq35 #[(pq p),(.int .i64 2)] H19 pBoE fun(x20:Bool) H21=>
 forkB x20
 (lw H21 b2 1 (pInt .i64) fun(x22:Int)=>
 callW PP fq40 #[(pq p),(.int .i64 x22)] H21 pBlk fun(x23:Nat) H24=>
 newB H24 (.cells #[(.string (bs [])),(pq x23),(.iface tq302 (pq x18))] tq308) fun b25 H26=>
 callW PP fq175 #[(pq b25)] H26 pBlk fun(x27:Nat) H28=>
 retK (some [(.iface tq306 (pq x27)),.nilIface]) H28 R)
 (retK (some [(.iface tq302 (pq x18)),.nilIface]) H21 R))
 (fun(e9:Nat) H10=>
 retK (some [.nilIface,(.iface tq49 (pq e9))]) H10 R))
 (forkB (x5==11)
 (callW PP fq69 #[(pq p)] H4 ⟨Unit,fun _=> .nilIface⟩ fun(_:Unit) H30=>
 lw H30 b2 1 (pInt .i64) fun(x31:Int)=>
 callW PP fq40 #[(pq p),(.int .i64 x31)] H30 pBlk fun(x32:Nat) H33=>
 newB H33 (.cells #[(.string (bs [])),(pq x32),.nilIface] tq305) fun b34 H35=>
 callW PP fq174 #[(pq b34)] H35 pBlk fun(x36:Nat) H37=>
 callW PP fq35 #[(pq p),(.int .i64 2)] H37 pBoE fun(x38:Bool) H39=>
 forkB x38
 (lw H39 b2 1 (pInt .i64) fun(x40:Int)=>
 callW PP fq40 #[(pq p),(.int .i64 x40)] H39 pBlk fun(x41:Nat) H42=>
 newB H42 (.cells #[(.string (bs [])),(pq x41),(.iface tq302 (pq x36))] tq308) fun b43 H44=>
 callW PP fq175 #[(pq b43)] H44 pBlk fun(x45:Nat) H46=>
 retK (some [(.iface tq306 (pq x45)),.nilIface]) H46 R)
 (retK (some [(.iface tq302 (pq x36)),.nilIface]) H39 R))
 (forkB (x5==15)
 (call2W PP fq139 #[(pq p)] H4 pBlE ⟨Nat,fun x=>(.tuple #[(.pointer none),(.iface tq49 (pq x))])⟩ (fun(x47:Nat) H49=>
 callW PP fq35 #[(pq p),(.int .i64 2)] H49 pBoE fun(x50:Bool) H51=>
 forkB x50
 (lw H51 b2 1 (pInt .i64) fun(x52:Int)=>
 callW PP fq40 #[(pq p),(.int .i64 x52)] H51 pBlk fun(x53:Nat) H54=>
 newB H54 (.cells #[(.string (bs [])),(pq x53),(.iface tq216 (pq x47))] tq308) fun b55 H56=>
 callW PP fq175 #[(pq b55)] H56 pBlk fun(x57:Nat) H58=>
 retK (some [(.iface tq306 (pq x57)),.nilIface]) H58 R)
 (retK (some [(.iface tq216 (pq x47)),.nilIface]) H51 R))
 (fun(e48:Nat) H49=>
 retK (some [.nilIface,(.iface tq49 (pq e48))]) H49 R))
 (callW PP fq35 #[(pq p),(.int .i64 2)] H4 pBoE fun(x59:Bool) H60=>
 forkB x59
 (lw H60 b2 1 (pInt .i64) fun(x61:Int)=>
 callW PP fq40 #[(pq p),(.int .i64 x61)] H60 pBlk fun(x62:Nat) H63=>
 newB H63 (.cells #[(.string (bs [])),(pq x62),.nilIface] tq308) fun b64 H65=>
 callW PP fq175 #[(pq b64)] H65 pBlk fun(x66:Nat) H67=>
 retK (some [(.iface tq306 (pq x66)),.nilIface]) H67 R)
 (retK (some [.nilIface,.nilIface]) H60 R))))
theorem parseTypeX.enter (p:Nat) (H:Heap) (R:RR) (h:parseTypeX.W p H R):Fn PP fq132 #[(pq p)] H R:=
 fnS mixed Tryz.func132 ⟨patX [(26,pIfE,⟨Nat,fun x=>(.tuple #[.nilIface,(.iface tq49 (pq x))])⟩),(48,pBlE,⟨Nat,fun x=>(.tuple #[(.pointer none),(.iface tq49 (pq x))])⟩)] [(10,pTk),(12,(pInt .i64)),(20,⟨Unit,fun _=> .nilIface⟩),(33,⟨Unit,fun _=> .nilIface⟩),(40,(pInt .i64)),(41,pBlk),(44,pBlk),(57,pBoE),(67,(pInt .i64)),(68,pBlk),(71,pBlk)],loopL [],joinL [],joinL [],joinRL []⟩ _ H R (Eq.mp (by unfold parseTypeX.W;kernel_rfl) h)
def parseImplementsInterfacesX.W (p:Nat) (H:Heap) (R:RR):Prop:=
 newB H (.cells #[] tq216) fun b1 H2=>
 lw H2 p 8 pStr fun(x3:ByteArray)=>
 forkB (x3.toList==(bs [105,109,112,108,101,109,101,110,116,115]).toList)
 (callW PP fq69 #[(pq p)] H2 ⟨Unit,fun _=> .nilIface⟩ fun(_:Unit) H5=>
 callW PP fq35 #[(pq p),(.int .i64 20)] H5 pBoE fun(_x6:Bool) H7=>
 loopK (Sl×Unit) (((some ⟨b1,0,none⟩),0,0),()) H7 fun z8 H9 next10=>
 call2W PP fq139 #[(pq p)] H9 pBlE ⟨Nat,fun x=>(.tuple #[(.pointer none),(.iface tq49 (pq x))])⟩ (fun(x11:Nat) H13=>
 newB H13 (.cells #[(pq x11)] tq216) fun b14 H15=>
 appK H15 tq216 1 8 z8.1.1 z8.1.2.1 z8.1.2.2 (some ⟨b14,0,none⟩) 1 fun a16 c17 H18=>
 callW PP fq35 #[(pq p),(.int .i64 20)] H18 pBoE fun(x19:Bool) H20=>
 forkB (!x19)
 (retK (some [(.slice a16 (z8.1.2.1+1) c17),.nilIface]) H20 R)
 (next10 ((a16,(z8.1.2.1+1),c17),()) H20))
 (fun(e12:Nat) H13=>
 retK (some [(.slice z8.1.1 z8.1.2.1 z8.1.2.2),(.iface tq49 (pq e12))]) H13 R))
 (retK (some [(.slice (some ⟨b1,0,none⟩) 0 0),.nilIface]) H2 R)
theorem parseImplementsInterfacesX.enter (p:Nat) (H:Heap) (R:RR) (h:parseImplementsInterfacesX.W p H R):Fn PP fq145 #[(pq p)] H R:=
 fnS mixed Tryz.func145 ⟨patX [(26,pBlE,⟨Nat,fun x=>(.tuple #[(.pointer none),(.iface tq49 (pq x))])⟩)] [(15,pStr),(18,⟨Unit,fun _=> .nilIface⟩),(23,pBoE),(39,pBoE)],loopL [(0,[Slot.slc 4])],joinL [],joinL [],joinRL []⟩ _ H R (Eq.mp (by unfold parseImplementsInterfacesX.W;kernel_rfl) h)
def parseUnionMembersX.W (p:Nat) (H:Heap) (R:RR):Prop:=
 newB H (.cells #[] tq216) fun b1 H2=>
 loopK (Sl×Unit) (((some ⟨b1,0,none⟩),0,0),()) H2 fun z3 H4 next5=>
 call2W PP fq139 #[(pq p)] H4 pBlE ⟨Nat,fun x=>(.tuple #[(.pointer none),(.iface tq49 (pq x))])⟩ (fun(x6:Nat) H8=>
 newB H8 (.cells #[(pq x6)] tq216) fun b9 H10=>
 appK H10 tq216 1 8 z3.1.1 z3.1.2.1 z3.1.2.2 (some ⟨b9,0,none⟩) 1 fun a11 c12 H13=>
 callW PP fq35 #[(pq p),(.int .i64 13)] H13 pBoE fun(x14:Bool) H15=>
 forkB (!x14)
 (retK (some [(.slice a11 (z3.1.2.1+1) c12),.nilIface]) H15 R)
 (next5 ((a11,(z3.1.2.1+1),c12),()) H15))
 (fun(e7:Nat) H8=>
 retK (some [(.slice z3.1.1 z3.1.2.1 z3.1.2.2),(.iface tq49 (pq e7))]) H8 R)
theorem parseUnionMembersX.enter (p:Nat) (H:Heap) (R:RR) (h:parseUnionMembersX.W p H R):Fn PP fq149 #[(pq p)] H R:=
 fnS mixed Tryz.func149 ⟨patX [(12,pBlE,⟨Nat,fun x=>(.tuple #[(.pointer none),(.iface tq49 (pq x))])⟩)] [(25,pBoE)],loopL [(0,[Slot.slc 4])],joinL [],joinL [],joinRL []⟩ _ H R (Eq.mp (by unfold parseUnionMembersX.W;kernel_rfl) h)
def parseDirectiveLocationsX.W (p:Nat) (H:Heap) (R:RR):Prop:=
 newB H (.cells #[] tq116) fun b1 H2=>
 loopK (Sl×Unit) (((some ⟨b1,0,none⟩),0,0),()) H2 fun z3 H4 next5=>
 call2W PP fq74 #[(pq p)] H4 pBlE ⟨Nat,fun x=>(.tuple #[(.pointer none),(.iface tq49 (pq x))])⟩ (fun(x6:Nat) H8=>
 newB H8 (.cells #[(pq x6)] tq116) fun b9 H10=>
 appK H10 tq116 1 8 z3.1.1 z3.1.2.1 z3.1.2.2 (some ⟨b9,0,none⟩) 1 fun a11 c12 H13=>
 callW PP fq35 #[(pq p),(.int .i64 13)] H13 pBoE fun(x14:Bool) H15=>
 forkB (!x14)
 (retK (some [(.slice a11 (z3.1.2.1+1) c12),.nilIface]) H15 R)
 (next5 ((a11,(z3.1.2.1+1),c12),()) H15))
 (fun(e7:Nat) H8=>
 retK (some [(.slice z3.1.1 z3.1.2.1 z3.1.2.2),(.iface tq49 (pq e7))]) H8 R)
theorem parseDirectiveLocationsX.enter (p:Nat) (H:Heap) (R:RR) (h:parseDirectiveLocationsX.W p H R):Fn PP fq157 #[(pq p)] H R:=
 fnS mixed Tryz.func157 ⟨patX [(12,pBlE,⟨Nat,fun x=>(.tuple #[(.pointer none),(.iface tq49 (pq x))])⟩)] [(25,pBoE)],loopL [(0,[Slot.slc 4])],joinL [],joinL [],joinRL []⟩ _ H R (Eq.mp (by unfold parseDirectiveLocationsX.W;kernel_rfl) h)
def parseOperationTypeDefinitionX.W (p:Nat) (H:Heap) (R:RR):Prop:=
 lw H p 6 (pInt .i64) fun(x1:Int)=>
 call2W PP fq73 #[(pq p)] H ⟨ByteArray,fun x=>(.tuple #[(.string x),.nilIface])⟩ ⟨ByteArray×Nat,fun x=>(.tuple #[(.string x.1),(.iface tq49 (pq x.2))])⟩ (fun(x2:ByteArray) H4=>
 call2W PP fq100 #[(pq p),(.int .i64 7)] H4 pTkE ⟨Int×Int×Int×ByteArray×Nat,fun x=>(.tuple #[(.agg #[(.int .i64 x.1),(.int .i64 x.2.1),(.int .i64 x.2.2.1),(.string x.2.2.2.1)]),(.iface tq49 (pq x.2.2.2.2))])⟩ (fun(_x5:Int×Int×Int×ByteArray) H7=>
 call2W PP fq139 #[(pq p)] H7 pBlE ⟨Nat,fun x=>(.tuple #[(.pointer none),(.iface tq49 (pq x))])⟩ (fun(x8:Nat) H10=>
 callW PP fq40 #[(pq p),(.int .i64 x1)] H10 pBlk fun(x11:Nat) H12=>
 newB H12 (.cells #[(.string (bs [])),(pq x11),(.string x2),(pq x8)] tq333) fun b13 H14=>
 callW PP fq185 #[(pq b13)] H14 pBlk fun(x15:Nat) H16=>
 retK (some [(.iface tq224 (pq x15)),.nilIface]) H16 R)
 (fun(e9:Nat) H10=>
 retK (some [.nilIface,(.iface tq49 (pq e9))]) H10 R))
 (fun(e6:Int×Int×Int×ByteArray×Nat) H7=>
 retK (some [.nilIface,(.iface tq49 (pq e6.2.2.2.2))]) H7 R))
 (fun(e3:ByteArray×Nat) H4=>
 retK (some [.nilIface,(.iface tq49 (pq e3.2))]) H4 R)
theorem parseOperationTypeDefinitionX.enter (p:Nat) (H:Heap) (R:RR) (h:parseOperationTypeDefinitionX.W p H R):Fn PP fq141 #[(pq p)] H R:=
 fnS mixed Tryz.func141 ⟨patX [(15,⟨ByteArray,fun x=>(.tuple #[(.string x),.nilIface])⟩,⟨ByteArray×Nat,fun x=>(.tuple #[(.string x.1),(.iface tq49 (pq x.2))])⟩),(23,pTkE,⟨Int×Int×Int×ByteArray×Nat,fun x=>(.tuple #[(.agg #[(.int .i64 x.1),(.int .i64 x.2.1),(.int .i64 x.2.2.1),(.string x.2.2.2.1)]),(.iface tq49 (pq x.2.2.2.2))])⟩),(31,pBlE,⟨Nat,fun x=>(.tuple #[(.pointer none),(.iface tq49 (pq x))])⟩)] [(12,(pInt .i64)),(41,pBlk),(44,pBlk)],loopL [],joinL [],joinL [],joinRL []⟩ _ H R (Eq.mp (by unfold parseOperationTypeDefinitionX.W;kernel_rfl) h)
def parseScalarTypeDefinitionX.W (p:Nat) (H:Heap) (R:RR):Prop:=
 lw H p 6 (pInt .i64) fun(x1:Int)=>
 callW PP fq143 #[(pq p)] H ⟨Option Addr,fun x=>(.tuple #[(.pointer x),.nilIface])⟩ fun(x2:Option Addr) H3=>
 call2W PP fq137 #[(pq p),(.string (bs [115,99,97,108,97,114]))] H3 pTkE ⟨Int×Int×Int×ByteArray×Nat,fun x=>(.tuple #[(.agg #[(.int .i64 x.1),(.int .i64 x.2.1),(.int .i64 x.2.2.1),(.string x.2.2.2.1)]),(.iface tq49 (pq x.2.2.2.2))])⟩ (fun(_x4:Int×Int×Int×ByteArray) H6=>
 call2W PP fq74 #[(pq p)] H6 pBlE ⟨Nat,fun x=>(.tuple #[(.pointer none),(.iface tq49 (pq x))])⟩ (fun(x7:Nat) H9=>
 call2W PP fq76 #[(pq p)] H9 pSlE ⟨Sl×Nat,fun x=>(.tuple #[(.slice x.1.1 x.1.2.1 x.1.2.2),(.iface tq49 (pq x.2))])⟩ (fun(x10:Sl) H12=>
 callW PP fq40 #[(pq p),(.int .i64 x1)] H12 pBlk fun(x13:Nat) H14=>
 newB H14 (.cells #[(.string (bs [])),(pq x13),(.pointer x2),(pq x7),(.slice x10.1 x10.2.1 x10.2.2)] tq236) fun b15 H16=>
 callW PP fq144 #[(pq b15)] H16 pBlk fun(x17:Nat) H18=>
 retK (some [(.iface tq233 (pq x17)),.nilIface]) H18 R)
 (fun(e11:Sl×Nat) H12=>
 retK (some [.nilIface,(.iface tq49 (pq e11.2))]) H12 R))
 (fun(e8:Nat) H9=>
 retK (some [.nilIface,(.iface tq49 (pq e8))]) H9 R))
 (fun(e5:Int×Int×Int×ByteArray×Nat) H6=>
 retK (some [.nilIface,(.iface tq49 (pq e5.2.2.2.2))]) H6 R)
theorem parseScalarTypeDefinitionX.enter (p:Nat) (H:Heap) (R:RR) (h:parseScalarTypeDefinitionX.W p H R):Fn PP fq106 #[(pq p)] H R:=
 fnS mixed Tryz.func106 ⟨patX [(25,pTkE,⟨Int×Int×Int×ByteArray×Nat,fun x=>(.tuple #[(.agg #[(.int .i64 x.1),(.int .i64 x.2.1),(.int .i64 x.2.2.1),(.string x.2.2.2.1)]),(.iface tq49 (pq x.2.2.2.2))])⟩),(33,pBlE,⟨Nat,fun x=>(.tuple #[(.pointer none),(.iface tq49 (pq x))])⟩),(41,pSlE,⟨Sl×Nat,fun x=>(.tuple #[(.slice x.1.1 x.1.2.1 x.1.2.2),(.iface tq49 (pq x.2))])⟩)] [(14,(pInt .i64)),(17,⟨Option Addr,fun x=>(.tuple #[(.pointer x),.nilIface])⟩),(52,pBlk),(55,pBlk)],loopL [],joinL [],joinL [],joinRL []⟩ _ H R (Eq.mp (by unfold parseScalarTypeDefinitionX.W;kernel_rfl) h)
def parseEnumValueDefinitionX.W (p:Nat) (H:Heap) (R:RR):Prop:=
 lw H p 6 (pInt .i64) fun(x1:Int)=>
 callW PP fq143 #[(pq p)] H ⟨Option Addr,fun x=>(.tuple #[(.pointer x),.nilIface])⟩ fun(x2:Option Addr) H3=>
 call2W PP fq74 #[(pq p)] H3 pBlE ⟨Nat,fun x=>(.tuple #[(.pointer none),(.iface tq49 (pq x))])⟩ (fun(x4:Nat) H6=>
 call2W PP fq76 #[(pq p)] H6 pSlE ⟨Sl×Nat,fun x=>(.tuple #[(.slice x.1.1 x.1.2.1 x.1.2.2),(.iface tq49 (pq x.2))])⟩ (fun(x7:Sl) H9=>
 callW PP fq40 #[(pq p),(.int .i64 x1)] H9 pBlk fun(x10:Nat) H11=>
 newB H11 (.cells #[(.string (bs [])),(pq x10),(pq x4),(.pointer x2),(.slice x7.1 x7.2.1 x7.2.2)] tq339) fun b12 H13=>
 callW PP fq187 #[(pq b12)] H13 pBlk fun(x14:Nat) H15=>
 retK (some [(.iface tq255 (pq x14)),.nilIface]) H15 R)
 (fun(e8:Sl×Nat) H9=>
 retK (some [.nilIface,(.iface tq49 (pq e8.2))]) H9 R))
 (fun(e5:Nat) H6=>
 retK (some [.nilIface,(.iface tq49 (pq e5))]) H6 R)
theorem parseEnumValueDefinitionX.enter (p:Nat) (H:Heap) (R:RR) (h:parseEnumValueDefinitionX.W p H R):Fn PP fq151 #[(pq p)] H R:=
 fnS mixed Tryz.func151 ⟨patX [(24,pBlE,⟨Nat,fun x=>(.tuple #[(.pointer none),(.iface tq49 (pq x))])⟩),(32,pSlE,⟨Sl×Nat,fun x=>(.tuple #[(.slice x.1.1 x.1.2.1 x.1.2.2),(.iface tq49 (pq x.2))])⟩)] [(13,(pInt .i64)),(16,⟨Option Addr,fun x=>(.tuple #[(.pointer x),.nilIface])⟩),(43,pBlk),(46,pBlk)],loopL [],joinL [],joinL [],joinRL []⟩ _ H R (Eq.mp (by unfold parseEnumValueDefinitionX.W;kernel_rfl) h)
def parseTypeExtensionDefinitionX.W (p:Nat) (H:Heap) (R:RR):Prop:=
 lw H p 6 (pInt .i64) fun(x1:Int)=>
 call2W PP fq137 #[(pq p),(.string (bs [101,120,116,101,110,100]))] H pTkE ⟨Int×Int×Int×ByteArray×Nat,fun x=>(.tuple #[(.agg #[(.int .i64 x.1),(.int .i64 x.2.1),(.int .i64 x.2.2.1),(.string x.2.2.2.1)]),(.iface tq49 (pq x.2.2.2.2))])⟩ (fun(x2:Int×Int×Int×ByteArray) H4=>
 newB H4 (.cells #[(.int .i64 0),(.int .i64 0),(.int .i64 0),(.string (bs []))] tq87) fun b5 H6=>
 storeW H6 ⟨b5,0,none⟩ [(.int .i64 x2.1),(.int .i64 x2.2.1),(.int .i64 x2.2.2.1),(.string x2.2.2.2)] fun H7=>
 call2W PP fq107 #[(pq p)] H7 ⟨Nat,fun x=>(.tuple #[(.iface tq242 (pq x)),.nilIface])⟩ ⟨Nat,fun x=>(.tuple #[.nilIface,(.iface tq49 (pq x))])⟩ (fun(x8:Nat) H10=>
 callW PP fq40 #[(pq p),(.int .i64 x1)] H10 pBlk fun(x11:Nat) H12=>
 newB H12 (.cells #[(.string (bs [])),(pq x11),(pq x8)] tq269) fun b13 H14=>
 callW PP fq155 #[(pq b13)] H14 pBlk fun(x15:Nat) H16=>
 retK (some [(.iface tq266 (pq x15)),.nilIface]) H16 R)
 (fun(e9:Nat) H10=>
 retK (some [.nilIface,(.iface tq49 (pq e9))]) H10 R))
 (fun(e3:Int×Int×Int×ByteArray×Nat) H4=>
 newB H4 (.cells #[(.int .i64 0),(.int .i64 0),(.int .i64 0),(.string (bs []))] tq87) fun b17 H18=>
 storeW H18 ⟨b17,0,none⟩ [(.int .i64 e3.1),(.int .i64 e3.2.1),(.int .i64 e3.2.2.1),(.string e3.2.2.2.1)] fun H19=>
 retK (some [.nilIface,(.iface tq49 (pq e3.2.2.2.2))]) H19 R)
theorem parseTypeExtensionDefinitionX.enter (p:Nat) (H:Heap) (R:RR) (h:parseTypeExtensionDefinitionX.W p H R):Fn PP fq112 #[(pq p)] H R:=
 fnS mixed Tryz.func112 ⟨patX [(15,pTkE,⟨Int×Int×Int×ByteArray×Nat,fun x=>(.tuple #[(.agg #[(.int .i64 x.1),(.int .i64 x.2.1),(.int .i64 x.2.2.1),(.string x.2.2.2.1)]),(.iface tq49 (pq x.2.2.2.2))])⟩),(23,⟨Nat,fun x=>(.tuple #[(.iface tq242 (pq x)),.nilIface])⟩,⟨Nat,fun x=>(.tuple #[.nilIface,(.iface tq49 (pq x))])⟩)] [(12,(pInt .i64)),(31,pBlk),(36,pBlk)],loopL [],joinL [],joinL [],joinRL []⟩ _ H R (Eq.mp (by unfold parseTypeExtensionDefinitionX.W;kernel_rfl) h)
def parseDirectiveDefinitionX.W (p:Nat) (H:Heap) (R:RR):Prop:=
 lw H p 6 (pInt .i64) fun(x1:Int)=>
 callW PP fq143 #[(pq p)] H ⟨Option Addr,fun x=>(.tuple #[(.pointer x),.nilIface])⟩ fun(x2:Option Addr) H3=>
 call2W PP fq137 #[(pq p),(.string (bs [100,105,114,101,99,116,105,118,101]))] H3 pTkE ⟨Int×Int×Int×ByteArray×Nat,fun x=>(.tuple #[(.agg #[(.int .i64 x.1),(.int .i64 x.2.1),(.int .i64 x.2.2.1),(.string x.2.2.2.1)]),(.iface tq49 (pq x.2.2.2.2))])⟩ (fun(_x4:Int×Int×Int×ByteArray) H6=>
 call2W PP fq100 #[(pq p),(.int .i64 9)] H6 pTkE ⟨Int×Int×Int×ByteArray×Nat,fun x=>(.tuple #[(.agg #[(.int .i64 x.1),(.int .i64 x.2.1),(.int .i64 x.2.2.1),(.string x.2.2.2.1)]),(.iface tq49 (pq x.2.2.2.2))])⟩ (fun(_x7:Int×Int×Int×ByteArray) H9=>
 call2W PP fq74 #[(pq p)] H9 pBlE ⟨Nat,fun x=>(.tuple #[(.pointer none),(.iface tq49 (pq x))])⟩ (fun(x10:Nat) H12=>
 call2W PP fq156 #[(pq p)] H12 pSlE ⟨Sl×Nat,fun x=>(.tuple #[(.slice x.1.1 x.1.2.1 x.1.2.2),(.iface tq49 (pq x.2))])⟩ (fun(x13:Sl) H15=>
 call2W PP fq137 #[(pq p),(.string (bs [111,110]))] H15 pTkE ⟨Int×Int×Int×ByteArray×Nat,fun x=>(.tuple #[(.agg #[(.int .i64 x.1),(.int .i64 x.2.1),(.int .i64 x.2.2.1),(.string x.2.2.2.1)]),(.iface tq49 (pq x.2.2.2.2))])⟩ (fun(_x16:Int×Int×Int×ByteArray) H18=>
 call2W PP fq157 #[(pq p)] H18 pSlE ⟨Sl×Nat,fun x=>(.tuple #[(.slice x.1.1 x.1.2.1 x.1.2.2),(.iface tq49 (pq x.2))])⟩ (fun(x19:Sl) H21=>
 callW PP fq40 #[(pq p),(.int .i64 x1)] H21 pBlk fun(x22:Nat) H23=>
 newB H23 (.cells #[(.string (bs [])),(pq x22),(pq x10),(.pointer x2),(.slice x13.1 x13.2.1 x13.2.2),(.slice x19.1 x19.2.1 x19.2.2)] tq278) fun b24 H25=>
 callW PP fq158 #[(pq b24)] H25 pBlk fun(x26:Nat) H27=>
 retK (some [(.iface tq275 (pq x26)),.nilIface]) H27 R)
 (fun(e20:Sl×Nat) H21=>
 retK (some [.nilIface,(.iface tq49 (pq e20.2))]) H21 R))
 (fun(e17:Int×Int×Int×ByteArray×Nat) H18=>
 retK (some [.nilIface,(.iface tq49 (pq e17.2.2.2.2))]) H18 R))
 (fun(e14:Sl×Nat) H15=>
 retK (some [.nilIface,(.iface tq49 (pq e14.2))]) H15 R))
 (fun(e11:Nat) H12=>
 retK (some [.nilIface,(.iface tq49 (pq e11))]) H12 R))
 (fun(e8:Int×Int×Int×ByteArray×Nat) H9=>
 retK (some [.nilIface,(.iface tq49 (pq e8.2.2.2.2))]) H9 R))
 (fun(e5:Int×Int×Int×ByteArray×Nat) H6=>
 retK (some [.nilIface,(.iface tq49 (pq e5.2.2.2.2))]) H6 R)
theorem parseDirectiveDefinitionX.enter (p:Nat) (H:Heap) (R:RR) (h:parseDirectiveDefinitionX.W p H R):Fn PP fq113 #[(pq p)] H R:=
 fnS mixed Tryz.func113 ⟨patX [(25,pTkE,⟨Int×Int×Int×ByteArray×Nat,fun x=>(.tuple #[(.agg #[(.int .i64 x.1),(.int .i64 x.2.1),(.int .i64 x.2.2.1),(.string x.2.2.2.1)]),(.iface tq49 (pq x.2.2.2.2))])⟩),(33,pTkE,⟨Int×Int×Int×ByteArray×Nat,fun x=>(.tuple #[(.agg #[(.int .i64 x.1),(.int .i64 x.2.1),(.int .i64 x.2.2.1),(.string x.2.2.2.1)]),(.iface tq49 (pq x.2.2.2.2))])⟩),(41,pBlE,⟨Nat,fun x=>(.tuple #[(.pointer none),(.iface tq49 (pq x))])⟩),(49,pSlE,⟨Sl×Nat,fun x=>(.tuple #[(.slice x.1.1 x.1.2.1 x.1.2.2),(.iface tq49 (pq x.2))])⟩),(57,pTkE,⟨Int×Int×Int×ByteArray×Nat,fun x=>(.tuple #[(.agg #[(.int .i64 x.1),(.int .i64 x.2.1),(.int .i64 x.2.2.1),(.string x.2.2.2.1)]),(.iface tq49 (pq x.2.2.2.2))])⟩),(65,pSlE,⟨Sl×Nat,fun x=>(.tuple #[(.slice x.1.1 x.1.2.1 x.1.2.2),(.iface tq49 (pq x.2))])⟩)] [(14,(pInt .i64)),(17,⟨Option Addr,fun x=>(.tuple #[(.pointer x),.nilIface])⟩),(73,pBlk),(80,pBlk)],loopL [],joinL [],joinL [],joinRL []⟩ _ H R (Eq.mp (by unfold parseDirectiveDefinitionX.W;kernel_rfl) h)
def parseUnionTypeDefinitionX.W (p:Nat) (H:Heap) (R:RR):Prop:=
 lw H p 6 (pInt .i64) fun(x1:Int)=>
 callW PP fq143 #[(pq p)] H ⟨Option Addr,fun x=>(.tuple #[(.pointer x),.nilIface])⟩ fun(x2:Option Addr) H3=>
 call2W PP fq137 #[(pq p),(.string (bs [117,110,105,111,110]))] H3 pTkE ⟨Int×Int×Int×ByteArray×Nat,fun x=>(.tuple #[(.agg #[(.int .i64 x.1),(.int .i64 x.2.1),(.int .i64 x.2.2.1),(.string x.2.2.2.1)]),(.iface tq49 (pq x.2.2.2.2))])⟩ (fun(_x4:Int×Int×Int×ByteArray) H6=>
 call2W PP fq74 #[(pq p)] H6 pBlE ⟨Nat,fun x=>(.tuple #[(.pointer none),(.iface tq49 (pq x))])⟩ (fun(x7:Nat) H9=>
 call2W PP fq76 #[(pq p)] H9 pSlE ⟨Sl×Nat,fun x=>(.tuple #[(.slice x.1.1 x.1.2.1 x.1.2.2),(.iface tq49 (pq x.2))])⟩ (fun(x10:Sl) H12=>
 call2W PP fq100 #[(pq p),(.int .i64 8)] H12 pTkE ⟨Int×Int×Int×ByteArray×Nat,fun x=>(.tuple #[(.agg #[(.int .i64 x.1),(.int .i64 x.2.1),(.int .i64 x.2.2.1),(.string x.2.2.2.1)]),(.iface tq49 (pq x.2.2.2.2))])⟩ (fun(_x13:Int×Int×Int×ByteArray) H15=>
 call2W PP fq149 #[(pq p)] H15 pSlE ⟨Sl×Nat,fun x=>(.tuple #[(.slice x.1.1 x.1.2.1 x.1.2.2),(.iface tq49 (pq x.2))])⟩ (fun(x16:Sl) H18=>
 callW PP fq40 #[(pq p),(.int .i64 x1)] H18 pBlk fun(x19:Nat) H20=>
 newB H20 (.cells #[(.string (bs [])),(pq x19),(pq x7),(.pointer x2),(.slice x10.1 x10.2.1 x10.2.2),(.slice x16.1 x16.2.1 x16.2.2)] tq253) fun b21 H22=>
 callW PP fq150 #[(pq b21)] H22 pBlk fun(x23:Nat) H24=>
 retK (some [(.iface tq250 (pq x23)),.nilIface]) H24 R)
 (fun(e17:Sl×Nat) H18=>
 retK (some [.nilIface,(.iface tq49 (pq e17.2))]) H18 R))
 (fun(e14:Int×Int×Int×ByteArray×Nat) H15=>
 retK (some [.nilIface,(.iface tq49 (pq e14.2.2.2.2))]) H15 R))
 (fun(e11:Sl×Nat) H12=>
 retK (some [.nilIface,(.iface tq49 (pq e11.2))]) H12 R))
 (fun(e8:Nat) H9=>
 retK (some [.nilIface,(.iface tq49 (pq e8))]) H9 R))
 (fun(e5:Int×Int×Int×ByteArray×Nat) H6=>
 retK (some [.nilIface,(.iface tq49 (pq e5.2.2.2.2))]) H6 R)
theorem parseUnionTypeDefinitionX.enter (p:Nat) (H:Heap) (R:RR) (h:parseUnionTypeDefinitionX.W p H R):Fn PP fq109 #[(pq p)] H R:=
 fnS mixed Tryz.func109 ⟨patX [(25,pTkE,⟨Int×Int×Int×ByteArray×Nat,fun x=>(.tuple #[(.agg #[(.int .i64 x.1),(.int .i64 x.2.1),(.int .i64 x.2.2.1),(.string x.2.2.2.1)]),(.iface tq49 (pq x.2.2.2.2))])⟩),(33,pBlE,⟨Nat,fun x=>(.tuple #[(.pointer none),(.iface tq49 (pq x))])⟩),(41,pSlE,⟨Sl×Nat,fun x=>(.tuple #[(.slice x.1.1 x.1.2.1 x.1.2.2),(.iface tq49 (pq x.2))])⟩),(49,pTkE,⟨Int×Int×Int×ByteArray×Nat,fun x=>(.tuple #[(.agg #[(.int .i64 x.1),(.int .i64 x.2.1),(.int .i64 x.2.2.1),(.string x.2.2.2.1)]),(.iface tq49 (pq x.2.2.2.2))])⟩),(57,pSlE,⟨Sl×Nat,fun x=>(.tuple #[(.slice x.1.1 x.1.2.1 x.1.2.2),(.iface tq49 (pq x.2))])⟩)] [(14,(pInt .i64)),(17,⟨Option Addr,fun x=>(.tuple #[(.pointer x),.nilIface])⟩),(68,pBlk),(72,pBlk)],loopL [],joinL [],joinL [],joinRL []⟩ _ H R (Eq.mp (by unfold parseUnionTypeDefinitionX.W;kernel_rfl) h)
def parseFieldDefinitionX.W (p:Nat) (H:Heap) (R:RR):Prop:=
 lw H p 6 (pInt .i64) fun(x1:Int)=>
 callW PP fq143 #[(pq p)] H ⟨Option Addr,fun x=>(.tuple #[(.pointer x),.nilIface])⟩ fun(x2:Option Addr) H3=>
 call2W PP fq74 #[(pq p)] H3 pBlE ⟨Nat,fun x=>(.tuple #[(.pointer none),(.iface tq49 (pq x))])⟩ (fun(x4:Nat) H6=>
 call2W PP fq156 #[(pq p)] H6 pSlE ⟨Sl×Nat,fun x=>(.tuple #[(.slice x.1.1 x.1.2.1 x.1.2.2),(.iface tq49 (pq x.2))])⟩ (fun(x7:Sl) H9=>
 call2W PP fq100 #[(pq p),(.int .i64 7)] H9 pTkE ⟨Int×Int×Int×ByteArray×Nat,fun x=>(.tuple #[(.agg #[(.int .i64 x.1),(.int .i64 x.2.1),(.int .i64 x.2.2.1),(.string x.2.2.2.1)]),(.iface tq49 (pq x.2.2.2.2))])⟩ (fun(_x10:Int×Int×Int×ByteArray) H12=>
 call2W PP fq132 #[(pq p)] H12 pIfE ⟨Nat,fun x=>(.tuple #[.nilIface,(.iface tq49 (pq x))])⟩ (fun(x13:(Nat×Nat)) H15=>
 call2W PP fq76 #[(pq p)] H15 pSlE ⟨Sl×Nat,fun x=>(.tuple #[(.slice x.1.1 x.1.2.1 x.1.2.2),(.iface tq49 (pq x.2))])⟩ (fun(x16:Sl) H18=>
 callW PP fq40 #[(pq p),(.int .i64 x1)] H18 pBlk fun(x19:Nat) H20=>
 newB H20 (.cells #[(.string (bs [])),(pq x19),(pq x4),(.pointer x2),(.slice x7.1 x7.2.1 x7.2.2),(.iface x13.1 (pq x13.2)),(.slice x16.1 x16.2.1 x16.2.2)] tq336) fun b21 H22=>
 callW PP fq186 #[(pq b21)] H22 pBlk fun(x23:Nat) H24=>
 retK (some [(.iface tq241 (pq x23)),.nilIface]) H24 R)
 (fun(e17:Sl×Nat) H18=>
 retK (some [.nilIface,(.iface tq49 (pq e17.2))]) H18 R))
 (fun(e14:Nat) H15=>
 retK (some [.nilIface,(.iface tq49 (pq e14))]) H15 R))
 (fun(e11:Int×Int×Int×ByteArray×Nat) H12=>
 retK (some [.nilIface,(.iface tq49 (pq e11.2.2.2.2))]) H12 R))
 (fun(e8:Sl×Nat) H9=>
 retK (some [.nilIface,(.iface tq49 (pq e8.2))]) H9 R))
 (fun(e5:Nat) H6=>
 retK (some [.nilIface,(.iface tq49 (pq e5))]) H6 R)
theorem parseFieldDefinitionX.enter (p:Nat) (H:Heap) (R:RR) (h:parseFieldDefinitionX.W p H R):Fn PP fq146 #[(pq p)] H R:=
 fnS mixed Tryz.func146 ⟨patX [(26,pBlE,⟨Nat,fun x=>(.tuple #[(.pointer none),(.iface tq49 (pq x))])⟩),(34,pSlE,⟨Sl×Nat,fun x=>(.tuple #[(.slice x.1.1 x.1.2.1 x.1.2.2),(.iface tq49 (pq x.2))])⟩),(42,pTkE,⟨Int×Int×Int×ByteArray×Nat,fun x=>(.tuple #[(.agg #[(.int .i64 x.1),(.int .i64 x.2.1),(.int .i64 x.2.2.1),(.string x.2.2.2.1)]),(.iface tq49 (pq x.2.2.2.2))])⟩),(50,pIfE,⟨Nat,fun x=>(.tuple #[.nilIface,(.iface tq49 (pq x))])⟩),(58,pSlE,⟨Sl×Nat,fun x=>(.tuple #[(.slice x.1.1 x.1.2.1 x.1.2.2),(.iface tq49 (pq x.2))])⟩)] [(15,(pInt .i64)),(18,⟨Option Addr,fun x=>(.tuple #[(.pointer x),.nilIface])⟩),(71,pBlk),(74,pBlk)],loopL [],joinL [],joinL [],joinRL []⟩ _ H R (Eq.mp (by unfold parseFieldDefinitionX.W;kernel_rfl) h)
def parseInputValueDefX.W (p:Nat) (H:Heap) (R:RR):Prop:=
 lw H p 6 (pInt .i64) fun(x1:Int)=>
 callW PP fq143 #[(pq p)] H ⟨Option Addr,fun x=>(.tuple #[(.pointer x),.nilIface])⟩ fun(x2:Option Addr) H3=>
 call2W PP fq74 #[(pq p)] H3 pBlE ⟨Nat,fun x=>(.tuple #[(.pointer none),(.iface tq49 (pq x))])⟩ (fun(x4:Nat) H6=>
 call2W PP fq100 #[(pq p),(.int .i64 7)] H6 pTkE ⟨Int×Int×Int×ByteArray×Nat,fun x=>(.tuple #[(.agg #[(.int .i64 x.1),(.int .i64 x.2.1),(.int .i64 x.2.2.1),(.string x.2.2.2.1)]),(.iface tq49 (pq x.2.2.2.2))])⟩ (fun(_x7:Int×Int×Int×ByteArray) H9=>
 call2W PP fq132 #[(pq p)] H9 pIfE ⟨Nat,fun x=>(.tuple #[.nilIface,(.iface tq49 (pq x))])⟩ (fun(x10:(Nat×Nat)) H12=>
 callW PP fq35 #[(pq p),(.int .i64 8)] H12 pBoE fun(x13:Bool) H14=>
 forkB x13
 (call2W PP fq188 #[(pq p)] H14 pIfE ⟨Value×Nat,fun x=>(.tuple #[x.1,(.iface tq49 (pq x.2))])⟩ (fun(x15:(Nat×Nat)) H17=>
 asW PP (.iface x15.1 (pq x15.2)) tq20 tq203 true (
 call2W PP fq76 #[(pq p)] H17 pSlE ⟨Sl×Nat,fun x=>(.tuple #[(.slice x.1.1 x.1.2.1 x.1.2.2),(.iface tq49 (pq x.2))])⟩ (fun(x18:Sl) H20=>
 callW PP fq40 #[(pq p),(.int .i64 x1)] H20 pBlk fun(x21:Nat) H22=>
 newB H22 (.cells #[(.string (bs [])),(pq x21),(pq x4),(.pointer x2),(.iface x10.1 (pq x10.2)),(.iface x15.1 (pq x15.2)),(.slice x18.1 x18.2.1 x18.2.2)] tq343) fun b23 H24=>
 callW PP fq189 #[(pq b23)] H24 pBlk fun(x25:Nat) H26=>
 retK (some [(.iface tq261 (pq x25)),.nilIface]) H26 R)
 (fun(e19:Sl×Nat) H20=>
 retK (some [.nilIface,(.iface tq49 (pq e19.2))]) H20 R)))
 (fun(e16:Value×Nat) H17=>
 retK (some [.nilIface,(.iface tq49 (pq e16.2))]) H17 R))
 (call2W PP fq76 #[(pq p)] H14 pSlE ⟨Sl×Nat,fun x=>(.tuple #[(.slice x.1.1 x.1.2.1 x.1.2.2),(.iface tq49 (pq x.2))])⟩ (fun(x27:Sl) H29=>
 callW PP fq40 #[(pq p),(.int .i64 x1)] H29 pBlk fun(x30:Nat) H31=>
 newB H31 (.cells #[(.string (bs [])),(pq x30),(pq x4),(.pointer x2),(.iface x10.1 (pq x10.2)),.nilIface,(.slice x27.1 x27.2.1 x27.2.2)] tq343) fun b32 H33=>
 callW PP fq189 #[(pq b32)] H33 pBlk fun(x34:Nat) H35=>
 retK (some [(.iface tq261 (pq x34)),.nilIface]) H35 R)
 (fun(e28:Sl×Nat) H29=>
 retK (some [.nilIface,(.iface tq49 (pq e28.2))]) H29 R)))
 (fun(e11:Nat) H12=>
 retK (some [.nilIface,(.iface tq49 (pq e11))]) H12 R))
 (fun(e8:Int×Int×Int×ByteArray×Nat) H9=>
 retK (some [.nilIface,(.iface tq49 (pq e8.2.2.2.2))]) H9 R))
 (fun(e5:Nat) H6=>
 retK (some [.nilIface,(.iface tq49 (pq e5))]) H6 R)
theorem parseInputValueDefX.enter (p:Nat) (H:Heap) (R:RR) (h:parseInputValueDefX.W p H R):Fn PP fq153 #[(pq p)] H R:=
 fnS mixed Tryz.func153 ⟨patX [(32,pBlE,⟨Nat,fun x=>(.tuple #[(.pointer none),(.iface tq49 (pq x))])⟩),(40,pTkE,⟨Int×Int×Int×ByteArray×Nat,fun x=>(.tuple #[(.agg #[(.int .i64 x.1),(.int .i64 x.2.1),(.int .i64 x.2.2.1),(.string x.2.2.2.1)]),(.iface tq49 (pq x.2.2.2.2))])⟩),(48,pIfE,⟨Nat,fun x=>(.tuple #[.nilIface,(.iface tq49 (pq x))])⟩),(65,pIfE,⟨Value×Nat,fun x=>(.tuple #[x.1,(.iface tq49 (pq x.2))])⟩),(80,pSlE,⟨Sl×Nat,fun x=>(.tuple #[(.slice x.1.1 x.1.2.1 x.1.2.2),(.iface tq49 (pq x.2))])⟩)] [(21,(pInt .i64)),(24,⟨Option Addr,fun x=>(.tuple #[(.pointer x),.nilIface])⟩),(56,pBoE),(93,pBlk),(96,pBlk)],loopL [],joinL [],joinL [],joinRL []⟩ _ H R (Eq.mp (by unfold parseInputValueDefX.W;kernel_rfl) h)
def parseVariableDefinitionX.W (p:Nat) (H:Heap) (R:RR):Prop:=
 lw H p 6 (pInt .i64) fun(x1:Int)=>
 call2W PP fq131 #[(pq p)] H pBlE ⟨Nat,fun x=>(.tuple #[(.pointer none),(.iface tq49 (pq x))])⟩ (fun(x2:Nat) H4=>
 call2W PP fq100 #[(pq p),(.int .i64 7)] H4 pTkE ⟨Int×Int×Int×ByteArray×Nat,fun x=>(.tuple #[(.agg #[(.int .i64 x.1),(.int .i64 x.2.1),(.int .i64 x.2.2.1),(.string x.2.2.2.1)]),(.iface tq49 (pq x.2.2.2.2))])⟩ (fun(_x5:Int×Int×Int×ByteArray) H7=>
 call2W PP fq132 #[(pq p)] H7 pIfE ⟨Nat,fun x=>(.tuple #[.nilIface,(.iface tq49 (pq x))])⟩ (fun(x8:(Nat×Nat)) H10=>
 callW PP fq35 #[(pq p),(.int .i64 8)] H10 pBoE fun(x11:Bool) H12=>
 forkB x11
 (call2W PP fq133 #[(pq p),(.bool true)] H12 pIfE ⟨Value×Nat,fun x=>(.tuple #[x.1,(.iface tq49 (pq x.2))])⟩ (fun(x13:(Nat×Nat)) H15=>
 callW PP fq40 #[(pq p),(.int .i64 x1)] H15 pBlk fun(x16:Nat) H17=>
 newB H17 (.cells #[(.string (bs [])),(pq x16),(pq x2),(.iface x8.1 (pq x8.2)),(.iface x13.1 (pq x13.2))] tq208) fun b18 H19=>
 callW PP fq134 #[(pq b18)] H19 pBlk fun(x20:Nat) H21=>
 retK (some [(.iface tq169 (pq x20)),.nilIface]) H21 R)
 (fun(e14:Value×Nat) H15=>
 retK (some [.nilIface,(.iface tq49 (pq e14.2))]) H15 R))
 (callW PP fq40 #[(pq p),(.int .i64 x1)] H12 pBlk fun(x22:Nat) H23=>
 newB H23 (.cells #[(.string (bs [])),(pq x22),(pq x2),(.iface x8.1 (pq x8.2)),.nilIface] tq208) fun b24 H25=>
 callW PP fq134 #[(pq b24)] H25 pBlk fun(x26:Nat) H27=>
 retK (some [(.iface tq169 (pq x26)),.nilIface]) H27 R))
 (fun(e9:Nat) H10=>
 retK (some [.nilIface,(.iface tq49 (pq e9))]) H10 R))
 (fun(e6:Int×Int×Int×ByteArray×Nat) H7=>
 retK (some [.nilIface,(.iface tq49 (pq e6.2.2.2.2))]) H7 R))
 (fun(e3:Nat) H4=>
 retK (some [.nilIface,(.iface tq49 (pq e3))]) H4 R)
theorem parseVariableDefinitionX.enter (p:Nat) (H:Heap) (R:RR) (h:parseVariableDefinitionX.W p H R):Fn PP fq102 #[(pq p)] H R:=
 fnS mixed Tryz.func102 ⟨patX [(18,pBlE,⟨Nat,fun x=>(.tuple #[(.pointer none),(.iface tq49 (pq x))])⟩),(26,pTkE,⟨Int×Int×Int×ByteArray×Nat,fun x=>(.tuple #[(.agg #[(.int .i64 x.1),(.int .i64 x.2.1),(.int .i64 x.2.2.1),(.string x.2.2.2.1)]),(.iface tq49 (pq x.2.2.2.2))])⟩),(34,pIfE,⟨Nat,fun x=>(.tuple #[.nilIface,(.iface tq49 (pq x))])⟩),(51,pIfE,⟨Value×Nat,fun x=>(.tuple #[x.1,(.iface tq49 (pq x.2))])⟩)] [(15,(pInt .i64)),(42,pBoE),(62,pBlk),(65,pBlk)],loopL [],joinL [],joinL [],joinRL []⟩ _ H R (Eq.mp (by unfold parseVariableDefinitionX.W;kernel_rfl) h)
def parseFieldX.W (p:Nat) (H:Heap) (R:RR):Prop:=
 lw H p 6 (pInt .i64) fun(x1:Int)=>
 call2W PP fq74 #[(pq p)] H pBlE ⟨Nat,fun x=>(.tuple #[(.pointer none),(.iface tq49 (pq x))])⟩ (fun(x2:Nat) H4=>
 callW PP fq35 #[(pq p),(.int .i64 7)] H4 pBoE fun(x5:Bool) H6=>
 forkB x5
 (call2W PP fq74 #[(pq p)] H6 pBlE ⟨Nat,fun x=>(.tuple #[(.pointer none),(.iface tq49 (pq x))])⟩ (fun(x7:Nat) H9=>
 call2W PP fq135 #[(pq p)] H9 pSlE ⟨Sl×Nat,fun x=>(.tuple #[(.slice x.1.1 x.1.2.1 x.1.2.2),(.iface tq49 (pq x.2))])⟩ (fun(x10:Sl) H12=>
 call2W PP fq76 #[(pq p)] H12 pSlE ⟨Sl×Nat,fun x=>(.tuple #[(.slice x.1.1 x.1.2.1 x.1.2.2),(.iface tq49 (pq x.2))])⟩ (fun(x13:Sl) H15=>
 callW PP fq70 #[(pq p),(.int .i64 12)] H15 pBool fun(x16:Bool) H17=>
 forkB x16
 (call2W PP fq71 #[(pq p)] H17 pBlE ⟨Nat,fun x=>(.tuple #[(.pointer none),(.iface tq49 (pq x))])⟩ (fun(x18:Nat) H20=>
 callW PP fq40 #[(pq p),(.int .i64 x1)] H20 pBlk fun(x21:Nat) H22=>
 newB H22 (.cells #[(.string (bs [])),(pq x21),(pq x2),(pq x7),(.slice x10.1 x10.2.1 x10.2.2),(.slice x13.1 x13.2.1 x13.2.2),(pq x18)] tq298) fun b23 H24=>
 callW PP fq172 #[(pq b23)] H24 pBlk fun(x25:Nat) H26=>
 retK (some [(pq x25),.nilIface]) H26 R)
 (fun(e19:Nat) H20=>
 retK (some [(.pointer none),(.iface tq49 (pq e19))]) H20 R))
 (callW PP fq40 #[(pq p),(.int .i64 x1)] H17 pBlk fun(x27:Nat) H28=>
 newB H28 (.cells #[(.string (bs [])),(pq x27),(pq x2),(pq x7),(.slice x10.1 x10.2.1 x10.2.2),(.slice x13.1 x13.2.1 x13.2.2),(.pointer none)] tq298) fun b29 H30=>
 callW PP fq172 #[(pq b29)] H30 pBlk fun(x31:Nat) H32=>
 retK (some [(pq x31),.nilIface]) H32 R))
 (fun(e14:Sl×Nat) H15=>
 retK (some [(.pointer none),(.iface tq49 (pq e14.2))]) H15 R))
 (fun(e11:Sl×Nat) H12=>
 retK (some [(.pointer none),(.iface tq49 (pq e11.2))]) H12 R))
 (fun(e8:Nat) H9=>
 retK (some [(.pointer none),(.iface tq49 (pq e8))]) H9 R))
 (call2W PP fq135 #[(pq p)] H6 pSlE ⟨Sl×Nat,fun x=>(.tuple #[(.slice x.1.1 x.1.2.1 x.1.2.2),(.iface tq49 (pq x.2))])⟩ (fun(x33:Sl) H35=>
 call2W PP fq76 #[(pq p)] H35 pSlE ⟨Sl×Nat,fun x=>(.tuple #[(.slice x.1.1 x.1.2.1 x.1.2.2),(.iface tq49 (pq x.2))])⟩ (fun(x36:Sl) H38=>
 callW PP fq70 #[(pq p),(.int .i64 12)] H38 pBool fun(x39:Bool) H40=>
 forkB x39
 (call2W PP fq71 #[(pq p)] H40 pBlE ⟨Nat,fun x=>(.tuple #[(.pointer none),(.iface tq49 (pq x))])⟩ (fun(x41:Nat) H43=>
 callW PP fq40 #[(pq p),(.int .i64 x1)] H43 pBlk fun(x44:Nat) H45=>
 newB H45 (.cells #[(.string (bs [])),(pq x44),(.pointer none),(pq x2),(.slice x33.1 x33.2.1 x33.2.2),(.slice x36.1 x36.2.1 x36.2.2),(pq x41)] tq298) fun b46 H47=>
 callW PP fq172 #[(pq b46)] H47 pBlk fun(x48:Nat) H49=>
 retK (some [(pq x48),.nilIface]) H49 R)
 (fun(e42:Nat) H43=>
 retK (some [(.pointer none),(.iface tq49 (pq e42))]) H43 R))
 (callW PP fq40 #[(pq p),(.int .i64 x1)] H40 pBlk fun(x50:Nat) H51=>
 newB H51 (.cells #[(.string (bs [])),(pq x50),(.pointer none),(pq x2),(.slice x33.1 x33.2.1 x33.2.2),(.slice x36.1 x36.2.1 x36.2.2),(.pointer none)] tq298) fun b52 H53=>
 callW PP fq172 #[(pq b52)] H53 pBlk fun(x54:Nat) H55=>
 retK (some [(pq x54),.nilIface]) H55 R))
 (fun(e37:Sl×Nat) H38=>
 retK (some [(.pointer none),(.iface tq49 (pq e37.2))]) H38 R))
 (fun(e34:Sl×Nat) H35=>
 retK (some [(.pointer none),(.iface tq49 (pq e34.2))]) H35 R)))
 (fun(e3:Nat) H4=>
 retK (some [(.pointer none),(.iface tq49 (pq e3))]) H4 R)
theorem parseFieldX.enter (p:Nat) (H:Heap) (R:RR) (h:parseFieldX.W p H R):Fn PP fq130 #[(pq p)] H R:=
 fnS mixed Tryz.func130 ⟨patX [(20,pBlE,⟨Nat,fun x=>(.tuple #[(.pointer none),(.iface tq49 (pq x))])⟩),(38,pBlE,⟨Nat,fun x=>(.tuple #[(.pointer none),(.iface tq49 (pq x))])⟩),(46,pSlE,⟨Sl×Nat,fun x=>(.tuple #[(.slice x.1.1 x.1.2.1 x.1.2.2),(.iface tq49 (pq x.2))])⟩),(54,pSlE,⟨Sl×Nat,fun x=>(.tuple #[(.slice x.1.1 x.1.2.1 x.1.2.2),(.iface tq49 (pq x.2))])⟩),(64,pBlE,⟨Nat,fun x=>(.tuple #[(.pointer none),(.iface tq49 (pq x))])⟩)] [(17,(pInt .i64)),(28,pBoE),(61,pBool),(77,pBlk),(80,pBlk)],loopL [],joinL [],joinL [],joinRL []⟩ _ H R (Eq.mp (by unfold parseFieldX.W;kernel_rfl) h)
def parseFragmentX.W (p:Nat) (H:Heap) (R:RR):Prop:=
 lw H p 6 (pInt .i64) fun(x1:Int)=>
 call2W PP fq100 #[(pq p),(.int .i64 6)] H pTkE ⟨Int×Int×Int×ByteArray×Nat,fun x=>(.tuple #[(.agg #[(.int .i64 x.1),(.int .i64 x.2.1),(.int .i64 x.2.2.1),(.string x.2.2.2.1)]),(.iface tq49 (pq x.2.2.2.2))])⟩ (fun(_x2:Int×Int×Int×ByteArray) H4=>
 joinK (Bool×Unit) (fun J5=>
 callW PP fq70 #[(pq p),(.int .i64 15)] H4 pBool fun(x8:Bool) H9=>
 forkB x8
 (lw H9 p 8 pStr fun(x10:ByteArray)=>
 J5 ((!(x10.toList==(bs [111,110]).toList)),()) H9)
 (J5 (false,()) H9)) fun y6 H7=>
 forkB y6.1
 (call2W PP fq138 #[(pq p)] H7 pBlE ⟨Nat,fun x=>(.tuple #[(.pointer none),(.iface tq49 (pq x))])⟩ (fun(x11:Nat) H13=>
 call2W PP fq76 #[(pq p)] H13 pSlE ⟨Sl×Nat,fun x=>(.tuple #[(.slice x.1.1 x.1.2.1 x.1.2.2),(.iface tq49 (pq x.2))])⟩ (fun(x14:Sl) H16=>
 callW PP fq40 #[(pq p),(.int .i64 x1)] H16 pBlk fun(x17:Nat) H18=>
 newB H18 (.cells #[(.string (bs [])),(pq x17),(pq x11),(.slice x14.1 x14.2.1 x14.2.2)] tq291) fun b19 H20=>
 callW PP fq170 #[(pq b19)] H20 pBlk fun(x21:Nat) H22=>
 retK (some [(.iface tq288 (pq x21)),.nilIface]) H22 R)
 (fun(e15:Sl×Nat) H16=>
 retK (some [.nilIface,(.iface tq49 (pq e15.2))]) H16 R))
 (fun(e12:Nat) H13=>
 retK (some [.nilIface,(.iface tq49 (pq e12))]) H13 R))
 (lw H7 p 8 pStr fun(x23:ByteArray)=>
 forkB (x23.toList==(bs [111,110]).toList)
 (callW PP fq69 #[(pq p)] H7 ⟨Unit,fun _=> .nilIface⟩ fun(_:Unit) H25=>
 call2W PP fq139 #[(pq p)] H25 pBlE ⟨Nat,fun x=>(.tuple #[(.pointer none),(.iface tq49 (pq x))])⟩ (fun(x26:Nat) H28=>
 call2W PP fq76 #[(pq p)] H28 pSlE ⟨Sl×Nat,fun x=>(.tuple #[(.slice x.1.1 x.1.2.1 x.1.2.2),(.iface tq49 (pq x.2))])⟩ (fun(x29:Sl) H31=>
 call2W PP fq71 #[(pq p)] H31 pBlE ⟨Nat,fun x=>(.tuple #[(.pointer none),(.iface tq49 (pq x))])⟩ (fun(x32:Nat) H34=>
 callW PP fq40 #[(pq p),(.int .i64 x1)] H34 pBlk fun(x35:Nat) H36=>
 newB H36 (.cells #[(.string (bs [])),(pq x35),(pq x26),(.slice x29.1 x29.2.1 x29.2.2),(pq x32)] tq295) fun b37 H38=>
 callW PP fq171 #[(pq b37)] H38 pBlk fun(x39:Nat) H40=>
 retK (some [(.iface tq292 (pq x39)),.nilIface]) H40 R)
 (fun(e33:Nat) H34=>
 retK (some [.nilIface,(.iface tq49 (pq e33))]) H34 R))
 (fun(e30:Sl×Nat) H31=>
 retK (some [.nilIface,(.iface tq49 (pq e30.2))]) H31 R))
 (fun(e27:Nat) H28=>
 retK (some [.nilIface,(.iface tq49 (pq e27))]) H28 R))
 (call2W PP fq76 #[(pq p)] H7 pSlE ⟨Sl×Nat,fun x=>(.tuple #[(.slice x.1.1 x.1.2.1 x.1.2.2),(.iface tq49 (pq x.2))])⟩ (fun(x41:Sl) H43=>
 call2W PP fq71 #[(pq p)] H43 pBlE ⟨Nat,fun x=>(.tuple #[(.pointer none),(.iface tq49 (pq x))])⟩ (fun(x44:Nat) H46=>
 callW PP fq40 #[(pq p),(.int .i64 x1)] H46 pBlk fun(x47:Nat) H48=>
 newB H48 (.cells #[(.string (bs [])),(pq x47),(.pointer none),(.slice x41.1 x41.2.1 x41.2.2),(pq x44)] tq295) fun b49 H50=>
 callW PP fq171 #[(pq b49)] H50 pBlk fun(x51:Nat) H52=>
 retK (some [(.iface tq292 (pq x51)),.nilIface]) H52 R)
 (fun(e45:Nat) H46=>
 retK (some [.nilIface,(.iface tq49 (pq e45))]) H46 R))
 (fun(e42:Sl×Nat) H43=>
 retK (some [.nilIface,(.iface tq49 (pq e42.2))]) H43 R))))
 (fun(e3:Int×Int×Int×ByteArray×Nat) H4=>
 retK (some [.nilIface,(.iface tq49 (pq e3.2.2.2.2))]) H4 R)
theorem parseFragmentX.enter (p:Nat) (H:Heap) (R:RR) (h:parseFragmentX.W p H R):Fn PP fq129 #[(pq p)] H R:=
 fnS mixed Tryz.func129 ⟨patX [(22,pTkE,⟨Int×Int×Int×ByteArray×Nat,fun x=>(.tuple #[(.agg #[(.int .i64 x.1),(.int .i64 x.2.1),(.int .i64 x.2.2.1),(.string x.2.2.2.1)]),(.iface tq49 (pq x.2.2.2.2))])⟩),(40,pBlE,⟨Nat,fun x=>(.tuple #[(.pointer none),(.iface tq49 (pq x))])⟩),(48,pSlE,⟨Sl×Nat,fun x=>(.tuple #[(.slice x.1.1 x.1.2.1 x.1.2.2),(.iface tq49 (pq x.2))])⟩),(76,pBlE,⟨Nat,fun x=>(.tuple #[(.pointer none),(.iface tq49 (pq x))])⟩),(85,pSlE,⟨Sl×Nat,fun x=>(.tuple #[(.slice x.1.1 x.1.2.1 x.1.2.2),(.iface tq49 (pq x.2))])⟩),(93,pBlE,⟨Nat,fun x=>(.tuple #[(.pointer none),(.iface tq49 (pq x))])⟩)] [(19,(pInt .i64)),(29,pBool),(35,pStr),(58,pBlk),(61,pBlk),(67,pStr),(70,⟨Unit,fun _=> .nilIface⟩),(104,pBlk),(107,pBlk)],loopL [],joinL [],joinL [],joinRL [(6,[Slot.bool 37],false)]⟩ _ H R (Eq.mp (by unfold parseFragmentX.W;kernel_rfl) h)
def parseFragmentDefinitionX.W (p:Nat) (H:Heap) (R:RR):Prop:=
 lw H p 6 (pInt .i64) fun(x1:Int)=>
 call2W PP fq137 #[(pq p),(.string (bs [102,114,97,103,109,101,110,116]))] H pTkE ⟨Int×Int×Int×ByteArray×Nat,fun x=>(.tuple #[(.agg #[(.int .i64 x.1),(.int .i64 x.2.1),(.int .i64 x.2.2.1),(.string x.2.2.2.1)]),(.iface tq49 (pq x.2.2.2.2))])⟩ (fun(x2:Int×Int×Int×ByteArray) H4=>
 newB H4 (.cells #[(.int .i64 0),(.int .i64 0),(.int .i64 0),(.string (bs []))] tq87) fun b5 H6=>
 storeW H6 ⟨b5,0,none⟩ [(.int .i64 x2.1),(.int .i64 x2.2.1),(.int .i64 x2.2.2.1),(.string x2.2.2.2)] fun H7=>
 call2W PP fq138 #[(pq p)] H7 pBlE ⟨Nat,fun x=>(.tuple #[(.pointer none),(.iface tq49 (pq x))])⟩ (fun(x8:Nat) H10=>
 call2W PP fq137 #[(pq p),(.string (bs [111,110]))] H10 pTkE ⟨Int×Int×Int×ByteArray×Nat,fun x=>(.tuple #[(.agg #[(.int .i64 x.1),(.int .i64 x.2.1),(.int .i64 x.2.2.1),(.string x.2.2.2.1)]),(.iface tq49 (pq x.2.2.2.2))])⟩ (fun(_x11:Int×Int×Int×ByteArray) H13=>
 call2W PP fq139 #[(pq p)] H13 pBlE ⟨Nat,fun x=>(.tuple #[(.pointer none),(.iface tq49 (pq x))])⟩ (fun(x14:Nat) H16=>
 call2W PP fq76 #[(pq p)] H16 pSlE ⟨Sl×Nat,fun x=>(.tuple #[(.slice x.1.1 x.1.2.1 x.1.2.2),(.iface tq49 (pq x.2))])⟩ (fun(x17:Sl) H19=>
 call2W PP fq71 #[(pq p)] H19 pBlE ⟨Nat,fun x=>(.tuple #[(.pointer none),(.iface tq49 (pq x))])⟩ (fun(x20:Nat) H22=>
 callW PP fq40 #[(pq p),(.int .i64 x1)] H22 pBlk fun(x23:Nat) H24=>
 newB H24 (.cells #[(.string (bs [])),(pq x23),(.string (bs [])),(pq x8),(.slice none 0 0),(pq x14),(.slice x17.1 x17.2.1 x17.2.2),(pq x20)] tq222) fun b25 H26=>
 callW PP fq140 #[(pq b25)] H26 pBlk fun(x27:Nat) H28=>
 retK (some [(.iface tq219 (pq x27)),.nilIface]) H28 R)
 (fun(e21:Nat) H22=>
 retK (some [.nilIface,(.iface tq49 (pq e21))]) H22 R))
 (fun(e18:Sl×Nat) H19=>
 retK (some [.nilIface,(.iface tq49 (pq e18.2))]) H19 R))
 (fun(e15:Nat) H16=>
 retK (some [.nilIface,(.iface tq49 (pq e15))]) H16 R))
 (fun(e12:Int×Int×Int×ByteArray×Nat) H13=>
 retK (some [.nilIface,(.iface tq49 (pq e12.2.2.2.2))]) H13 R))
 (fun(e9:Nat) H10=>
 retK (some [.nilIface,(.iface tq49 (pq e9))]) H10 R))
 (fun(e3:Int×Int×Int×ByteArray×Nat) H4=>
 newB H4 (.cells #[(.int .i64 0),(.int .i64 0),(.int .i64 0),(.string (bs []))] tq87) fun b29 H30=>
 storeW H30 ⟨b29,0,none⟩ [(.int .i64 e3.1),(.int .i64 e3.2.1),(.int .i64 e3.2.2.1),(.string e3.2.2.2.1)] fun H31=>
 retK (some [.nilIface,(.iface tq49 (pq e3.2.2.2.2))]) H31 R)
theorem parseFragmentDefinitionX.enter (p:Nat) (H:Heap) (R:RR) (h:parseFragmentDefinitionX.W p H R):Fn PP fq104 #[(pq p)] H R:=
 fnS mixed Tryz.func104 ⟨patX [(18,pTkE,⟨Int×Int×Int×ByteArray×Nat,fun x=>(.tuple #[(.agg #[(.int .i64 x.1),(.int .i64 x.2.1),(.int .i64 x.2.2.1),(.string x.2.2.2.1)]),(.iface tq49 (pq x.2.2.2.2))])⟩),(26,pBlE,⟨Nat,fun x=>(.tuple #[(.pointer none),(.iface tq49 (pq x))])⟩),(34,pTkE,⟨Int×Int×Int×ByteArray×Nat,fun x=>(.tuple #[(.agg #[(.int .i64 x.1),(.int .i64 x.2.1),(.int .i64 x.2.2.1),(.string x.2.2.2.1)]),(.iface tq49 (pq x.2.2.2.2))])⟩),(42,pBlE,⟨Nat,fun x=>(.tuple #[(.pointer none),(.iface tq49 (pq x))])⟩),(50,pSlE,⟨Sl×Nat,fun x=>(.tuple #[(.slice x.1.1 x.1.2.1 x.1.2.2),(.iface tq49 (pq x.2))])⟩),(58,pBlE,⟨Nat,fun x=>(.tuple #[(.pointer none),(.iface tq49 (pq x))])⟩)] [(15,(pInt .i64)),(70,pBlk),(73,pBlk)],loopL [],joinL [],joinL [],joinRL []⟩ _ H R (Eq.mp (by unfold parseFragmentDefinitionX.W;kernel_rfl) h)
def parseOperationDefinitionX.W (p:Nat) (H:Heap) (R:RR):Prop:=
 lw H p 6 (pInt .i64) fun(x1:Int)=>
 callW PP fq70 #[(pq p),(.int .i64 12)] H pBool fun(x2:Bool) H3=>
 forkB x2
 (call2W PP fq71 #[(pq p)] H3 pBlE ⟨Nat,fun x=>(.tuple #[(.pointer none),(.iface tq49 (pq x))])⟩ (fun(x4:Nat) H6=>
 newB H6 (.cells #[] tq170) fun b7 H8=>
 callW PP fq40 #[(pq p),(.int .i64 x1)] H8 pBlk fun(x9:Nat) H10=>
 newB H10 (.cells #[(.string (bs [])),(pq x9),(.string (bs [113,117,101,114,121])),(.pointer none),(.slice none 0 0),(.slice (some ⟨b7,0,none⟩) 0 0),(pq x4)] tq125) fun b11 H12=>
 callW PP fq72 #[(pq b11)] H12 pBlk fun(x13:Nat) H14=>
 retK (some [(.iface tq122 (pq x13)),.nilIface]) H14 R)
 (fun(e5:Nat) H6=>
 retK (some [.nilIface,(.iface tq49 (pq e5))]) H6 R))
 (call2W PP fq73 #[(pq p)] H3 ⟨ByteArray,fun x=>(.tuple #[(.string x),.nilIface])⟩ ⟨ByteArray×Nat,fun x=>(.tuple #[(.string x.1),(.iface tq49 (pq x.2))])⟩ (fun(x15:ByteArray) H17=>
 callW PP fq70 #[(pq p),(.int .i64 15)] H17 pBool fun(x18:Bool) H19=>
 forkB x18
 (call2W PP fq74 #[(pq p)] H19 pBlE ⟨Nat,fun x=>(.tuple #[(.pointer none),(.iface tq49 (pq x))])⟩ (fun(x20:Nat) H22=>
 call2W PP fq75 #[(pq p)] H22 pSlE ⟨Sl×Nat,fun x=>(.tuple #[(.slice x.1.1 x.1.2.1 x.1.2.2),(.iface tq49 (pq x.2))])⟩ (fun(x23:Sl) H25=>
 call2W PP fq76 #[(pq p)] H25 pSlE ⟨Sl×Nat,fun x=>(.tuple #[(.slice x.1.1 x.1.2.1 x.1.2.2),(.iface tq49 (pq x.2))])⟩ (fun(x26:Sl) H28=>
 call2W PP fq71 #[(pq p)] H28 pBlE ⟨Nat,fun x=>(.tuple #[(.pointer none),(.iface tq49 (pq x))])⟩ (fun(x29:Nat) H31=>
 callW PP fq40 #[(pq p),(.int .i64 x1)] H31 pBlk fun(x32:Nat) H33=>
 newB H33 (.cells #[(.string (bs [])),(pq x32),(.string x15),(pq x20),(.slice x23.1 x23.2.1 x23.2.2),(.slice x26.1 x26.2.1 x26.2.2),(pq x29)] tq125) fun b34 H35=>
 callW PP fq72 #[(pq b34)] H35 pBlk fun(x36:Nat) H37=>
 retK (some [(.iface tq122 (pq x36)),.nilIface]) H37 R)
 (fun(e30:Nat) H31=>
 retK (some [.nilIface,(.iface tq49 (pq e30))]) H31 R))
 (fun(e27:Sl×Nat) H28=>
 retK (some [.nilIface,(.iface tq49 (pq e27.2))]) H28 R))
 (fun(e24:Sl×Nat) H25=>
 retK (some [.nilIface,(.iface tq49 (pq e24.2))]) H25 R))
 (fun(e21:Nat) H22=>
 retK (some [.nilIface,(.iface tq49 (pq e21))]) H22 R))
 (call2W PP fq75 #[(pq p)] H19 pSlE ⟨Sl×Nat,fun x=>(.tuple #[(.slice x.1.1 x.1.2.1 x.1.2.2),(.iface tq49 (pq x.2))])⟩ (fun(x38:Sl) H40=>
 call2W PP fq76 #[(pq p)] H40 pSlE ⟨Sl×Nat,fun x=>(.tuple #[(.slice x.1.1 x.1.2.1 x.1.2.2),(.iface tq49 (pq x.2))])⟩ (fun(x41:Sl) H43=>
 call2W PP fq71 #[(pq p)] H43 pBlE ⟨Nat,fun x=>(.tuple #[(.pointer none),(.iface tq49 (pq x))])⟩ (fun(x44:Nat) H46=>
 callW PP fq40 #[(pq p),(.int .i64 x1)] H46 pBlk fun(x47:Nat) H48=>
 newB H48 (.cells #[(.string (bs [])),(pq x47),(.string x15),(.pointer none),(.slice x38.1 x38.2.1 x38.2.2),(.slice x41.1 x41.2.1 x41.2.2),(pq x44)] tq125) fun b49 H50=>
 callW PP fq72 #[(pq b49)] H50 pBlk fun(x51:Nat) H52=>
 retK (some [(.iface tq122 (pq x51)),.nilIface]) H52 R)
 (fun(e45:Nat) H46=>
 retK (some [.nilIface,(.iface tq49 (pq e45))]) H46 R))
 (fun(e42:Sl×Nat) H43=>
 retK (some [.nilIface,(.iface tq49 (pq e42.2))]) H43 R))
 (fun(e39:Sl×Nat) H40=>
 retK (some [.nilIface,(.iface tq49 (pq e39.2))]) H40 R)))
 (fun(e16:ByteArray×Nat) H17=>
 retK (some [.nilIface,(.iface tq49 (pq e16.2))]) H17 R))
theorem parseOperationDefinitionX.enter (p:Nat) (H:Heap) (R:RR) (h:parseOperationDefinitionX.W p H R):Fn PP fq36 #[(pq p)] H R:=
 fnS mixed Tryz.func36 ⟨patX [(22,pBlE,⟨Nat,fun x=>(.tuple #[(.pointer none),(.iface tq49 (pq x))])⟩),(39,⟨ByteArray,fun x=>(.tuple #[(.string x),.nilIface])⟩,⟨ByteArray×Nat,fun x=>(.tuple #[(.string x.1),(.iface tq49 (pq x.2))])⟩),(49,pBlE,⟨Nat,fun x=>(.tuple #[(.pointer none),(.iface tq49 (pq x))])⟩),(57,pSlE,⟨Sl×Nat,fun x=>(.tuple #[(.slice x.1.1 x.1.2.1 x.1.2.2),(.iface tq49 (pq x.2))])⟩),(65,pSlE,⟨Sl×Nat,fun x=>(.tuple #[(.slice x.1.1 x.1.2.1 x.1.2.2),(.iface tq49 (pq x.2))])⟩),(73,pBlE,⟨Nat,fun x=>(.tuple #[(.pointer none),(.iface tq49 (pq x))])⟩)] [(17,(pInt .i64)),(19,pBool),(32,pBlk),(35,pBlk),(46,pBool),(86,pBlk),(89,pBlk)],loopL [],joinL [],joinL [],joinRL []⟩ _ H R (Eq.mp (by unfold parseOperationDefinitionX.W;kernel_rfl) h)
def parseArgumentX.W (p:Nat) (H:Heap) (R:RR):Prop:=
 lw H p 6 (pInt .i64) fun(x1:Int)=>
 call2W PP fq74 #[(pq p)] H pBlE ⟨Nat,fun x=>(.tuple #[(.pointer none),(.iface tq49 (pq x))])⟩ (fun(x2:Nat) H4=>
 call2W PP fq100 #[(pq p),(.int .i64 7)] H4 pTkE ⟨Int×Int×Int×ByteArray×Nat,fun x=>(.tuple #[(.agg #[(.int .i64 x.1),(.int .i64 x.2.1),(.int .i64 x.2.2.1),(.string x.2.2.2.1)]),(.iface tq49 (pq x.2.2.2.2))])⟩ (fun(_x5:Int×Int×Int×ByteArray) H7=>
 call2W PP fq133 #[(pq p),(.bool false)] H7 pIfE ⟨Value×Nat,fun x=>(.tuple #[x.1,(.iface tq49 (pq x.2))])⟩ (fun(x8:(Nat×Nat)) H10=>
 callW PP fq40 #[(pq p),(.int .i64 x1)] H10 pBlk fun(x11:Nat) H12=>
 newB H12 (.cells #[(.string (bs [])),(pq x11),(pq x2),(.iface x8.1 (pq x8.2))] tq372) fun b13 H14=>
 callW PP fq204 #[(pq b13)] H14 pBlk fun(x15:Nat) H16=>
 retK (some [(.iface tq328 (pq x15)),.nilIface]) H16 R)
 (fun(e9:Value×Nat) H10=>
 retK (some [.nilIface,(.iface tq49 (pq e9.2))]) H10 R))
 (fun(e6:Int×Int×Int×ByteArray×Nat) H7=>
 retK (some [.nilIface,(.iface tq49 (pq e6.2.2.2.2))]) H7 R))
 (fun(e3:Nat) H4=>
 retK (some [.nilIface,(.iface tq49 (pq e3))]) H4 R)
theorem parseArgumentX.enter (p:Nat) (H:Heap) (R:RR) (h:parseArgumentX.W p H R):Fn PP fq183 #[(pq p)] H R:=
 fnS mixed Tryz.func183 ⟨patX [(15,pBlE,⟨Nat,fun x=>(.tuple #[(.pointer none),(.iface tq49 (pq x))])⟩),(23,pTkE,⟨Int×Int×Int×ByteArray×Nat,fun x=>(.tuple #[(.agg #[(.int .i64 x.1),(.int .i64 x.2.1),(.int .i64 x.2.2.1),(.string x.2.2.2.1)]),(.iface tq49 (pq x.2.2.2.2))])⟩),(31,pIfE,⟨Value×Nat,fun x=>(.tuple #[x.1,(.iface tq49 (pq x.2))])⟩)] [(12,(pInt .i64)),(41,pBlk),(44,pBlk)],loopL [],joinL [],joinL [],joinRL []⟩ _ H R (Eq.mp (by unfold parseArgumentX.W;kernel_rfl) h)
def parseSelectionX.W (p:Nat) (H:Heap) (R:RR):Prop:=
 callW PP fq70 #[(pq p),(.int .i64 6)] H pBool fun(x1:Bool) H2=>
 forkB x1
 (call2W PP fq129 #[(pq p)] H2 pIfE ⟨Nat,fun x=>(.tuple #[.nilIface,(.iface tq49 (pq x))])⟩ (fun(x3:(Nat×Nat)) H5=>
 retK (some [(.iface x3.1 (pq x3.2)),.nilIface]) H5 R)
 (fun(e4:Nat) H5=>
 retK (some [.nilIface,(.iface tq49 (pq e4))]) H5 R))
 (call2W PP fq130 #[(pq p)] H2 pBlE ⟨Nat,fun x=>(.tuple #[(.pointer none),(.iface tq49 (pq x))])⟩ (fun(x6:Nat) H8=>
 retK (some [(.iface tq192 (pq x6)),.nilIface]) H8 R)
 (fun(e7:Nat) H8=>
 retK (some [(.iface tq192 (.pointer none)),(.iface tq49 (pq e7))]) H8 R))
theorem parseSelectionX.enter (p:Nat) (H:Heap) (R:RR) (h:parseSelectionX.W p H R):Fn PP fq98 #[(pq p)] H R:=
 fnS mixed Tryz.func98 ⟨patX [(7,pIfE,⟨Nat,fun x=>(.tuple #[.nilIface,(.iface tq49 (pq x))])⟩),(11,pBlE,⟨Nat,fun x=>(.tuple #[(.pointer none),(.iface tq49 (pq x))])⟩)] [(5,pBool)],loopL [],joinL [],joinL [],joinRL []⟩ _ H R (Eq.mp (by unfold parseSelectionX.W;kernel_rfl) h)
def parseSchemaDefinitionX.W (p:Nat) (H:Heap) (R:RR):Prop:=
 lw H p 6 (pInt .i64) fun(x1:Int)=>
 call2W PP fq137 #[(pq p),(.string (bs [115,99,104,101,109,97]))] H pTkE ⟨Int×Int×Int×ByteArray×Nat,fun x=>(.tuple #[(.agg #[(.int .i64 x.1),(.int .i64 x.2.1),(.int .i64 x.2.2.1),(.string x.2.2.2.1)]),(.iface tq49 (pq x.2.2.2.2))])⟩ (fun(x2:Int×Int×Int×ByteArray) H4=>
 newB H4 (.cells #[(.int .i64 0),(.int .i64 0),(.int .i64 0),(.string (bs []))] tq87) fun b5 H6=>
 storeW H6 ⟨b5,0,none⟩ [(.int .i64 x2.1),(.int .i64 x2.2.1),(.int .i64 x2.2.2.1),(.string x2.2.2.2)] fun H7=>
 call2W PP fq76 #[(pq p)] H7 pSlE ⟨Sl×Nat,fun x=>(.tuple #[(.slice x.1.1 x.1.2.1 x.1.2.2),(.iface tq49 (pq x.2))])⟩ (fun(x8:Sl) H10=>
 call2W PP fq97 #[(pq p),(.int .i64 12),(.func (.func fq141) #[] #[]),(.int .i64 14),(.bool true)] H10 pSlE ⟨Sl×Nat,fun x=>(.tuple #[(.slice x.1.1 x.1.2.1 x.1.2.2),(.iface tq49 (pq x.2))])⟩ (fun(x11:Sl) H13=>
 newB H13 (.cells #[] tq224) fun b14 H15=>
 loopK (Sl×Int×Unit) (((some ⟨b14,0,none⟩),0,0),0,()) H15 fun z16 H17 next18=>
 forkB (decide (z16.2.1<((x11.2.1:Nat):Int)))
 ((IxOk x11.1 z16.2.1 x11.2.1)∧
 loadW H17 false 1 ⟨(blkOf x11.1),(offOf x11.1+z16.2.1.toNat*1),none⟩ ⟨Nat,fun x=>(.iface tq224 (pq x))⟩ fun(x19:Nat)=>
 newB H17 (.cells #[(pq x19)] tq224) fun b20 H21=>
 appK H21 tq224 1 8 z16.1.1 z16.1.2.1 z16.1.2.2 (some ⟨b20,0,none⟩) 1 fun a22 c23 H24=>
 next18 ((a22,(z16.1.2.1+1),c23),(IntKind.i64.wrap (z16.2.1+1)),()) H24)
 (callW PP fq40 #[(pq p),(.int .i64 x1)] H17 pBlk fun(x25:Nat) H26=>
 newB H26 (.cells #[(.string (bs [])),(pq x25),(.slice x8.1 x8.2.1 x8.2.2),(.slice z16.1.1 z16.1.2.1 z16.1.2.2)] tq229) fun b27 H28=>
 callW PP fq142 #[(pq b27)] H28 pBlk fun(x29:Nat) H30=>
 retK (some [(.iface tq226 (pq x29)),.nilIface]) H30 R))
 (fun(e12:Sl×Nat) H13=>
 retK (some [.nilIface,(.iface tq49 (pq e12.2))]) H13 R))
 (fun(e9:Sl×Nat) H10=>
 retK (some [.nilIface,(.iface tq49 (pq e9.2))]) H10 R))
 (fun(e3:Int×Int×Int×ByteArray×Nat) H4=>
 newB H4 (.cells #[(.int .i64 0),(.int .i64 0),(.int .i64 0),(.string (bs []))] tq87) fun b31 H32=>
 storeW H32 ⟨b31,0,none⟩ [(.int .i64 e3.1),(.int .i64 e3.2.1),(.int .i64 e3.2.2.1),(.string e3.2.2.2.1)] fun H33=>
 retK (some [.nilIface,(.iface tq49 (pq e3.2.2.2.2))]) H33 R)
theorem parseSchemaDefinitionX.enter (p:Nat) (H:Heap) (R:RR) (h:parseSchemaDefinitionX.W p H R):Fn PP fq105 #[(pq p)] H R:=
 fnS mixed Tryz.func105 ⟨patX [(21,pTkE,⟨Int×Int×Int×ByteArray×Nat,fun x=>(.tuple #[(.agg #[(.int .i64 x.1),(.int .i64 x.2.1),(.int .i64 x.2.2.1),(.string x.2.2.2.1)]),(.iface tq49 (pq x.2.2.2.2))])⟩),(29,pSlE,⟨Sl×Nat,fun x=>(.tuple #[(.slice x.1.1 x.1.2.1 x.1.2.2),(.iface tq49 (pq x.2))])⟩),(37,pSlE,⟨Sl×Nat,fun x=>(.tuple #[(.slice x.1.1 x.1.2.1 x.1.2.2),(.iface tq49 (pq x.2))])⟩)] [(18,(pInt .i64)),(49,⟨Nat,fun x=>(.iface tq224 (pq x))⟩),(65,pBlk),(68,pBlk)],loopL [(0,[Slot.slc 9,Slot.int .i64 46])],joinL [],joinL [],joinRL []⟩ _ H R (Eq.mp (by unfold parseSchemaDefinitionX.W;kernel_rfl) h)
def parseObjectTypeDefinitionX.W (p:Nat) (H:Heap) (R:RR):Prop:=
 lw H p 6 (pInt .i64) fun(x1:Int)=>
 callW PP fq143 #[(pq p)] H ⟨Option Addr,fun x=>(.tuple #[(.pointer x),.nilIface])⟩ fun(x2:Option Addr) H3=>
 call2W PP fq137 #[(pq p),(.string (bs [116,121,112,101]))] H3 pTkE ⟨Int×Int×Int×ByteArray×Nat,fun x=>(.tuple #[(.agg #[(.int .i64 x.1),(.int .i64 x.2.1),(.int .i64 x.2.2.1),(.string x.2.2.2.1)]),(.iface tq49 (pq x.2.2.2.2))])⟩ (fun(_x4:Int×Int×Int×ByteArray) H6=>
 call2W PP fq74 #[(pq p)] H6 pBlE ⟨Nat,fun x=>(.tuple #[(.pointer none),(.iface tq49 (pq x))])⟩ (fun(x7:Nat) H9=>
 call2W PP fq145 #[(pq p)] H9 pSlE ⟨Sl×Nat,fun x=>(.tuple #[(.slice x.1.1 x.1.2.1 x.1.2.2),(.iface tq49 (pq x.2))])⟩ (fun(x10:Sl) H12=>
 call2W PP fq76 #[(pq p)] H12 pSlE ⟨Sl×Nat,fun x=>(.tuple #[(.slice x.1.1 x.1.2.1 x.1.2.2),(.iface tq49 (pq x.2))])⟩ (fun(x13:Sl) H15=>
 call2W PP fq97 #[(pq p),(.int .i64 12),(.func (.func fq146) #[] #[]),(.int .i64 14),(.bool false)] H15 pSlE ⟨Sl×Nat,fun x=>(.tuple #[(.slice x.1.1 x.1.2.1 x.1.2.2),(.iface tq49 (pq x.2))])⟩ (fun(x16:Sl) H18=>
 newB H18 (.cells #[] tq241) fun b19 H20=>
 loopK (Sl×Int×Unit) (((some ⟨b19,0,none⟩),0,0),0,()) H20 fun z21 H22 next23=>
 forkB (decide (z21.2.1<((x16.2.1:Nat):Int)))
 ((IxOk x16.1 z21.2.1 x16.2.1)∧
 loadW H22 false 1 ⟨(blkOf x16.1),(offOf x16.1+z21.2.1.toNat*1),none⟩ ⟨Nat,fun x=>(.iface tq241 (pq x))⟩ fun(x24:Nat)=>
 newB H22 (.cells #[(pq x24)] tq241) fun b25 H26=>
 appK H26 tq241 1 8 z21.1.1 z21.1.2.1 z21.1.2.2 (some ⟨b25,0,none⟩) 1 fun a27 c28 H29=>
 next23 ((a27,(z21.1.2.1+1),c28),(IntKind.i64.wrap (z21.2.1+1)),()) H29)
 (callW PP fq40 #[(pq p),(.int .i64 x1)] H22 pBlk fun(x30:Nat) H31=>
 newB H31 (.cells #[(.string (bs [])),(pq x30),(pq x7),(.pointer x2),(.slice x10.1 x10.2.1 x10.2.2),(.slice x13.1 x13.2.1 x13.2.2),(.slice z21.1.1 z21.1.2.1 z21.1.2.2)] tq245) fun b32 H33=>
 callW PP fq147 #[(pq b32)] H33 pBlk fun(x34:Nat) H35=>
 retK (some [(.iface tq242 (pq x34)),.nilIface]) H35 R))
 (fun(e17:Sl×Nat) H18=>
 retK (some [.nilIface,(.iface tq49 (pq e17.2))]) H18 R))
 (fun(e14:Sl×Nat) H15=>
 retK (some [.nilIface,(.iface tq49 (pq e14.2))]) H15 R))
 (fun(e11:Sl×Nat) H12=>
 retK (some [.nilIface,(.iface tq49 (pq e11.2))]) H12 R))
 (fun(e8:Nat) H9=>
 retK (some [.nilIface,(.iface tq49 (pq e8))]) H9 R))
 (fun(e5:Int×Int×Int×ByteArray×Nat) H6=>
 retK (some [.nilIface,(.iface tq49 (pq e5.2.2.2.2))]) H6 R)
theorem parseObjectTypeDefinitionX.enter (p:Nat) (H:Heap) (R:RR) (h:parseObjectTypeDefinitionX.W p H R):Fn PP fq107 #[(pq p)] H R:=
 fnS mixed Tryz.func107 ⟨patX [(29,pTkE,⟨Int×Int×Int×ByteArray×Nat,fun x=>(.tuple #[(.agg #[(.int .i64 x.1),(.int .i64 x.2.1),(.int .i64 x.2.2.1),(.string x.2.2.2.1)]),(.iface tq49 (pq x.2.2.2.2))])⟩),(37,pBlE,⟨Nat,fun x=>(.tuple #[(.pointer none),(.iface tq49 (pq x))])⟩),(45,pSlE,⟨Sl×Nat,fun x=>(.tuple #[(.slice x.1.1 x.1.2.1 x.1.2.2),(.iface tq49 (pq x.2))])⟩),(53,pSlE,⟨Sl×Nat,fun x=>(.tuple #[(.slice x.1.1 x.1.2.1 x.1.2.2),(.iface tq49 (pq x.2))])⟩),(61,pSlE,⟨Sl×Nat,fun x=>(.tuple #[(.slice x.1.1 x.1.2.1 x.1.2.2),(.iface tq49 (pq x.2))])⟩)] [(18,(pInt .i64)),(21,⟨Option Addr,fun x=>(.tuple #[(.pointer x),.nilIface])⟩),(73,⟨Nat,fun x=>(.iface tq241 (pq x))⟩),(86,pBlk),(92,pBlk)],loopL [(0,[Slot.slc 11,Slot.int .i64 70])],joinL [],joinL [],joinRL []⟩ _ H R (Eq.mp (by unfold parseObjectTypeDefinitionX.W;kernel_rfl) h)
def parseInterfaceTypeDefinitionX.W (p:Nat) (H:Heap) (R:RR):Prop:=
 lw H p 6 (pInt .i64) fun(x1:Int)=>
 callW PP fq143 #[(pq p)] H ⟨Option Addr,fun x=>(.tuple #[(.pointer x),.nilIface])⟩ fun(x2:Option Addr) H3=>
 call2W PP fq137 #[(pq p),(.string (bs [105,110,116,101,114,102,97,99,101]))] H3 pTkE ⟨Int×Int×Int×ByteArray×Nat,fun x=>(.tuple #[(.agg #[(.int .i64 x.1),(.int .i64 x.2.1),(.int .i64 x.2.2.1),(.string x.2.2.2.1)]),(.iface tq49 (pq x.2.2.2.2))])⟩ (fun(_x4:Int×Int×Int×ByteArray) H6=>
 call2W PP fq74 #[(pq p)] H6 pBlE ⟨Nat,fun x=>(.tuple #[(.pointer none),(.iface tq49 (pq x))])⟩ (fun(x7:Nat) H9=>
 call2W PP fq76 #[(pq p)] H9 pSlE ⟨Sl×Nat,fun x=>(.tuple #[(.slice x.1.1 x.1.2.1 x.1.2.2),(.iface tq49 (pq x.2))])⟩ (fun(x10:Sl) H12=>
 call2W PP fq97 #[(pq p),(.int .i64 12),(.func (.func fq146) #[] #[]),(.int .i64 14),(.bool false)] H12 pSlE ⟨Sl×Nat,fun x=>(.tuple #[(.slice x.1.1 x.1.2.1 x.1.2.2),(.iface tq49 (pq x.2))])⟩ (fun(x13:Sl) H15=>
 newB H15 (.cells #[] tq241) fun b16 H17=>
 loopK (Sl×Int×Unit) (((some ⟨b16,0,none⟩),0,0),0,()) H17 fun z18 H19 next20=>
 forkB (decide (z18.2.1<((x13.2.1:Nat):Int)))
 ((IxOk x13.1 z18.2.1 x13.2.1)∧
 loadW H19 false 1 ⟨(blkOf x13.1),(offOf x13.1+z18.2.1.toNat*1),none⟩ ⟨Nat,fun x=>(.iface tq241 (pq x))⟩ fun(x21:Nat)=>
 newB H19 (.cells #[(pq x21)] tq241) fun b22 H23=>
 appK H23 tq241 1 8 z18.1.1 z18.1.2.1 z18.1.2.2 (some ⟨b22,0,none⟩) 1 fun a24 c25 H26=>
 next20 ((a24,(z18.1.2.1+1),c25),(IntKind.i64.wrap (z18.2.1+1)),()) H26)
 (callW PP fq40 #[(pq p),(.int .i64 x1)] H19 pBlk fun(x27:Nat) H28=>
 newB H28 (.cells #[(.string (bs [])),(pq x27),(pq x7),(.pointer x2),(.slice x10.1 x10.2.1 x10.2.2),(.slice z18.1.1 z18.1.2.1 z18.1.2.2)] tq249) fun b29 H30=>
 callW PP fq148 #[(pq b29)] H30 pBlk fun(x31:Nat) H32=>
 retK (some [(.iface tq246 (pq x31)),.nilIface]) H32 R))
 (fun(e14:Sl×Nat) H15=>
 retK (some [.nilIface,(.iface tq49 (pq e14.2))]) H15 R))
 (fun(e11:Sl×Nat) H12=>
 retK (some [.nilIface,(.iface tq49 (pq e11.2))]) H12 R))
 (fun(e8:Nat) H9=>
 retK (some [.nilIface,(.iface tq49 (pq e8))]) H9 R))
 (fun(e5:Int×Int×Int×ByteArray×Nat) H6=>
 retK (some [.nilIface,(.iface tq49 (pq e5.2.2.2.2))]) H6 R)
theorem parseInterfaceTypeDefinitionX.enter (p:Nat) (H:Heap) (R:RR) (h:parseInterfaceTypeDefinitionX.W p H R):Fn PP fq108 #[(pq p)] H R:=
 fnS mixed Tryz.func108 ⟨patX [(28,pTkE,⟨Int×Int×Int×ByteArray×Nat,fun x=>(.tuple #[(.agg #[(.int .i64 x.1),(.int .i64 x.2.1),(.int .i64 x.2.2.1),(.string x.2.2.2.1)]),(.iface tq49 (pq x.2.2.2.2))])⟩),(36,pBlE,⟨Nat,fun x=>(.tuple #[(.pointer none),(.iface tq49 (pq x))])⟩),(44,pSlE,⟨Sl×Nat,fun x=>(.tuple #[(.slice x.1.1 x.1.2.1 x.1.2.2),(.iface tq49 (pq x.2))])⟩),(52,pSlE,⟨Sl×Nat,fun x=>(.tuple #[(.slice x.1.1 x.1.2.1 x.1.2.2),(.iface tq49 (pq x.2))])⟩)] [(17,(pInt .i64)),(20,⟨Option Addr,fun x=>(.tuple #[(.pointer x),.nilIface])⟩),(64,⟨Nat,fun x=>(.iface tq241 (pq x))⟩),(78,pBlk),(82,pBlk)],loopL [(0,[Slot.slc 10,Slot.int .i64 61])],joinL [],joinL [],joinRL []⟩ _ H R (Eq.mp (by unfold parseInterfaceTypeDefinitionX.W;kernel_rfl) h)
def parseEnumTypeDefinitionX.W (p:Nat) (H:Heap) (R:RR):Prop:=
 lw H p 6 (pInt .i64) fun(x1:Int)=>
 callW PP fq143 #[(pq p)] H ⟨Option Addr,fun x=>(.tuple #[(.pointer x),.nilIface])⟩ fun(x2:Option Addr) H3=>
 call2W PP fq137 #[(pq p),(.string (bs [101,110,117,109]))] H3 pTkE ⟨Int×Int×Int×ByteArray×Nat,fun x=>(.tuple #[(.agg #[(.int .i64 x.1),(.int .i64 x.2.1),(.int .i64 x.2.2.1),(.string x.2.2.2.1)]),(.iface tq49 (pq x.2.2.2.2))])⟩ (fun(_x4:Int×Int×Int×ByteArray) H6=>
 call2W PP fq74 #[(pq p)] H6 pBlE ⟨Nat,fun x=>(.tuple #[(.pointer none),(.iface tq49 (pq x))])⟩ (fun(x7:Nat) H9=>
 call2W PP fq76 #[(pq p)] H9 pSlE ⟨Sl×Nat,fun x=>(.tuple #[(.slice x.1.1 x.1.2.1 x.1.2.2),(.iface tq49 (pq x.2))])⟩ (fun(x10:Sl) H12=>
 call2W PP fq97 #[(pq p),(.int .i64 12),(.func (.func fq151) #[] #[]),(.int .i64 14),(.bool false)] H12 pSlE ⟨Sl×Nat,fun x=>(.tuple #[(.slice x.1.1 x.1.2.1 x.1.2.2),(.iface tq49 (pq x.2))])⟩ (fun(x13:Sl) H15=>
 newB H15 (.cells #[] tq255) fun b16 H17=>
 loopK (Sl×Int×Unit) (((some ⟨b16,0,none⟩),0,0),0,()) H17 fun z18 H19 next20=>
 forkB (decide (z18.2.1<((x13.2.1:Nat):Int)))
 ((IxOk x13.1 z18.2.1 x13.2.1)∧
 loadW H19 false 1 ⟨(blkOf x13.1),(offOf x13.1+z18.2.1.toNat*1),none⟩ ⟨Nat,fun x=>(.iface tq255 (pq x))⟩ fun(x21:Nat)=>
 newB H19 (.cells #[(pq x21)] tq255) fun b22 H23=>
 appK H23 tq255 1 8 z18.1.1 z18.1.2.1 z18.1.2.2 (some ⟨b22,0,none⟩) 1 fun a24 c25 H26=>
 next20 ((a24,(z18.1.2.1+1),c25),(IntKind.i64.wrap (z18.2.1+1)),()) H26)
 (callW PP fq40 #[(pq p),(.int .i64 x1)] H19 pBlk fun(x27:Nat) H28=>
 newB H28 (.cells #[(.string (bs [])),(pq x27),(pq x7),(.pointer x2),(.slice x10.1 x10.2.1 x10.2.2),(.slice z18.1.1 z18.1.2.1 z18.1.2.2)] tq259) fun b29 H30=>
 callW PP fq152 #[(pq b29)] H30 pBlk fun(x31:Nat) H32=>
 retK (some [(.iface tq256 (pq x31)),.nilIface]) H32 R))
 (fun(e14:Sl×Nat) H15=>
 retK (some [.nilIface,(.iface tq49 (pq e14.2))]) H15 R))
 (fun(e11:Sl×Nat) H12=>
 retK (some [.nilIface,(.iface tq49 (pq e11.2))]) H12 R))
 (fun(e8:Nat) H9=>
 retK (some [.nilIface,(.iface tq49 (pq e8))]) H9 R))
 (fun(e5:Int×Int×Int×ByteArray×Nat) H6=>
 retK (some [.nilIface,(.iface tq49 (pq e5.2.2.2.2))]) H6 R)
theorem parseEnumTypeDefinitionX.enter (p:Nat) (H:Heap) (R:RR) (h:parseEnumTypeDefinitionX.W p H R):Fn PP fq110 #[(pq p)] H R:=
 fnS mixed Tryz.func110 ⟨patX [(28,pTkE,⟨Int×Int×Int×ByteArray×Nat,fun x=>(.tuple #[(.agg #[(.int .i64 x.1),(.int .i64 x.2.1),(.int .i64 x.2.2.1),(.string x.2.2.2.1)]),(.iface tq49 (pq x.2.2.2.2))])⟩),(36,pBlE,⟨Nat,fun x=>(.tuple #[(.pointer none),(.iface tq49 (pq x))])⟩),(44,pSlE,⟨Sl×Nat,fun x=>(.tuple #[(.slice x.1.1 x.1.2.1 x.1.2.2),(.iface tq49 (pq x.2))])⟩),(52,pSlE,⟨Sl×Nat,fun x=>(.tuple #[(.slice x.1.1 x.1.2.1 x.1.2.2),(.iface tq49 (pq x.2))])⟩)] [(17,(pInt .i64)),(20,⟨Option Addr,fun x=>(.tuple #[(.pointer x),.nilIface])⟩),(64,⟨Nat,fun x=>(.iface tq255 (pq x))⟩),(78,pBlk),(82,pBlk)],loopL [(0,[Slot.slc 10,Slot.int .i64 61])],joinL [],joinL [],joinRL []⟩ _ H R (Eq.mp (by unfold parseEnumTypeDefinitionX.W;kernel_rfl) h)
def parseInputObjectTypeDefinitionX.W (p:Nat) (H:Heap) (R:RR):Prop:=
 lw H p 6 (pInt .i64) fun(x1:Int)=>
 callW PP fq143 #[(pq p)] H ⟨Option Addr,fun x=>(.tuple #[(.pointer x),.nilIface])⟩ fun(x2:Option Addr) H3=>
 call2W PP fq137 #[(pq p),(.string (bs [105,110,112,117,116]))] H3 pTkE ⟨Int×Int×Int×ByteArray×Nat,fun x=>(.tuple #[(.agg #[(.int .i64 x.1),(.int .i64 x.2.1),(.int .i64 x.2.2.1),(.string x.2.2.2.1)]),(.iface tq49 (pq x.2.2.2.2))])⟩ (fun(_x4:Int×Int×Int×ByteArray) H6=>
 call2W PP fq74 #[(pq p)] H6 pBlE ⟨Nat,fun x=>(.tuple #[(.pointer none),(.iface tq49 (pq x))])⟩ (fun(x7:Nat) H9=>
 call2W PP fq76 #[(pq p)] H9 pSlE ⟨Sl×Nat,fun x=>(.tuple #[(.slice x.1.1 x.1.2.1 x.1.2.2),(.iface tq49 (pq x.2))])⟩ (fun(x10:Sl) H12=>
 call2W PP fq97 #[(pq p),(.int .i64 12),(.func (.func fq153) #[] #[]),(.int .i64 14),(.bool false)] H12 pSlE ⟨Sl×Nat,fun x=>(.tuple #[(.slice x.1.1 x.1.2.1 x.1.2.2),(.iface tq49 (pq x.2))])⟩ (fun(x13:Sl) H15=>
 newB H15 (.cells #[] tq261) fun b16 H17=>
 loopK (Sl×Int×Unit) (((some ⟨b16,0,none⟩),0,0),0,()) H17 fun z18 H19 next20=>
 forkB (decide (z18.2.1<((x13.2.1:Nat):Int)))
 ((IxOk x13.1 z18.2.1 x13.2.1)∧
 loadW H19 false 1 ⟨(blkOf x13.1),(offOf x13.1+z18.2.1.toNat*1),none⟩ ⟨Nat,fun x=>(.iface tq261 (pq x))⟩ fun(x21:Nat)=>
 newB H19 (.cells #[(pq x21)] tq261) fun b22 H23=>
 appK H23 tq261 1 8 z18.1.1 z18.1.2.1 z18.1.2.2 (some ⟨b22,0,none⟩) 1 fun a24 c25 H26=>
 next20 ((a24,(z18.1.2.1+1),c25),(IntKind.i64.wrap (z18.2.1+1)),()) H26)
 (callW PP fq40 #[(pq p),(.int .i64 x1)] H19 pBlk fun(x27:Nat) H28=>
 newB H28 (.cells #[(.string (bs [])),(pq x27),(pq x7),(.pointer x2),(.slice x10.1 x10.2.1 x10.2.2),(.slice z18.1.1 z18.1.2.1 z18.1.2.2)] tq265) fun b29 H30=>
 callW PP fq154 #[(pq b29)] H30 pBlk fun(x31:Nat) H32=>
 retK (some [(.iface tq262 (pq x31)),.nilIface]) H32 R))
 (fun(e14:Sl×Nat) H15=>
 retK (some [.nilIface,(.iface tq49 (pq e14.2))]) H15 R))
 (fun(e11:Sl×Nat) H12=>
 retK (some [.nilIface,(.iface tq49 (pq e11.2))]) H12 R))
 (fun(e8:Nat) H9=>
 retK (some [.nilIface,(.iface tq49 (pq e8))]) H9 R))
 (fun(e5:Int×Int×Int×ByteArray×Nat) H6=>
 retK (some [.nilIface,(.iface tq49 (pq e5.2.2.2.2))]) H6 R)
theorem parseInputObjectTypeDefinitionX.enter (p:Nat) (H:Heap) (R:RR) (h:parseInputObjectTypeDefinitionX.W p H R):Fn PP fq111 #[(pq p)] H R:=
 fnS mixed Tryz.func111 ⟨patX [(28,pTkE,⟨Int×Int×Int×ByteArray×Nat,fun x=>(.tuple #[(.agg #[(.int .i64 x.1),(.int .i64 x.2.1),(.int .i64 x.2.2.1),(.string x.2.2.2.1)]),(.iface tq49 (pq x.2.2.2.2))])⟩),(36,pBlE,⟨Nat,fun x=>(.tuple #[(.pointer none),(.iface tq49 (pq x))])⟩),(44,pSlE,⟨Sl×Nat,fun x=>(.tuple #[(.slice x.1.1 x.1.2.1 x.1.2.2),(.iface tq49 (pq x.2))])⟩),(52,pSlE,⟨Sl×Nat,fun x=>(.tuple #[(.slice x.1.1 x.1.2.1 x.1.2.2),(.iface tq49 (pq x.2))])⟩)] [(17,(pInt .i64)),(20,⟨Option Addr,fun x=>(.tuple #[(.pointer x),.nilIface])⟩),(64,⟨Nat,fun x=>(.iface tq261 (pq x))⟩),(78,pBlk),(82,pBlk)],loopL [(0,[Slot.slc 10,Slot.int .i64 61])],joinL [],joinL [],joinRL []⟩ _ H R (Eq.mp (by unfold parseInputObjectTypeDefinitionX.W;kernel_rfl) h)
def parseArgumentDefsX.W (p:Nat) (H:Heap) (R:RR):Prop:=
 newB H (.cells #[] tq261) fun b1 H2=>
 callW PP fq70 #[(pq p),(.int .i64 4)] H2 pBool fun(x3:Bool) H4=>
 forkB (!x3)
 (retK (some [(.slice (some ⟨b1,0,none⟩) 0 0),.nilIface]) H4 R)
 (call2W PP fq97 #[(pq p),(.int .i64 4),(.func (.func fq153) #[] #[]),(.int .i64 5),(.bool true)] H4 pSlE ⟨Sl×Nat,fun x=>(.tuple #[(.slice x.1.1 x.1.2.1 x.1.2.2),(.iface tq49 (pq x.2))])⟩ (fun(x5:Sl) H7=>
 loopK (Sl×Int×Unit) (((some ⟨b1,0,none⟩),0,0),0,()) H7 fun z8 H9 next10=>
 forkB (decide (z8.2.1<((x5.2.1:Nat):Int)))
 ((IxOk x5.1 z8.2.1 x5.2.1)∧
 loadW H9 false 1 ⟨(blkOf x5.1),(offOf x5.1+z8.2.1.toNat*1),none⟩ ⟨Nat,fun x=>(.iface tq261 (pq x))⟩ fun(x11:Nat)=>
 newB H9 (.cells #[(pq x11)] tq261) fun b12 H13=>
 appK H13 tq261 1 8 z8.1.1 z8.1.2.1 z8.1.2.2 (some ⟨b12,0,none⟩) 1 fun a14 c15 H16=>
 next10 ((a14,(z8.1.2.1+1),c15),(IntKind.i64.wrap (z8.2.1+1)),()) H16)
 (retK (some [(.slice z8.1.1 z8.1.2.1 z8.1.2.2),.nilIface]) H9 R))
 (fun(e6:Sl×Nat) H7=>
 retK (some [(.slice (some ⟨b1,0,none⟩) 0 0),(.iface tq49 (pq e6.2))]) H7 R))
theorem parseArgumentDefsX.enter (p:Nat) (H:Heap) (R:RR) (h:parseArgumentDefsX.W p H R):Fn PP fq156 #[(pq p)] H R:=
 fnS mixed Tryz.func156 ⟨patX [(16,pSlE,⟨Sl×Nat,fun x=>(.tuple #[(.slice x.1.1 x.1.2.1 x.1.2.2),(.iface tq49 (pq x.2))])⟩)] [(11,pBool),(28,⟨Nat,fun x=>(.iface tq261 (pq x))⟩)],loopL [(0,[Slot.slc 4,Slot.int .i64 25])],joinL [],joinL [],joinRL []⟩ _ H R (Eq.mp (by unfold parseArgumentDefsX.W;kernel_rfl) h)
def parseVariableDefinitionsX.W (p:Nat) (H:Heap) (R:RR):Prop:=
 newB H (.cells #[] tq169) fun b1 H2=>
 callW PP fq70 #[(pq p),(.int .i64 4)] H2 pBool fun(x3:Bool) H4=>
 forkB (!x3)
 (retK (some [(.slice (some ⟨b1,0,none⟩) 0 0),.nilIface]) H4 R)
 (call2W PP fq97 #[(pq p),(.int .i64 4),(.func (.func fq102) #[] #[]),(.int .i64 5),(.bool true)] H4 pSlE ⟨Sl×Nat,fun x=>(.tuple #[(.slice x.1.1 x.1.2.1 x.1.2.2),(.iface tq49 (pq x.2))])⟩ (fun(x5:Sl) H7=>
 loopK (Sl×Int×Unit) (((some ⟨b1,0,none⟩),0,0),0,()) H7 fun z8 H9 next10=>
 forkB (decide (z8.2.1<((x5.2.1:Nat):Int)))
 ((IxOk x5.1 z8.2.1 x5.2.1)∧
 loadW H9 false 1 ⟨(blkOf x5.1),(offOf x5.1+z8.2.1.toNat*1),none⟩ ⟨Nat,fun x=>(.iface tq169 (pq x))⟩ fun(x11:Nat)=>
 newB H9 (.cells #[(pq x11)] tq169) fun b12 H13=>
 appK H13 tq169 1 8 z8.1.1 z8.1.2.1 z8.1.2.2 (some ⟨b12,0,none⟩) 1 fun a14 c15 H16=>
 next10 ((a14,(z8.1.2.1+1),c15),(IntKind.i64.wrap (z8.2.1+1)),()) H16)
 (retK (some [(.slice z8.1.1 z8.1.2.1 z8.1.2.2),.nilIface]) H9 R))
 (fun(e6:Sl×Nat) H7=>
 retK (some [(.slice (some ⟨b1,0,none⟩) 0 0),(.iface tq49 (pq e6.2))]) H7 R))
theorem parseVariableDefinitionsX.enter (p:Nat) (H:Heap) (R:RR) (h:parseVariableDefinitionsX.W p H R):Fn PP fq75 #[(pq p)] H R:=
 fnS mixed Tryz.func75 ⟨patX [(16,pSlE,⟨Sl×Nat,fun x=>(.tuple #[(.slice x.1.1 x.1.2.1 x.1.2.2),(.iface tq49 (pq x.2))])⟩)] [(11,pBool),(28,⟨Nat,fun x=>(.iface tq169 (pq x))⟩)],loopL [(0,[Slot.slc 4,Slot.int .i64 25])],joinL [],joinL [],joinRL []⟩ _ H R (Eq.mp (by unfold parseVariableDefinitionsX.W;kernel_rfl) h)
def parseArgumentsX.W (p:Nat) (H:Heap) (R:RR):Prop:=
 newB H (.cells #[] tq328) fun b1 H2=>
 callW PP fq70 #[(pq p),(.int .i64 4)] H2 pBool fun(x3:Bool) H4=>
 forkB x3
 (call2W PP fq97 #[(pq p),(.int .i64 4),(.func (.func fq183) #[] #[]),(.int .i64 5),(.bool true)] H4 pSlE ⟨Sl×Nat,fun x=>(.tuple #[(.slice x.1.1 x.1.2.1 x.1.2.2),(.iface tq49 (pq x.2))])⟩ (fun(x5:Sl) H7=>
 loopK (Sl×Int×Unit) (((some ⟨b1,0,none⟩),0,0),0,()) H7 fun z8 H9 next10=>
 forkB (decide (z8.2.1<((x5.2.1:Nat):Int)))
 ((IxOk x5.1 z8.2.1 x5.2.1)∧
 loadW H9 false 1 ⟨(blkOf x5.1),(offOf x5.1+z8.2.1.toNat*1),none⟩ ⟨Nat,fun x=>(.iface tq328 (pq x))⟩ fun(x11:Nat)=>
 newB H9 (.cells #[(pq x11)] tq328) fun b12 H13=>
 appK H13 tq328 1 8 z8.1.1 z8.1.2.1 z8.1.2.2 (some ⟨b12,0,none⟩) 1 fun a14 c15 H16=>
 next10 ((a14,(z8.1.2.1+1),c15),(IntKind.i64.wrap (z8.2.1+1)),()) H16)
 (retK (some [(.slice z8.1.1 z8.1.2.1 z8.1.2.2),.nilIface]) H9 R))
 (fun(e6:Sl×Nat) H7=>
 retK (some [(.slice (some ⟨b1,0,none⟩) 0 0),(.iface tq49 (pq e6.2))]) H7 R))
 (retK (some [(.slice (some ⟨b1,0,none⟩) 0 0),.nilIface]) H4 R)
theorem parseArgumentsX.enter (p:Nat) (H:Heap) (R:RR) (h:parseArgumentsX.W p H R):Fn PP fq135 #[(pq p)] H R:=
 fnS mixed Tryz.func135 ⟨patX [(14,pSlE,⟨Sl×Nat,fun x=>(.tuple #[(.slice x.1.1 x.1.2.1 x.1.2.2),(.iface tq49 (pq x.2))])⟩)] [(11,pBool),(26,⟨Nat,fun x=>(.iface tq328 (pq x))⟩)],loopL [(0,[Slot.slc 4,Slot.int .i64 23])],joinL [],joinL [],joinRL []⟩ _ H R (Eq.mp (by unfold parseArgumentsX.W;kernel_rfl) h)
def parseSelectionSetX.W (p:Nat) (H:Heap) (R:RR):Prop:=
 lw H p 6 (pInt .i64) fun(x1:Int)=>
 newB H (.cells #[] tq161) fun b2 H3=>
 call2W PP fq97 #[(pq p),(.int .i64 12),(.func (.func fq98) #[] #[]),(.int .i64 14),(.bool true)] H3 pSlE ⟨Sl×Nat,fun x=>(.tuple #[(.slice x.1.1 x.1.2.1 x.1.2.2),(.iface tq49 (pq x.2))])⟩ (fun(x4:Sl) H6=>
 loopK (Sl×Int×Unit) (((some ⟨b2,0,none⟩),0,0),0,()) H6 fun z7 H8 next9=>
 forkB (decide (z7.2.1<((x4.2.1:Nat):Int)))
 ((IxOk x4.1 z7.2.1 x4.2.1)∧
 loadW H8 false 1 ⟨(blkOf x4.1),(offOf x4.1+z7.2.1.toNat*1),none⟩ pIf fun(x10:(Nat×Nat))=>
 asW PP (.iface x10.1 (pq x10.2)) tq20 tq161 false (
 newB H8 (.cells #[(.iface x10.1 (pq x10.2))] tq161) fun b11 H12=>
 appK H12 tq161 1 16 z7.1.1 z7.1.2.1 z7.1.2.2 (some ⟨b11,0,none⟩) 1 fun a13 c14 H15=>
 next9 ((a13,(z7.1.2.1+1),c14),(IntKind.i64.wrap (z7.2.1+1)),()) H15))
 (callW PP fq40 #[(pq p),(.int .i64 x1)] H8 pBlk fun(x16:Nat) H17=>
 newB H17 (.cells #[(.string (bs [])),(pq x16),(.slice z7.1.1 z7.1.2.1 z7.1.2.2)] tq164) fun b18 H19=>
 callW PP fq99 #[(pq b18)] H19 pBlk fun(x20:Nat) H21=>
 retK (some [(pq x20),.nilIface]) H21 R))
 (fun(e5:Sl×Nat) H6=>
 retK (some [(.pointer none),(.iface tq49 (pq e5.2))]) H6 R)
theorem parseSelectionSetX.enter (p:Nat) (H:Heap) (R:RR) (h:parseSelectionSetX.W p H R):Fn PP fq71 #[(pq p)] H R:=
 fnS mixed Tryz.func71 ⟨patX [(18,pSlE,⟨Sl×Nat,fun x=>(.tuple #[(.slice x.1.1 x.1.2.1 x.1.2.2),(.iface tq49 (pq x.2))])⟩)] [(14,(pInt .i64)),(29,pIf),(39,pBlk),(42,pBlk)],loopL [(0,[Slot.slc 5,Slot.int .i64 26])],joinL [],joinL [],joinRL []⟩ _ H R (Eq.mp (by unfold parseSelectionSetX.W;kernel_rfl) h)
def parseValueLiteralX.W (p:Nat) (c:Bool) (H:Heap) (R:RR):Prop:=
 loadW H true 4 ⟨p,5,none⟩ pTk fun(x1:Int×Int×Int×ByteArray)=>
 newB H (.cells #[(.int .i64 0),(.int .i64 0),(.int .i64 0),(.string (bs []))] tq87) fun b2 H3=>
 storeW H3 ⟨b2,0,none⟩ [(.int .i64 x1.1),(.int .i64 x1.2.1),(.int .i64 x1.2.2.1),(.string x1.2.2.2)] fun H4=>
 lw H4 b2 0 (pInt .i64) fun(x5:Int)=>
 forkB (x5==10)
 (call2W PP fq176 #[(pq p),(.bool c)] H4 pBlE ⟨Nat,fun x=>(.tuple #[(.pointer none),(.iface tq49 (pq x))])⟩ (fun(x6:Nat) H8=>
 retK (some [(.iface tq309 (pq x6)),.nilIface]) H8 R)
 (fun(e7:Nat) H8=>
 retK (some [(.iface tq309 (.pointer none)),(.iface tq49 (pq e7))]) H8 R))
 (forkB (x5==12)
 (call2W PP fq177 #[(pq p),(.bool c)] H4 pBlE ⟨Nat,fun x=>(.tuple #[(.pointer none),(.iface tq49 (pq x))])⟩ (fun(x9:Nat) H11=>
 retK (some [(.iface tq312 (pq x9)),.nilIface]) H11 R)
 (fun(e10:Nat) H11=>
 retK (some [(.iface tq312 (.pointer none)),(.iface tq49 (pq e10))]) H11 R))
 (forkB (x5==16)
 (callW PP fq69 #[(pq p)] H4 ⟨Unit,fun _=> .nilIface⟩ fun(_:Unit) H13=>
 lw H13 b2 3 pStr fun(x14:ByteArray)=>
 lw H13 b2 1 (pInt .i64) fun(x15:Int)=>
 callW PP fq40 #[(pq p),(.int .i64 x15)] H13 pBlk fun(x16:Nat) H17=>
 lc H17 b2 3 (.string x14)∧
 newB H17 (.cells #[(.string (bs [])),(pq x16),(.string x14)] tq317) fun b18 H19=>
 callW PP fq178 #[(pq b18)] H19 pBlk fun(x20:Nat) H21=>
 retK (some [(.iface tq315 (pq x20)),.nilIface]) H21 R)
 (forkB (x5==17)
 (callW PP fq69 #[(pq p)] H4 ⟨Unit,fun _=> .nilIface⟩ fun(_:Unit) H23=>
 lw H23 b2 3 pStr fun(x24:ByteArray)=>
 lw H23 b2 1 (pInt .i64) fun(x25:Int)=>
 callW PP fq40 #[(pq p),(.int .i64 x25)] H23 pBlk fun(x26:Nat) H27=>
 lc H27 b2 3 (.string x24)∧
 newB H27 (.cells #[(.string (bs [])),(pq x26),(.string x24)] tq320) fun b28 H29=>
 callW PP fq179 #[(pq b28)] H29 pBlk fun(x30:Nat) H31=>
 retK (some [(.iface tq318 (pq x30)),.nilIface]) H31 R)
 (forkB (x5==19)
 (callW PP fq180 #[(pq p)] H4 pBlE fun(x32:Nat) H33=>
 retK (some [(.iface tq230 (pq x32)),.nilIface]) H33 R)
 (forkB (x5==18)
 (callW PP fq180 #[(pq p)] H4 pBlE fun(x34:Nat) H35=>
 retK (some [(.iface tq230 (pq x34)),.nilIface]) H35 R)
 (forkB (x5==15)
 (joinPK (Bool×Unit) H4 (fun J36=>
 lw H4 b2 3 pStr fun(x38:ByteArray)=>
 forkB (x38.toList==(bs [116,114,117,101]).toList)
 (J36 (true,()) H4)
 (lw H4 b2 3 pStr fun(x39:ByteArray)=>
 J36 ((x39.toList==(bs [102,97,108,115,101]).toList),()) H4)) fun y37=>
 forkB y37.1
 (callW PP fq69 #[(pq p)] H4 ⟨Unit,fun _=> .nilIface⟩ fun(_:Unit) H41=>
 lw H41 b2 3 pStr fun(x42:ByteArray)=>
 forkB (x42.toList==(bs [102,97,108,115,101]).toList)
 (lw H41 b2 1 (pInt .i64) fun(x43:Int)=>
 callW PP fq40 #[(pq p),(.int .i64 x43)] H41 pBlk fun(x44:Nat) H45=>
 newB H45 (.cells #[(.string (bs [])),(pq x44),(.bool false)] tq324) fun b46 H47=>
 callW PP fq181 #[(pq b46)] H47 pBlk fun(x48:Nat) H49=>
 retK (some [(.iface tq321 (pq x48)),.nilIface]) H49 R)
 (lw H41 b2 1 (pInt .i64) fun(x50:Int)=>
 callW PP fq40 #[(pq p),(.int .i64 x50)] H41 pBlk fun(x51:Nat) H52=>
 newB H52 (.cells #[(.string (bs [])),(pq x51),(.bool true)] tq324) fun b53 H54=>
 callW PP fq181 #[(pq b53)] H54 pBlk fun(x55:Nat) H56=>
 retK (some [(.iface tq321 (pq x55)),.nilIface]) H56 R))
 (lw H4 b2 3 pStr fun(x57:ByteArray)=>
 forkB (!(x57.toList==(bs [110,117,108,108]).toList))
 (callW PP fq69 #[(pq p)] H4 ⟨Unit,fun _=> .nilIface⟩ fun(_:Unit) H59=>
 lw H59 b2 3 pStr fun(x60:ByteArray)=>
 lw H59 b2 1 (pInt .i64) fun(x61:Int)=>
 callW PP fq40 #[(pq p),(.int .i64 x61)] H59 pBlk fun(x62:Nat) H63=>
 lc H63 b2 3 (.string x60)∧
 newB H63 (.cells #[(.string (bs [])),(pq x62),(.string x60)] tq327) fun b64 H65=>
 callW PP fq182 #[(pq b64)] H65 pBlk fun(x66:Nat) H67=>
 retK (some [(.iface tq325 (pq x66)),.nilIface]) H67 R)
 (callW PP fq38 #[(pq p),(.agg #[(.int .i64 0),(.int .i64 0),(.int .i64 0),(.string (bs []))])] H4 ⟨Nat,fun x=>(.iface tq49 (pq x))⟩ fun(x68:Nat) H69=>
 retK (some [.nilIface,(.iface tq49 (pq x68))]) H69 R)))
 (forkB (x5==3)
 (forkB (!c)
 (call2W PP fq131 #[(pq p)] H4 pBlE ⟨Nat,fun x=>(.tuple #[(.pointer none),(.iface tq49 (pq x))])⟩ (fun(x70:Nat) H72=>
 retK (some [(.iface tq195 (pq x70)),.nilIface]) H72 R)
 (fun(e71:Nat) H72=>
 retK (some [(.iface tq195 (.pointer none)),(.iface tq49 (pq e71))]) H72 R))
 (callW PP fq38 #[(pq p),(.agg #[(.int .i64 0),(.int .i64 0),(.int .i64 0),(.string (bs []))])] H4 ⟨Nat,fun x=>(.iface tq49 (pq x))⟩ fun(x73:Nat) H74=>
 retK (some [.nilIface,(.iface tq49 (pq x73))]) H74 R))
 (callW PP fq38 #[(pq p),(.agg #[(.int .i64 0),(.int .i64 0),(.int .i64 0),(.string (bs []))])] H4 ⟨Nat,fun x=>(.iface tq49 (pq x))⟩ fun(x75:Nat) H76=>
 retK (some [.nilIface,(.iface tq49 (pq x75))]) H76 R))))))))
theorem parseValueLiteralX.enter (p:Nat) (c:Bool) (H:Heap) (R:RR) (h:parseValueLiteralX.W p c H R):Fn PP fq133 #[(pq p),(.bool c)] H R:=
 fnS mixed Tryz.func133 ⟨patX [(22,pBlE,⟨Nat,fun x=>(.tuple #[(.pointer none),(.iface tq49 (pq x))])⟩),(30,pBlE,⟨Nat,fun x=>(.tuple #[(.pointer none),(.iface tq49 (pq x))])⟩),(126,pBlE,⟨Nat,fun x=>(.tuple #[(.pointer none),(.iface tq49 (pq x))])⟩)] [(15,pTk),(17,(pInt .i64)),(37,⟨Unit,fun _=> .nilIface⟩),(42,pStr),(45,(pInt .i64)),(46,pBlk),(49,pBlk),(54,⟨Unit,fun _=> .nilIface⟩),(59,pStr),(62,(pInt .i64)),(63,pBlk),(66,pBlk),(72,pBlE),(79,pStr),(83,pStr),(87,⟨Unit,fun _=> .nilIface⟩),(92,pStr),(97,(pInt .i64)),(98,pBlk),(101,pBlk),(104,pStr),(107,⟨Unit,fun _=> .nilIface⟩),(112,pStr),(115,(pInt .i64)),(116,pBlk),(119,pBlk),(132,⟨Nat,fun x=>(.iface tq49 (pq x))⟩)],loopL [],joinL [],joinL [],joinRL [(21,[Slot.bool 85],true)]⟩ _ H R (Eq.mp (by unfold parseValueLiteralX.W;kernel_rfl) h)
def parseConstValueX.W (p:Nat) (H:Heap) (R:RR):Prop:=
 call2W PP fq133 #[(pq p),(.bool true)] H pIfE ⟨Value×Nat,fun x=>(.tuple #[x.1,(.iface tq49 (pq x.2))])⟩ (fun(x1:(Nat×Nat)) H3=>
 retK (some [(.iface x1.1 (pq x1.2)),.nilIface]) H3 R)
 (fun(e2:Value×Nat) H3=>
 retK (some [e2.1,(.iface tq49 (pq e2.2))]) H3 R)
theorem parseConstValueX.enter (p:Nat) (H:Heap) (R:RR) (h:parseConstValueX.W p H R):Fn PP fq188 #[(pq p)] H R:=
 fnS mixed Tryz.func188 ⟨patX [(8,pIfE,⟨Value×Nat,fun x=>(.tuple #[x.1,(.iface tq49 (pq x.2))])⟩)] [],loopL [],joinL [],joinL [],joinRL []⟩ _ H R (Eq.mp (by unfold parseConstValueX.W;kernel_rfl) h)
def parseValueValueX.W (p:Nat) (H:Heap) (R:RR):Prop:=
 call2W PP fq133 #[(pq p),(.bool false)] H pIfE ⟨Value×Nat,fun x=>(.tuple #[x.1,(.iface tq49 (pq x.2))])⟩ (fun(x1:(Nat×Nat)) H3=>
 retK (some [(.iface x1.1 (pq x1.2)),.nilIface]) H3 R)
 (fun(e2:Value×Nat) H3=>
 retK (some [e2.1,(.iface tq49 (pq e2.2))]) H3 R)
theorem parseValueValueX.enter (p:Nat) (H:Heap) (R:RR) (h:parseValueValueX.W p H R):Fn PP fq199 #[(pq p)] H R:=
 fnS mixed Tryz.func199 ⟨patX [(5,pIfE,⟨Value×Nat,fun x=>(.tuple #[x.1,(.iface tq49 (pq x.2))])⟩)] [],loopL [],joinL [],joinL [],joinRL []⟩ _ H R (Eq.mp (by unfold parseValueValueX.W;kernel_rfl) h)
def parseListX.W (p:Nat) (c:Bool) (H:Heap) (R:RR):Prop:=
 lw H p 6 (pInt .i64) fun(x1:Int)=>
 forkB c
 (newB H (.cells #[] tq203) fun b2 H3=>
 call2W PP fq97 #[(pq p),(.int .i64 10),(.func (.func fq188) #[] #[]),(.int .i64 11),(.bool false)] H3 pSlE ⟨Sl×Nat,fun x=>(.tuple #[(.slice x.1.1 x.1.2.1 x.1.2.2),(.iface tq49 (pq x.2))])⟩ (fun(x4:Sl) H6=>
 loopK (Sl×Int×Unit) (((some ⟨b2,0,none⟩),0,0),0,()) H6 fun z7 H8 next9=>
 forkB (decide (z7.2.1<((x4.2.1:Nat):Int)))
 ((IxOk x4.1 z7.2.1 x4.2.1)∧
 loadW H8 false 1 ⟨(blkOf x4.1),(offOf x4.1+z7.2.1.toNat*1),none⟩ pIf fun(x10:(Nat×Nat))=>
 asW PP (.iface x10.1 (pq x10.2)) tq20 tq203 false (
 newB H8 (.cells #[(.iface x10.1 (pq x10.2))] tq203) fun b11 H12=>
 appK H12 tq203 1 16 z7.1.1 z7.1.2.1 z7.1.2.2 (some ⟨b11,0,none⟩) 1 fun a13 c14 H15=>
 next9 ((a13,(z7.1.2.1+1),c14),(IntKind.i64.wrap (z7.2.1+1)),()) H15))
 (callW PP fq40 #[(pq p),(.int .i64 x1)] H8 pBlk fun(x16:Nat) H17=>
 newB H17 (.cells #[(.string (bs [])),(pq x16),(.slice z7.1.1 z7.1.2.1 z7.1.2.2)] tq360) fun b18 H19=>
 callW PP fq200 #[(pq b18)] H19 pBlk fun(x20:Nat) H21=>
 retK (some [(pq x20),.nilIface]) H21 R))
 (fun(e5:Sl×Nat) H6=>
 retK (some [(.pointer none),(.iface tq49 (pq e5.2))]) H6 R))
 (newB H (.cells #[] tq203) fun b22 H23=>
 call2W PP fq97 #[(pq p),(.int .i64 10),(.func (.func fq199) #[] #[]),(.int .i64 11),(.bool false)] H23 pSlE ⟨Sl×Nat,fun x=>(.tuple #[(.slice x.1.1 x.1.2.1 x.1.2.2),(.iface tq49 (pq x.2))])⟩ (fun(x24:Sl) H26=>
 loopK (Sl×Int×Unit) (((some ⟨b22,0,none⟩),0,0),0,()) H26 fun z27 H28 next29=>
 forkB (decide (z27.2.1<((x24.2.1:Nat):Int)))
 ((IxOk x24.1 z27.2.1 x24.2.1)∧
 loadW H28 false 1 ⟨(blkOf x24.1),(offOf x24.1+z27.2.1.toNat*1),none⟩ pIf fun(x30:(Nat×Nat))=>
 asW PP (.iface x30.1 (pq x30.2)) tq20 tq203 false (
 newB H28 (.cells #[(.iface x30.1 (pq x30.2))] tq203) fun b31 H32=>
 appK H32 tq203 1 16 z27.1.1 z27.1.2.1 z27.1.2.2 (some ⟨b31,0,none⟩) 1 fun a33 c34 H35=>
 next29 ((a33,(z27.1.2.1+1),c34),(IntKind.i64.wrap (z27.2.1+1)),()) H35))
 (callW PP fq40 #[(pq p),(.int .i64 x1)] H28 pBlk fun(x36:Nat) H37=>
 newB H37 (.cells #[(.string (bs [])),(pq x36),(.slice z27.1.1 z27.1.2.1 z27.1.2.2)] tq360) fun b38 H39=>
 callW PP fq200 #[(pq b38)] H39 pBlk fun(x40:Nat) H41=>
 retK (some [(pq x40),.nilIface]) H41 R))
 (fun(e25:Sl×Nat) H26=>
 retK (some [(.pointer none),(.iface tq49 (pq e25.2))]) H26 R))
theorem parseListX.enter (p:Nat) (c:Bool) (H:Heap) (R:RR) (h:parseListX.W p c H R):Fn PP fq176 #[(pq p),(.bool c)] H R:=
 fnS mixed Tryz.func176 ⟨patX [(23,pSlE,⟨Sl×Nat,fun x=>(.tuple #[(.slice x.1.1 x.1.2.1 x.1.2.2),(.iface tq49 (pq x.2))])⟩)] [(17,(pInt .i64)),(34,pIf),(44,pBlk),(47,pBlk)],loopL [(0,[Slot.slc 8,Slot.int .i64 31])],joinL [],joinL [],joinRL []⟩ _ H R (Eq.mp (by unfold parseListX.W;kernel_rfl) h)
def parseObjectX.W (p:Nat) (c:Bool) (H:Heap) (R:RR):Prop:=
 lw H p 6 (pInt .i64) fun(x1:Int)=>
 call2W PP fq100 #[(pq p),(.int .i64 12)] H pTkE ⟨Int×Int×Int×ByteArray×Nat,fun x=>(.tuple #[(.agg #[(.int .i64 x.1),(.int .i64 x.2.1),(.int .i64 x.2.2.1),(.string x.2.2.2.1)]),(.iface tq49 (pq x.2.2.2.2))])⟩ (fun(x2:Int×Int×Int×ByteArray) H4=>
 newB H4 (.cells #[(.int .i64 0),(.int .i64 0),(.int .i64 0),(.string (bs []))] tq87) fun b5 H6=>
 storeW H6 ⟨b5,0,none⟩ [(.int .i64 x2.1),(.int .i64 x2.2.1),(.int .i64 x2.2.2.1),(.string x2.2.2.2)] fun H7=>
 newB H7 (.cells #[] tq362) fun b8 H9=>
 loopK (Sl×Unit) (((some ⟨b8,0,none⟩),0,0),()) H9 fun z10 H11 next12=>
 callW PP fq35 #[(pq p),(.int .i64 14)] H11 pBoE fun(x13:Bool) H14=>
 forkB x13
 (callW PP fq40 #[(pq p),(.int .i64 x1)] H14 pBlk fun(x15:Nat) H16=>
 newB H16 (.cells #[(.string (bs [])),(pq x15),(.slice z10.1.1 z10.1.2.1 z10.1.2.2)] tq367) fun b17 H18=>
 callW PP fq202 #[(pq b17)] H18 pBlk fun(x19:Nat) H20=>
 retK (some [(pq x19),.nilIface]) H20 R)
 (call2W PP fq201 #[(pq p),(.bool c)] H14 pBlE ⟨Nat,fun x=>(.tuple #[(.pointer none),(.iface tq49 (pq x))])⟩ (fun(x21:Nat) H23=>
 newB H23 (.cells #[(pq x21)] tq362) fun b24 H25=>
 appK H25 tq362 1 8 z10.1.1 z10.1.2.1 z10.1.2.2 (some ⟨b24,0,none⟩) 1 fun a26 c27 H28=>
 next12 ((a26,(z10.1.2.1+1),c27),()) H28)
 (fun(e22:Nat) H23=>
 retK (some [(.pointer none),(.iface tq49 (pq e22))]) H23 R)))
 (fun(e3:Int×Int×Int×ByteArray×Nat) H4=>
 newB H4 (.cells #[(.int .i64 0),(.int .i64 0),(.int .i64 0),(.string (bs []))] tq87) fun b29 H30=>
 storeW H30 ⟨b29,0,none⟩ [(.int .i64 e3.1),(.int .i64 e3.2.1),(.int .i64 e3.2.2.1),(.string e3.2.2.2.1)] fun H31=>
 retK (some [(.pointer none),(.iface tq49 (pq e3.2.2.2.2))]) H31 R)
theorem parseObjectX.enter (p:Nat) (c:Bool) (H:Heap) (R:RR) (h:parseObjectX.W p c H R):Fn PP fq177 #[(pq p),(.bool c)] H R:=
 fnS mixed Tryz.func177 ⟨patX [(21,pTkE,⟨Int×Int×Int×ByteArray×Nat,fun x=>(.tuple #[(.agg #[(.int .i64 x.1),(.int .i64 x.2.1),(.int .i64 x.2.2.1),(.string x.2.2.2.1)]),(.iface tq49 (pq x.2.2.2.2))])⟩),(40,pBlE,⟨Nat,fun x=>(.tuple #[(.pointer none),(.iface tq49 (pq x))])⟩)] [(18,(pInt .i64)),(30,pBoE),(53,pBlk),(56,pBlk)],loopL [(0,[Slot.slc 9])],joinL [],joinL [],joinRL []⟩ _ H R (Eq.mp (by unfold parseObjectX.W;kernel_rfl) h)
def parseObjectFieldX.W (p:Nat) (c:Bool) (H:Heap) (R:RR):Prop:=
 lw H p 6 (pInt .i64) fun(x1:Int)=>
 call2W PP fq74 #[(pq p)] H pBlE ⟨Nat,fun x=>(.tuple #[(.pointer none),(.iface tq49 (pq x))])⟩ (fun(x2:Nat) H4=>
 call2W PP fq100 #[(pq p),(.int .i64 7)] H4 pTkE ⟨Int×Int×Int×ByteArray×Nat,fun x=>(.tuple #[(.agg #[(.int .i64 x.1),(.int .i64 x.2.1),(.int .i64 x.2.2.1),(.string x.2.2.2.1)]),(.iface tq49 (pq x.2.2.2.2))])⟩ (fun(_x5:Int×Int×Int×ByteArray) H7=>
 call2W PP fq133 #[(pq p),(.bool c)] H7 pIfE ⟨Value×Nat,fun x=>(.tuple #[x.1,(.iface tq49 (pq x.2))])⟩ (fun(x8:(Nat×Nat)) H10=>
 callW PP fq40 #[(pq p),(.int .i64 x1)] H10 pBlk fun(x11:Nat) H12=>
 newB H12 (.cells #[(.string (bs [])),(pq x2),(pq x11),(.iface x8.1 (pq x8.2))] tq378) fun b13 H14=>
 callW PP fq209 #[(pq b13)] H14 pBlk fun(x15:Nat) H16=>
 retK (some [(pq x15),.nilIface]) H16 R)
 (fun(e9:Value×Nat) H10=>
 retK (some [(.pointer none),(.iface tq49 (pq e9.2))]) H10 R))
 (fun(e6:Int×Int×Int×ByteArray×Nat) H7=>
 retK (some [(.pointer none),(.iface tq49 (pq e6.2.2.2.2))]) H7 R))
 (fun(e3:Nat) H4=>
 retK (some [(.pointer none),(.iface tq49 (pq e3))]) H4 R)
theorem parseObjectFieldX.enter (p:Nat) (c:Bool) (H:Heap) (R:RR) (h:parseObjectFieldX.W p c H R):Fn PP fq201 #[(pq p),(.bool c)] H R:=
 fnS mixed Tryz.func201 ⟨patX [(17,pBlE,⟨Nat,fun x=>(.tuple #[(.pointer none),(.iface tq49 (pq x))])⟩),(25,pTkE,⟨Int×Int×Int×ByteArray×Nat,fun x=>(.tuple #[(.agg #[(.int .i64 x.1),(.int .i64 x.2.1),(.int .i64 x.2.2.1),(.string x.2.2.2.1)]),(.iface tq49 (pq x.2.2.2.2))])⟩),(34,pIfE,⟨Value×Nat,fun x=>(.tuple #[x.1,(.iface tq49 (pq x.2))])⟩)] [(14,(pInt .i64)),(44,pBlk),(47,pBlk)],loopL [],joinL [],joinL [],joinRL []⟩ _ H R (Eq.mp (by unfold parseObjectFieldX.W;kernel_rfl) h)
end Go.Vx
