/- A part of the proof of what the last text of this claim says: WS2. Conditions: none. -/
import Derived.Test.YtpkfgijailfkjaaGreatDoorZAb
namespace Go.Vx
open Go Go.Proofs
set_option maxRecDepth 100000
def lookahead.W (p:Nat) (H:Heap) (R:RR):Prop:=
 newB H (.cells #[(.int .i64 0),(.int .i64 0),(.int .i64 0),(.string (bs []))] tq87) fun b1 H2=>
 lw H2 p 0 ⟨Nat×Nat,fun x=>(.func (.func fq67) #[] #[(pq x.1),(pq x.2)])⟩ fun(x3:Nat×Nat)=>
 lw H2 p 7 (pInt .i64) fun(x4:Int)=>
 callW PP fq67 #[(.int .i64 x4),(pq x3.1),(pq x3.2)] H2 pTkE fun(x5:Int×Int×Int×ByteArray) H6=>
 storeW H6 ⟨b1,0,none⟩ [(.int .i64 x5.1),(.int .i64 x5.2.1),(.int .i64 x5.2.2.1),(.string x5.2.2.2)] fun H7=>
 retK (consO (loadC H7 true 4 ⟨b1,0,none⟩) ((consO (some .nilIface) (some [])))) H7 R
theorem lookahead.enter (p:Nat) (H:Heap) (R:RR) (h:lookahead.W p H R):Fn PP fq78 #[(pq p)] H R:=
 fnS mixed Tryz.func78 (hz [(7,⟨Nat×Nat,fun x=>(.func (.func fq67) #[] #[(pq x.1),(pq x.2)])⟩),(12,(pInt .i64)),(13,pTkE)]) _ H R (Eq.mp (by unfold lookahead.W;kernel_rfl) h)
def ParseX.W (p:ByteArray) (H:Heap) (R:RR):Prop:=
 newB H (.cells #[(.iface tq9 (.string p)),(.bool false),(.bool false)] tq48) fun b1 H2=>
 lw H2 b1 0 ⟨ByteArray,fun x=>(.iface tq9 (.string x))⟩ fun(_x3:ByteArray)=>
 lw H2 b1 0 ⟨ByteArray,fun x=>(.iface tq9 (.string x))⟩ fun(x4:ByteArray)=>
 bytesW tq5 x4 H2 fun c5 b6 H7=>
 newB H7 (.cells #[(.slice (some ⟨b6,0,none⟩) x4.size c5),(.string (bs []))] tq68) fun b8 H9=>
 callW PP fq15 #[(pq b8)] H9 pBlk fun(x10:Nat) H11=>
 loadW H11 true 2 ⟨b1,1,none⟩ ⟨Bool×Bool,fun x=>(.agg #[(.bool x.1),(.bool x.2)])⟩ fun(x12:Bool×Bool)=>
 callW PP fq16 #[(pq x10),(.agg #[(.bool x12.1),(.bool x12.2)])] H11 pBlE fun(x13:Nat) H14=>
 call2W PP fq17 #[(pq x13)] H14 pBlE ⟨Nat,fun x=>(.tuple #[(.pointer none),(.iface tq49 (pq x))])⟩ (fun(x15:Nat) H17=>
 retK (some [(pq x15),.nilIface]) H17 R)
 (fun(e16:Nat) H17=>
 retK (some [(.pointer none),(.iface tq49 (pq e16))]) H17 R)
theorem ParseX.enter (p:ByteArray) (H:Heap) (R:RR) (h:ParseX.W p H R):Fn PP fq10 #[(.agg #[(.iface tq9 (.string p)),(.bool false),(.bool false)])] H R:=
 fnS mixed Tryz.func10 ⟨patX [(41,pBlE,⟨Nat,fun x=>(.tuple #[(.pointer none),(.iface tq49 (pq x))])⟩)] [(13,⟨ByteArray,fun x=>(.iface tq9 (.string x))⟩),(16,⟨ByteArray,fun x=>(.iface tq9 (.string x))⟩),(24,pBlk),(32,⟨Bool×Bool,fun x=>(.agg #[(.bool x.1),(.bool x.2)])⟩),(33,pBlE)],loopL [],joinL [],joinL [],joinRL []⟩ _ H R (Eq.mp (by unfold ParseX.W;kernel_rfl) h)
def RefusedX.W (text:ByteArray) (H:Heap) (R:RR):Prop:=
 call2W PP fq10 #[(.agg #[(.iface tq9 (.string text)),(.bool false),(.bool false)])] H pBlE ⟨Nat,fun x=>(.tuple #[(.pointer none),(.iface tq49 (pq x))])⟩ (fun(_x1:Nat) H3=>
 retK (some [(.int .i64 0),(.int .i64 0),(.bool false)]) H3 R)
 (fun(e2:Nat) H3=>
 joinPK (Bool×Unit) H3 (fun J4=>
 lw H3 e2 5 pSlc fun(x6:Sl)=>
 J4 ((decide (((x6.2.1:Nat):Int)>0)),()) H3) fun y5=>
 forkB y5.1
 (lw H3 e2 5 pSlc fun(x7:Sl)=>
 (IxOk x7.1 0 x7.2.1)∧
 loadW H3 false 1 ⟨(blkOf x7.1),(offOf x7.1+(0:Int).toNat*2),none⟩ (pInt .i64) fun(x8:Int)=>
 lw H3 e2 5 pSlc fun(x9:Sl)=>
 (IxOk x9.1 0 x9.2.1)∧
 loadW H3 false 1 ⟨(blkOf x9.1),((offOf x9.1+(0:Int).toNat*2)+1),none⟩ (pInt .i64) fun(x10:Int)=>
 retK (some [(.int .i64 x8),(.int .i64 x10),(.bool true)]) H3 R)
 (retK (some [(.int .i64 0),(.int .i64 0),(.bool true)]) H3 R))
theorem RefusedX.enter (text:ByteArray) (H:Heap) (R:RR) (h:RefusedX.W text H R):Fn PP fq7 #[(.string text)] H R:=
 fnS mixed Tryz.func7 ⟨patX [(13,pBlE,⟨Nat,fun x=>(.tuple #[(.pointer none),(.iface tq49 (pq x))])⟩)] [(28,pSlc),(35,pSlc),(38,(pInt .i64)),(42,pSlc),(45,(pInt .i64))],loopL [],joinL [],joinL [],joinRL [(5,[Slot.bool 31],true)]⟩ _ H R (Eq.mp (by unfold RefusedX.W;kernel_rfl) h)
def parseTSDX_no.W (p:Nat) (H:Heap) (R:RR):Prop:=
 loadW H true 4 ⟨p,5,none⟩ pTk fun(x1:Int×Int×Int×ByteArray)=>
 newB H (.cells #[(.int .i64 0),(.int .i64 0),(.int .i64 0),(.string (bs []))] tq87) fun b2 H3=>
 storeW H3 ⟨b2,0,none⟩ [(.int .i64 x1.1),(.int .i64 x1.2.1),(.int .i64 x1.2.2.1),(.string x1.2.2.2)] fun H4=>
 callW PP fq77 #[(pq p)] H4 pBool fun(x5:Bool) H6=>
 forkB x5
 (callW PP fq78 #[(pq p)] H6 pTkE fun(x7:Int×Int×Int×ByteArray) H8=>
 storeW H8 ⟨b2,0,none⟩ [(.int .i64 x7.1),(.int .i64 x7.2.1),(.int .i64 x7.2.2.1),(.string x7.2.2.2)] fun H9=>
 lw H9 b2 0 (pInt .i64) fun(x10:Int)=>
 forkB (x10 !=15)
 (loadW H9 true 4 ⟨b2,0,none⟩ pTk fun(x11:Int×Int×Int×ByteArray)=>
 callW PP fq38 #[(pq p),(.agg #[(.int .i64 x11.1),(.int .i64 x11.2.1),(.int .i64 x11.2.2.1),(.string x11.2.2.2)])] H9 ⟨Nat,fun x=>(.iface tq49 (pq x))⟩ fun(x12:Nat) H13=>
 retK (some [.nilIface,(.iface tq49 (pq x12))]) H13 R)
 (lw H9 b2 3 pStr fun(x14:ByteArray)=>
 callW PP fq79 #[(.string x14)] H9 ⟨Unit,fun _=>(.tuple #[.nilFunc,(.bool false)])⟩ fun(_:Unit) H16=>
 loadW H16 true 4 ⟨b2,0,none⟩ pTk fun(x17:Int×Int×Int×ByteArray)=>
 callW PP fq38 #[(pq p),(.agg #[(.int .i64 x17.1),(.int .i64 x17.2.1),(.int .i64 x17.2.2.1),(.string x17.2.2.2)])] H16 ⟨Nat,fun x=>(.iface tq49 (pq x))⟩ fun(x18:Nat) H19=>
 retK (some [.nilIface,(.iface tq49 (pq x18))]) H19 R))
 (lw H6 b2 0 (pInt .i64) fun(x20:Int)=>
 forkB (x20 !=15)
 (loadW H6 true 4 ⟨b2,0,none⟩ pTk fun(x21:Int×Int×Int×ByteArray)=>
 callW PP fq38 #[(pq p),(.agg #[(.int .i64 x21.1),(.int .i64 x21.2.1),(.int .i64 x21.2.2.1),(.string x21.2.2.2)])] H6 ⟨Nat,fun x=>(.iface tq49 (pq x))⟩ fun(x22:Nat) H23=>
 retK (some [.nilIface,(.iface tq49 (pq x22))]) H23 R)
 (lw H6 b2 3 pStr fun(x24:ByteArray)=>
 callW PP fq79 #[(.string x24)] H6 ⟨Unit,fun _=>(.tuple #[.nilFunc,(.bool false)])⟩ fun(_:Unit) H26=>
 loadW H26 true 4 ⟨b2,0,none⟩ pTk fun(x27:Int×Int×Int×ByteArray)=>
 callW PP fq38 #[(pq p),(.agg #[(.int .i64 x27.1),(.int .i64 x27.2.1),(.int .i64 x27.2.2.1),(.string x27.2.2.2)])] H26 ⟨Nat,fun x=>(.iface tq49 (pq x))⟩ fun(x28:Nat) H29=>
 retK (some [.nilIface,(.iface tq49 (pq x28))]) H29 R))
theorem parseTSDX_no.enter (p:Nat) (H:Heap) (R:RR) (h:parseTSDX_no.W p H R):Fn PP fq37 #[(pq p)] H R:=
 fnS mixed Tryz.func37 (hz [(11,pTk),(13,pBool),(16,pTkE),(23,(pInt .i64)),(26,pTk),(27,⟨Nat,fun x=>(.iface tq49 (pq x))⟩),(30,pStr),(31,⟨Unit,fun _=>(.tuple #[.nilFunc,(.bool false)])⟩),(37,pTk),(38,⟨Nat,fun x=>(.iface tq49 (pq x))⟩)]) _ H R (Eq.mp (by unfold parseTSDX_no.W;kernel_rfl) h)
def parseTSDG.W (f:FuncId) (p:Nat) (H:Heap) (R:RR):Prop:=
 loadW H true 4 ⟨p,5,none⟩ pTk fun(x1:Int×Int×Int×ByteArray)=>
 newB H (.cells #[(.int .i64 0),(.int .i64 0),(.int .i64 0),(.string (bs []))] tq87) fun b2 H3=>
 storeW H3 ⟨b2,0,none⟩ [(.int .i64 x1.1),(.int .i64 x1.2.1),(.int .i64 x1.2.2.1),(.string x1.2.2.2)] fun H4=>
 callW PP fq77 #[(pq p)] H4 pBool fun(x5:Bool) H6=>
 forkB x5
 (callW PP fq78 #[(pq p)] H6 pTkE fun(x7:Int×Int×Int×ByteArray) H8=>
 storeW H8 ⟨b2,0,none⟩ [(.int .i64 x7.1),(.int .i64 x7.2.1),(.int .i64 x7.2.2.1),(.string x7.2.2.2)] fun H9=>
 lw H9 b2 0 (pInt .i64) fun(x10:Int)=>
 forkB (x10 !=15)
 (loadW H9 true 4 ⟨b2,0,none⟩ pTk fun(x11:Int×Int×Int×ByteArray)=>
 callW PP fq38 #[(pq p),(.agg #[(.int .i64 x11.1),(.int .i64 x11.2.1),(.int .i64 x11.2.2.1),(.string x11.2.2.2)])] H9 ⟨Nat,fun x=>(.iface tq49 (pq x))⟩ fun(x12:Nat) H13=>
 retK (some [.nilIface,(.iface tq49 (pq x12))]) H13 R)
 (lw H9 b2 3 pStr fun(x14:ByteArray)=>
 callW PP fq79 #[(.string x14)] H9 ⟨Unit,fun _=>(.tuple #[(.func (.func f) #[] #[]),(.bool true)])⟩ fun(_:Unit) H16=>
 call2W PP f #[(pq p)] H16 pIfE ⟨Nat,fun x=>(.tuple #[.nilIface,(.iface tq49 (pq x))])⟩ (fun(x17:(Nat×Nat)) H19=>
 retK (some [(.iface x17.1 (pq x17.2)),.nilIface]) H19 R)
 (fun(e18:Nat) H19=>
 retK (some [.nilIface,(.iface tq49 (pq e18))]) H19 R)))
 (lw H6 b2 0 (pInt .i64) fun(x20:Int)=>
 forkB (x20 !=15)
 (loadW H6 true 4 ⟨b2,0,none⟩ pTk fun(x21:Int×Int×Int×ByteArray)=>
 callW PP fq38 #[(pq p),(.agg #[(.int .i64 x21.1),(.int .i64 x21.2.1),(.int .i64 x21.2.2.1),(.string x21.2.2.2)])] H6 ⟨Nat,fun x=>(.iface tq49 (pq x))⟩ fun(x22:Nat) H23=>
 retK (some [.nilIface,(.iface tq49 (pq x22))]) H23 R)
 (lw H6 b2 3 pStr fun(x24:ByteArray)=>
 callW PP fq79 #[(.string x24)] H6 ⟨Unit,fun _=>(.tuple #[(.func (.func f) #[] #[]),(.bool true)])⟩ fun(_:Unit) H26=>
 call2W PP f #[(pq p)] H26 pIfE ⟨Nat,fun x=>(.tuple #[.nilIface,(.iface tq49 (pq x))])⟩ (fun(x27:(Nat×Nat)) H29=>
 retK (some [(.iface x27.1 (pq x27.2)),.nilIface]) H29 R)
 (fun(e28:Nat) H29=>
 retK (some [.nilIface,(.iface tq49 (pq e28))]) H29 R)))
theorem parseTSDX_parseFragmentDefinition.enter (p:Nat) (H:Heap) (R:RR) (h:parseTSDG.W fq104 p H R):Fn PP fq37 #[(pq p)] H R:=
 fnS mixed Tryz.func37 ⟨patX [(41,pIfE,⟨Nat,fun x=>(.tuple #[.nilIface,(.iface tq49 (pq x))])⟩)] [(11,pTk),(13,pBool),(16,pTkE),(23,(pInt .i64)),(26,pTk),(27,⟨Nat,fun x=>(.iface tq49 (pq x))⟩),(30,pStr),(31,⟨Unit,fun _=>(.tuple #[(.func (.func fq104) #[] #[]),(.bool true)])⟩)],loopL [],joinL [],joinL [],joinRL []⟩ _ H R (Eq.mp (by unfold parseTSDG.W;kernel_rfl) h)
theorem parseTSDX_parseOperationDefinition.enter (p:Nat) (H:Heap) (R:RR) (h:parseTSDG.W fq36 p H R):Fn PP fq37 #[(pq p)] H R:=
 fnS mixed Tryz.func37 ⟨patX [(41,pIfE,⟨Nat,fun x=>(.tuple #[.nilIface,(.iface tq49 (pq x))])⟩)] [(11,pTk),(13,pBool),(16,pTkE),(23,(pInt .i64)),(26,pTk),(27,⟨Nat,fun x=>(.iface tq49 (pq x))⟩),(30,pStr),(31,⟨Unit,fun _=>(.tuple #[(.func (.func fq36) #[] #[]),(.bool true)])⟩)],loopL [],joinL [],joinL [],joinRL []⟩ _ H R (Eq.mp (by unfold parseTSDG.W;kernel_rfl) h)
theorem parseTSDX_parseSchemaDefinition.enter (p:Nat) (H:Heap) (R:RR) (h:parseTSDG.W fq105 p H R):Fn PP fq37 #[(pq p)] H R:=
 fnS mixed Tryz.func37 ⟨patX [(41,pIfE,⟨Nat,fun x=>(.tuple #[.nilIface,(.iface tq49 (pq x))])⟩)] [(11,pTk),(13,pBool),(16,pTkE),(23,(pInt .i64)),(26,pTk),(27,⟨Nat,fun x=>(.iface tq49 (pq x))⟩),(30,pStr),(31,⟨Unit,fun _=>(.tuple #[(.func (.func fq105) #[] #[]),(.bool true)])⟩)],loopL [],joinL [],joinL [],joinRL []⟩ _ H R (Eq.mp (by unfold parseTSDG.W;kernel_rfl) h)
theorem parseTSDX_parseScalarTypeDefinition.enter (p:Nat) (H:Heap) (R:RR) (h:parseTSDG.W fq106 p H R):Fn PP fq37 #[(pq p)] H R:=
 fnS mixed Tryz.func37 ⟨patX [(41,pIfE,⟨Nat,fun x=>(.tuple #[.nilIface,(.iface tq49 (pq x))])⟩)] [(11,pTk),(13,pBool),(16,pTkE),(23,(pInt .i64)),(26,pTk),(27,⟨Nat,fun x=>(.iface tq49 (pq x))⟩),(30,pStr),(31,⟨Unit,fun _=>(.tuple #[(.func (.func fq106) #[] #[]),(.bool true)])⟩)],loopL [],joinL [],joinL [],joinRL []⟩ _ H R (Eq.mp (by unfold parseTSDG.W;kernel_rfl) h)
theorem parseTSDX_parseObjectTypeDefinition.enter (p:Nat) (H:Heap) (R:RR) (h:parseTSDG.W fq107 p H R):Fn PP fq37 #[(pq p)] H R:=
 fnS mixed Tryz.func37 ⟨patX [(41,pIfE,⟨Nat,fun x=>(.tuple #[.nilIface,(.iface tq49 (pq x))])⟩)] [(11,pTk),(13,pBool),(16,pTkE),(23,(pInt .i64)),(26,pTk),(27,⟨Nat,fun x=>(.iface tq49 (pq x))⟩),(30,pStr),(31,⟨Unit,fun _=>(.tuple #[(.func (.func fq107) #[] #[]),(.bool true)])⟩)],loopL [],joinL [],joinL [],joinRL []⟩ _ H R (Eq.mp (by unfold parseTSDG.W;kernel_rfl) h)
theorem parseTSDX_parseInterfaceTypeDefinition.enter (p:Nat) (H:Heap) (R:RR) (h:parseTSDG.W fq108 p H R):Fn PP fq37 #[(pq p)] H R:=
 fnS mixed Tryz.func37 ⟨patX [(41,pIfE,⟨Nat,fun x=>(.tuple #[.nilIface,(.iface tq49 (pq x))])⟩)] [(11,pTk),(13,pBool),(16,pTkE),(23,(pInt .i64)),(26,pTk),(27,⟨Nat,fun x=>(.iface tq49 (pq x))⟩),(30,pStr),(31,⟨Unit,fun _=>(.tuple #[(.func (.func fq108) #[] #[]),(.bool true)])⟩)],loopL [],joinL [],joinL [],joinRL []⟩ _ H R (Eq.mp (by unfold parseTSDG.W;kernel_rfl) h)
theorem parseTSDX_parseUnionTypeDefinition.enter (p:Nat) (H:Heap) (R:RR) (h:parseTSDG.W fq109 p H R):Fn PP fq37 #[(pq p)] H R:=
 fnS mixed Tryz.func37 ⟨patX [(41,pIfE,⟨Nat,fun x=>(.tuple #[.nilIface,(.iface tq49 (pq x))])⟩)] [(11,pTk),(13,pBool),(16,pTkE),(23,(pInt .i64)),(26,pTk),(27,⟨Nat,fun x=>(.iface tq49 (pq x))⟩),(30,pStr),(31,⟨Unit,fun _=>(.tuple #[(.func (.func fq109) #[] #[]),(.bool true)])⟩)],loopL [],joinL [],joinL [],joinRL []⟩ _ H R (Eq.mp (by unfold parseTSDG.W;kernel_rfl) h)
theorem parseTSDX_parseEnumTypeDefinition.enter (p:Nat) (H:Heap) (R:RR) (h:parseTSDG.W fq110 p H R):Fn PP fq37 #[(pq p)] H R:=
 fnS mixed Tryz.func37 ⟨patX [(41,pIfE,⟨Nat,fun x=>(.tuple #[.nilIface,(.iface tq49 (pq x))])⟩)] [(11,pTk),(13,pBool),(16,pTkE),(23,(pInt .i64)),(26,pTk),(27,⟨Nat,fun x=>(.iface tq49 (pq x))⟩),(30,pStr),(31,⟨Unit,fun _=>(.tuple #[(.func (.func fq110) #[] #[]),(.bool true)])⟩)],loopL [],joinL [],joinL [],joinRL []⟩ _ H R (Eq.mp (by unfold parseTSDG.W;kernel_rfl) h)
theorem parseTSDX_parseInputObjectTypeDefinition.enter (p:Nat) (H:Heap) (R:RR) (h:parseTSDG.W fq111 p H R):Fn PP fq37 #[(pq p)] H R:=
 fnS mixed Tryz.func37 ⟨patX [(41,pIfE,⟨Nat,fun x=>(.tuple #[.nilIface,(.iface tq49 (pq x))])⟩)] [(11,pTk),(13,pBool),(16,pTkE),(23,(pInt .i64)),(26,pTk),(27,⟨Nat,fun x=>(.iface tq49 (pq x))⟩),(30,pStr),(31,⟨Unit,fun _=>(.tuple #[(.func (.func fq111) #[] #[]),(.bool true)])⟩)],loopL [],joinL [],joinL [],joinRL []⟩ _ H R (Eq.mp (by unfold parseTSDG.W;kernel_rfl) h)
theorem parseTSDX_parseTypeExtensionDefinition.enter (p:Nat) (H:Heap) (R:RR) (h:parseTSDG.W fq112 p H R):Fn PP fq37 #[(pq p)] H R:=
 fnS mixed Tryz.func37 ⟨patX [(41,pIfE,⟨Nat,fun x=>(.tuple #[.nilIface,(.iface tq49 (pq x))])⟩)] [(11,pTk),(13,pBool),(16,pTkE),(23,(pInt .i64)),(26,pTk),(27,⟨Nat,fun x=>(.iface tq49 (pq x))⟩),(30,pStr),(31,⟨Unit,fun _=>(.tuple #[(.func (.func fq112) #[] #[]),(.bool true)])⟩)],loopL [],joinL [],joinL [],joinRL []⟩ _ H R (Eq.mp (by unfold parseTSDG.W;kernel_rfl) h)
theorem parseTSDX_parseDirectiveDefinition.enter (p:Nat) (H:Heap) (R:RR) (h:parseTSDG.W fq113 p H R):Fn PP fq37 #[(pq p)] H R:=
 fnS mixed Tryz.func37 ⟨patX [(41,pIfE,⟨Nat,fun x=>(.tuple #[.nilIface,(.iface tq49 (pq x))])⟩)] [(11,pTk),(13,pBool),(16,pTkE),(23,(pInt .i64)),(26,pTk),(27,⟨Nat,fun x=>(.iface tq49 (pq x))⟩),(30,pStr),(31,⟨Unit,fun _=>(.tuple #[(.func (.func fq113) #[] #[]),(.bool true)])⟩)],loopL [],joinL [],joinL [],joinRL []⟩ _ H R (Eq.mp (by unfold parseTSDG.W;kernel_rfl) h)
end Go.Vx
