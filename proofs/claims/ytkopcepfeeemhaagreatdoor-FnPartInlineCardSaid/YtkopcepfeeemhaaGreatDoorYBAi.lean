/- A part of the proof of what the last text of this claim says: WB3. Conditions: none. -/
import Derived.Test.YtkopcepfeeemhaaGreatDoorZAc
namespace Go.Vx
open Go Go.Proofs
set_option maxRecDepth 100000
def reverseG.W (f:FuncId) (p:Nat) (ok:Int) (ck:Int) (z:Bool) (H:Heap) (R:RR):Prop:=
 callW PP fq143 #[(pq p),(.int .i64 ok)] H pTkE fun(x1:Int×Int×Int×ByteArray) H2=>
 newB H2 (.cells #[(.int .i64 0),(.int .i64 0),(.int .i64 0),(.string (bs []))] tq85) fun b3 H4=>
 storeW H4 ⟨b3,0,none⟩ [(.int .i64 x1.1),(.int .i64 x1.2.1),(.int .i64 x1.2.2.1),(.string x1.2.2.2)] fun H5=>
 loopK (Sl×Unit) ((none,0,0),()) H5 fun z6 H7 next8=>
 callW PP fq150 #[(pq p),(.int .i64 ck)] H7 pBoE fun(x9:Bool) H10=>
 forkB x9
 (joinPK (Bool×Unit) H10 (fun J11=>
 forkB z
 (J11 ((((z6.1.2.1:Nat):Int)==0),()) H10)
 (J11 (false,()) H10)) fun y12=>
 forkB y12.1
 (lw H10 b3 1 (pInt .i64) fun(x13:Int)=>
 callW PP fq199 #[(pq p),(.int .i64 x13),(.int .i64 ok),(.int .i64 ck)] H10 ⟨Unit,fun _=> .nilIface⟩ fun(_:Unit) H15=>
 retK (some [(.slice z6.1.1 z6.1.2.1 z6.1.2.2),.nilIface]) H15 R)
 (retK (some [(.slice z6.1.1 z6.1.2.1 z6.1.2.2),.nilIface]) H10 R))
 (callW PP f #[(pq p)] H10 pIfE fun(x16:(Nat×Nat)) H17=>
 newB H17 (.cells #[(.iface x16.1 (pq x16.2))] tq20) fun b18 H19=>
 appK H19 tq20 1 16 z6.1.1 z6.1.2.1 z6.1.2.2 (some ⟨b18,0,none⟩) 1 fun a20 c21 H22=>
 next8 ((a20,(z6.1.2.1+1),c21),()) H22)
theorem reverseArg.enter (p:Nat) (ok:Int) (ck:Int) (z:Bool) (H:Heap) (R:RR) (h:reverseG.W fq114 p ok ck z H R):Fn PP fq139 #[(pq p),(.int .i64 ok),(.func (.func fq114) #[] #[]),(.int .i64 ck),(.bool z)] H R:=
 fnS mixed Tryz.func139 ⟨patL [(22,pTkE),(31,pBoE),(41,pIfE),(61,(pInt .i64)),(64,⟨Unit,fun _=> .nilIface⟩)],loopL [(0,[Slot.slc 14])],joinL [],joinL [],joinRL [(13,[Slot.bool 57],true)]⟩ _ H R (Eq.mp (by unfold reverseG.W;kernel_rfl) h)
theorem reverseVar.enter (p:Nat) (ok:Int) (ck:Int) (z:Bool) (H:Heap) (R:RR) (h:reverseG.W fq111 p ok ck z H R):Fn PP fq139 #[(pq p),(.int .i64 ok),(.func (.func fq111) #[] #[]),(.int .i64 ck),(.bool z)] H R:=
 fnS mixed Tryz.func139 ⟨patL [(22,pTkE),(31,pBoE),(41,pIfE),(61,(pInt .i64)),(64,⟨Unit,fun _=> .nilIface⟩)],loopL [(0,[Slot.slc 14])],joinL [],joinL [],joinRL [(13,[Slot.bool 57],true)]⟩ _ H R (Eq.mp (by unfold reverseG.W;kernel_rfl) h)
theorem reverseSel.enter (p:Nat) (ok:Int) (ck:Int) (z:Bool) (H:Heap) (R:RR) (h:reverseG.W fq207 p ok ck z H R):Fn PP fq139 #[(pq p),(.int .i64 ok),(.func (.func fq207) #[] #[]),(.int .i64 ck),(.bool z)] H R:=
 fnS mixed Tryz.func139 ⟨patL [(22,pTkE),(31,pBoE),(41,pIfE),(61,(pInt .i64)),(64,⟨Unit,fun _=> .nilIface⟩)],loopL [(0,[Slot.slc 14])],joinL [],joinL [],joinRL [(13,[Slot.bool 57],true)]⟩ _ H R (Eq.mp (by unfold reverseG.W;kernel_rfl) h)
theorem reverseConst.enter (p:Nat) (ok:Int) (ck:Int) (z:Bool) (H:Heap) (R:RR) (h:reverseG.W fq154 p ok ck z H R):Fn PP fq139 #[(pq p),(.int .i64 ok),(.func (.func fq154) #[] #[]),(.int .i64 ck),(.bool z)] H R:=
 fnS mixed Tryz.func139 ⟨patL [(22,pTkE),(31,pBoE),(41,pIfE),(61,(pInt .i64)),(64,⟨Unit,fun _=> .nilIface⟩)],loopL [(0,[Slot.slc 14])],joinL [],joinL [],joinRL [(13,[Slot.bool 57],true)]⟩ _ H R (Eq.mp (by unfold reverseG.W;kernel_rfl) h)
theorem reverseValue.enter (p:Nat) (ok:Int) (ck:Int) (z:Bool) (H:Heap) (R:RR) (h:reverseG.W fq233 p ok ck z H R):Fn PP fq139 #[(pq p),(.int .i64 ok),(.func (.func fq233) #[] #[]),(.int .i64 ck),(.bool z)] H R:=
 fnS mixed Tryz.func139 ⟨patL [(22,pTkE),(31,pBoE),(41,pIfE),(61,(pInt .i64)),(64,⟨Unit,fun _=> .nilIface⟩)],loopL [(0,[Slot.slc 14])],joinL [],joinL [],joinRL [(13,[Slot.bool 57],true)]⟩ _ H R (Eq.mp (by unfold reverseG.W;kernel_rfl) h)
def parseVariableDefinition.W (p:Nat) (H:Heap) (R:RR):Prop:=
 lw H p 6 (pInt .i64) fun(x1:Int)=>
 callW PP fq170 #[(pq p)] H pBlE fun(x2:Nat) H3=>
 callW PP fq143 #[(pq p),(.int .i64 7)] H3 pTkE fun(_x4:Int×Int×Int×ByteArray) H5=>
 callW PP fq151 #[(pq p)] H5 pIfE fun(x6:(Nat×Nat)) H7=>
 callW PP fq150 #[(pq p),(.int .i64 8)] H7 pBoE fun(x8:Bool) H9=>
 forkB x8
 (callW PP fq171 #[(pq p),(.bool true)] H9 pIfE fun(x10:(Nat×Nat)) H11=>
 callW PP fq141 #[(pq p),(.int .i64 x1)] H11 pBlk fun(x12:Nat) H13=>
 newB H13 (.cells #[(.string (bs [])),(pq x12),(pq x2),(.iface x6.1 (pq x6.2)),(.iface x10.1 (pq x10.2))] tq175) fun b14 H15=>
 callW PP fq172 #[(pq b14)] H15 pBlk fun(x16:Nat) H17=>
 retK (some [(.iface tq93 (pq x16)),.nilIface]) H17 R)
 (callW PP fq141 #[(pq p),(.int .i64 x1)] H9 pBlk fun(x18:Nat) H19=>
 newB H19 (.cells #[(.string (bs [])),(pq x18),(pq x2),(.iface x6.1 (pq x6.2)),.nilIface] tq175) fun b20 H21=>
 callW PP fq172 #[(pq b20)] H21 pBlk fun(x22:Nat) H23=>
 retK (some [(.iface tq93 (pq x22)),.nilIface]) H23 R)
theorem parseVariableDefinition.enter (p:Nat) (H:Heap) (R:RR) (h:parseVariableDefinition.W p H R):Fn PP fq111 #[(pq p)] H R:=
 fnS mixed Tryz.func111 (hz [(15,(pInt .i64)),(18,pBlE),(26,pTkE),(34,pIfE),(42,pBoE),(51,pIfE),(62,pBlk),(65,pBlk)]) _ H R (Eq.mp (by unfold parseVariableDefinition.W;kernel_rfl) h)
def parseField.W (p:Nat) (H:Heap) (R:RR):Prop:=
 lw H p 6 (pInt .i64) fun(x1:Int)=>
 callW PP fq146 #[(pq p)] H pBlE fun(x2:Nat) H3=>
 callW PP fq150 #[(pq p),(.int .i64 7)] H3 pBoE fun(x4:Bool) H5=>
 forkB x4
 (callW PP fq146 #[(pq p)] H5 pBlE fun(x6:Nat) H7=>
 callW PP fq173 #[(pq p)] H7 pSlE fun(x8:Sl) H9=>
 callW PP fq138 #[(pq p)] H9 pSlE fun(x10:Sl) H11=>
 callW PP fq153 #[(pq p),(.int .i64 12)] H11 pBool fun(x12:Bool) H13=>
 forkB x12
 (callW PP fq165 #[(pq p)] H13 pBlE fun(x14:Nat) H15=>
 callW PP fq141 #[(pq p),(.int .i64 x1)] H15 pBlk fun(x16:Nat) H17=>
 newB H17 (.cells #[(.string (bs [])),(pq x16),(pq x2),(pq x6),(.slice x8.1 x8.2.1 x8.2.2),(.slice x10.1 x10.2.1 x10.2.2),(pq x14)] tq194) fun b18 H19=>
 callW PP fq174 #[(pq b18)] H19 pBlk fun(x20:Nat) H21=>
 retK (some [(pq x20),.nilIface]) H21 R)
 (callW PP fq141 #[(pq p),(.int .i64 x1)] H13 pBlk fun(x22:Nat) H23=>
 newB H23 (.cells #[(.string (bs [])),(pq x22),(pq x2),(pq x6),(.slice x8.1 x8.2.1 x8.2.2),(.slice x10.1 x10.2.1 x10.2.2),(.pointer none)] tq194) fun b24 H25=>
 callW PP fq174 #[(pq b24)] H25 pBlk fun(x26:Nat) H27=>
 retK (some [(pq x26),.nilIface]) H27 R))
 (callW PP fq173 #[(pq p)] H5 pSlE fun(x28:Sl) H29=>
 callW PP fq138 #[(pq p)] H29 pSlE fun(x30:Sl) H31=>
 callW PP fq153 #[(pq p),(.int .i64 12)] H31 pBool fun(x32:Bool) H33=>
 forkB x32
 (callW PP fq165 #[(pq p)] H33 pBlE fun(x34:Nat) H35=>
 callW PP fq141 #[(pq p),(.int .i64 x1)] H35 pBlk fun(x36:Nat) H37=>
 newB H37 (.cells #[(.string (bs [])),(pq x36),(.pointer none),(pq x2),(.slice x28.1 x28.2.1 x28.2.2),(.slice x30.1 x30.2.1 x30.2.2),(pq x34)] tq194) fun b38 H39=>
 callW PP fq174 #[(pq b38)] H39 pBlk fun(x40:Nat) H41=>
 retK (some [(pq x40),.nilIface]) H41 R)
 (callW PP fq141 #[(pq p),(.int .i64 x1)] H33 pBlk fun(x42:Nat) H43=>
 newB H43 (.cells #[(.string (bs [])),(pq x42),(.pointer none),(pq x2),(.slice x28.1 x28.2.1 x28.2.2),(.slice x30.1 x30.2.1 x30.2.2),(.pointer none)] tq194) fun b44 H45=>
 callW PP fq174 #[(pq b44)] H45 pBlk fun(x46:Nat) H47=>
 retK (some [(pq x46),.nilIface]) H47 R))
theorem parseField.enter (p:Nat) (H:Heap) (R:RR) (h:parseField.W p H R):Fn PP fq112 #[(pq p)] H R:=
 fnS mixed Tryz.func112 (hz [(17,(pInt .i64)),(20,pBlE),(28,pBoE),(38,pBlE),(46,pSlE),(54,pSlE),(61,pBool),(64,pBlE),(77,pBlk),(80,pBlk)]) _ H R (Eq.mp (by unfold parseField.W;kernel_rfl) h)
def parseFragment.W (p:Nat) (H:Heap) (R:RR):Prop:=
 lw H p 6 (pInt .i64) fun(x1:Int)=>
 callW PP fq143 #[(pq p),(.int .i64 6)] H pTkE fun(_x2:Int×Int×Int×ByteArray) H3=>
 joinK (Bool×Unit) (fun J4=>
 callW PP fq153 #[(pq p),(.int .i64 15)] H3 pBool fun(x7:Bool) H8=>
 forkB x7
 (lw H8 p 8 pStr fun(x9:ByteArray)=>
 J4 ((!(x9.toList==(bs [111,110]).toList)),()) H8)
 (J4 (false,()) H8)) fun y5 H6=>
 forkB y5.1
 (callW PP fq168 #[(pq p)] H6 pBlE fun(x10:Nat) H11=>
 callW PP fq138 #[(pq p)] H11 pSlE fun(x12:Sl) H13=>
 callW PP fq141 #[(pq p),(.int .i64 x1)] H13 pBlk fun(x14:Nat) H15=>
 newB H15 (.cells #[(.string (bs [])),(pq x14),(pq x10),(.slice x12.1 x12.2.1 x12.2.2)] tq197) fun b16 H17=>
 callW PP fq175 #[(pq b16)] H17 pBlk fun(x18:Nat) H19=>
 retK (some [(.iface tq128 (pq x18)),.nilIface]) H19 R)
 (lw H6 p 8 pStr fun(x20:ByteArray)=>
 forkB (x20.toList==(bs [111,110]).toList)
 (callW PP fq149 #[(pq p)] H6 ⟨Unit,fun _=> .nilIface⟩ fun(_:Unit) H22=>
 callW PP fq144 #[(pq p)] H22 pBlE fun(x23:Nat) H24=>
 callW PP fq138 #[(pq p)] H24 pSlE fun(x25:Sl) H26=>
 callW PP fq165 #[(pq p)] H26 pBlE fun(x27:Nat) H28=>
 callW PP fq141 #[(pq p),(.int .i64 x1)] H28 pBlk fun(x29:Nat) H30=>
 newB H30 (.cells #[(.string (bs [])),(pq x29),(pq x23),(.slice x25.1 x25.2.1 x25.2.2),(pq x27)] tq199) fun b31 H32=>
 callW PP fq176 #[(pq b31)] H32 pBlk fun(x33:Nat) H34=>
 retK (some [(.iface tq129 (pq x33)),.nilIface]) H34 R)
 (callW PP fq138 #[(pq p)] H6 pSlE fun(x35:Sl) H36=>
 callW PP fq165 #[(pq p)] H36 pBlE fun(x37:Nat) H38=>
 callW PP fq141 #[(pq p),(.int .i64 x1)] H38 pBlk fun(x39:Nat) H40=>
 newB H40 (.cells #[(.string (bs [])),(pq x39),(.pointer none),(.slice x35.1 x35.2.1 x35.2.2),(pq x37)] tq199) fun b41 H42=>
 callW PP fq176 #[(pq b41)] H42 pBlk fun(x43:Nat) H44=>
 retK (some [(.iface tq129 (pq x43)),.nilIface]) H44 R))
theorem parseFragment.enter (p:Nat) (H:Heap) (R:RR) (h:parseFragment.W p H R):Fn PP fq113 #[(pq p)] H R:=
 fnS mixed Tryz.func113 ⟨patL [(19,(pInt .i64)),(22,pTkE),(29,pBool),(35,pStr),(40,pBlE),(48,pSlE),(58,pBlk),(61,pBlk),(67,pStr),(70,⟨Unit,fun _=> .nilIface⟩),(76,pBlE),(85,pSlE),(93,pBlE),(104,pBlk),(107,pBlk)],loopL [],joinL [],joinL [],joinRL [(6,[Slot.bool 37],false)]⟩ _ H R (Eq.mp (by unfold parseFragment.W;kernel_rfl) h)
def parseFragmentDefinition.W (p:Nat) (H:Heap) (R:RR):Prop:=
 lw H p 6 (pInt .i64) fun(x1:Int)=>
 callW PP fq137 #[(pq p),(.string (bs [102,114,97,103,109,101,110,116]))] H pTkE fun(x2:Int×Int×Int×ByteArray) H3=>
 newB H3 (.cells #[(.int .i64 0),(.int .i64 0),(.int .i64 0),(.string (bs []))] tq85) fun b4 H5=>
 storeW H5 ⟨b4,0,none⟩ [(.int .i64 x2.1),(.int .i64 x2.2.1),(.int .i64 x2.2.2.1),(.string x2.2.2.2)] fun H6=>
 callW PP fq168 #[(pq p)] H6 pBlE fun(x7:Nat) H8=>
 callW PP fq137 #[(pq p),(.string (bs [111,110]))] H8 pTkE fun(_x9:Int×Int×Int×ByteArray) H10=>
 callW PP fq144 #[(pq p)] H10 pBlE fun(x11:Nat) H12=>
 callW PP fq138 #[(pq p)] H12 pSlE fun(x13:Sl) H14=>
 callW PP fq165 #[(pq p)] H14 pBlE fun(x15:Nat) H16=>
 callW PP fq141 #[(pq p),(.int .i64 x1)] H16 pBlk fun(x17:Nat) H18=>
 newB H18 (.cells #[(.string (bs [])),(pq x17),(.string (bs [])),(pq x7),(.slice none 0 0),(pq x11),(.slice x13.1 x13.2.1 x13.2.2),(pq x15)] tq205) fun b19 H20=>
 callW PP fq169 #[(pq b19)] H20 pBlk fun(x21:Nat) H22=>
 retK (some [(.iface tq203 (pq x21)),.nilIface]) H22 R
theorem parseFragmentDefinition.enter (p:Nat) (H:Heap) (R:RR) (h:parseFragmentDefinition.W p H R):Fn PP fq110 #[(pq p)] H R:=
 fnS mixed Tryz.func110 (hz [(15,(pInt .i64)),(18,pTkE),(26,pBlE),(34,pTkE),(42,pBlE),(50,pSlE),(58,pBlE),(70,pBlk),(73,pBlk)]) _ H R (Eq.mp (by unfold parseFragmentDefinition.W;kernel_rfl) h)
def parseOperationDefinition.W (p:Nat) (H:Heap) (R:RR):Prop:=
 lw H p 6 (pInt .i64) fun(x1:Int)=>
 callW PP fq153 #[(pq p),(.int .i64 12)] H pBool fun(x2:Bool) H3=>
 forkB x2
 (callW PP fq165 #[(pq p)] H3 pBlE fun(x4:Nat) H5=>
 newB H5 (.cells #[] tq99) fun b6 H7=>
 callW PP fq141 #[(pq p),(.int .i64 x1)] H7 pBlk fun(x8:Nat) H9=>
 newB H9 (.cells #[(.string (bs [])),(pq x8),(.string (bs [113,117,101,114,121])),(.pointer none),(.slice none 0 0),(.slice (some ⟨b6,0,none⟩) 0 0),(pq x4)] tq202) fun b10 H11=>
 callW PP fq166 #[(pq b10)] H11 pBlk fun(x12:Nat) H13=>
 retK (some [(.iface tq200 (pq x12)),.nilIface]) H13 R)
 (callW PP fq142 #[(pq p)] H3 ⟨ByteArray,fun x=>(.tuple #[(.string x),.nilIface])⟩ fun(x14:ByteArray) H15=>
 callW PP fq153 #[(pq p),(.int .i64 15)] H15 pBool fun(x16:Bool) H17=>
 forkB x16
 (callW PP fq146 #[(pq p)] H17 pBlE fun(x18:Nat) H19=>
 callW PP fq167 #[(pq p)] H19 pSlE fun(x20:Sl) H21=>
 callW PP fq138 #[(pq p)] H21 pSlE fun(x22:Sl) H23=>
 callW PP fq165 #[(pq p)] H23 pBlE fun(x24:Nat) H25=>
 callW PP fq141 #[(pq p),(.int .i64 x1)] H25 pBlk fun(x26:Nat) H27=>
 newB H27 (.cells #[(.string (bs [])),(pq x26),(.string x14),(pq x18),(.slice x20.1 x20.2.1 x20.2.2),(.slice x22.1 x22.2.1 x22.2.2),(pq x24)] tq202) fun b28 H29=>
 callW PP fq166 #[(pq b28)] H29 pBlk fun(x30:Nat) H31=>
 retK (some [(.iface tq200 (pq x30)),.nilIface]) H31 R)
 (callW PP fq167 #[(pq p)] H17 pSlE fun(x32:Sl) H33=>
 callW PP fq138 #[(pq p)] H33 pSlE fun(x34:Sl) H35=>
 callW PP fq165 #[(pq p)] H35 pBlE fun(x36:Nat) H37=>
 callW PP fq141 #[(pq p),(.int .i64 x1)] H37 pBlk fun(x38:Nat) H39=>
 newB H39 (.cells #[(.string (bs [])),(pq x38),(.string x14),(.pointer none),(.slice x32.1 x32.2.1 x32.2.2),(.slice x34.1 x34.2.1 x34.2.2),(pq x36)] tq202) fun b40 H41=>
 callW PP fq166 #[(pq b40)] H41 pBlk fun(x42:Nat) H43=>
 retK (some [(.iface tq200 (pq x42)),.nilIface]) H43 R))
theorem parseOperationDefinition.enter (p:Nat) (H:Heap) (R:RR) (h:parseOperationDefinition.W p H R):Fn PP fq109 #[(pq p)] H R:=
 fnS mixed Tryz.func109 (hz [(17,(pInt .i64)),(19,pBool),(22,pBlE),(32,pBlk),(35,pBlk),(39,⟨ByteArray,fun x=>(.tuple #[(.string x),.nilIface])⟩),(46,pBool),(49,pBlE),(57,pSlE),(65,pSlE),(73,pBlE),(86,pBlk),(89,pBlk)]) _ H R (Eq.mp (by unfold parseOperationDefinition.W;kernel_rfl) h)
def parseArgument.W (p:Nat) (H:Heap) (R:RR):Prop:=
 lw H p 6 (pInt .i64) fun(x1:Int)=>
 callW PP fq146 #[(pq p)] H pBlE fun(x2:Nat) H3=>
 callW PP fq143 #[(pq p),(.int .i64 7)] H3 pTkE fun(_x4:Int×Int×Int×ByteArray) H5=>
 callW PP fq171 #[(pq p),(.bool false)] H5 pIfE fun(x6:(Nat×Nat)) H7=>
 callW PP fq141 #[(pq p),(.int .i64 x1)] H7 pBlk fun(x8:Nat) H9=>
 newB H9 (.cells #[(.string (bs [])),(pq x8),(pq x2),(.iface x6.1 (pq x6.2))] tq180) fun b10 H11=>
 callW PP fq177 #[(pq b10)] H11 pBlk fun(x12:Nat) H13=>
 retK (some [(.iface tq96 (pq x12)),.nilIface]) H13 R
theorem parseArgument.enter (p:Nat) (H:Heap) (R:RR) (h:parseArgument.W p H R):Fn PP fq114 #[(pq p)] H R:=
 fnS mixed Tryz.func114 (hz [(12,(pInt .i64)),(15,pBlE),(23,pTkE),(31,pIfE),(41,pBlk),(44,pBlk)]) _ H R (Eq.mp (by unfold parseArgument.W;kernel_rfl) h)
def parseSelection.W (p:Nat) (H:Heap) (R:RR):Prop:=
 callW PP fq153 #[(pq p),(.int .i64 6)] H pBool fun(x1:Bool) H2=>
 forkB x1
 (callW PP fq113 #[(pq p)] H2 pIfE fun(x3:(Nat×Nat)) H4=>
 retK (some [(.iface x3.1 (pq x3.2)),.nilIface]) H4 R)
 (callW PP fq112 #[(pq p)] H2 pBlE fun(x5:Nat) H6=>
 retK (some [(.iface tq126 (pq x5)),.nilIface]) H6 R)
theorem parseSelection.enter (p:Nat) (H:Heap) (R:RR) (h:parseSelection.W p H R):Fn PP fq207 #[(pq p)] H R:=
 fnS mixed Tryz.func207 (hz [(5,pBool),(7,pIfE),(11,pBlE)]) _ H R (Eq.mp (by unfold parseSelection.W;kernel_rfl) h)
def parseVariableDefinitions.W (p:Nat) (H:Heap) (R:RR):Prop:=
 newB H (.cells #[] tq93) fun b1 H2=>
 callW PP fq153 #[(pq p),(.int .i64 4)] H2 pBool fun(x3:Bool) H4=>
 forkB (!x3)
 (retK (some [(.slice (some ⟨b1,0,none⟩) 0 0),.nilIface]) H4 R)
 (callW PP fq139 #[(pq p),(.int .i64 4),(.func (.func fq111) #[] #[]),(.int .i64 5),(.bool true)] H4 pSlE fun(x5:Sl) H6=>
 loopK (Sl×Int×Unit) (((some ⟨b1,0,none⟩),0,0),0,()) H6 fun z7 H8 next9=>
 forkB (decide (z7.2.1<((x5.2.1:Nat):Int)))
 ((IxOk x5.1 z7.2.1 x5.2.1)∧
 loadW H8 false 1 ⟨(blkOf x5.1),(offOf x5.1+z7.2.1.toNat*1),none⟩ ⟨Nat,fun x=>(.iface tq93 (pq x))⟩ fun(x10:Nat)=>
 newB H8 (.cells #[(pq x10)] tq93) fun b11 H12=>
 appK H12 tq93 1 8 z7.1.1 z7.1.2.1 z7.1.2.2 (some ⟨b11,0,none⟩) 1 fun a13 c14 H15=>
 next9 ((a13,(z7.1.2.1+1),c14),(IntKind.i64.wrap (z7.2.1+1)),()) H15)
 (retK (some [(.slice z7.1.1 z7.1.2.1 z7.1.2.2),.nilIface]) H8 R))
theorem parseVariableDefinitions.enter (p:Nat) (H:Heap) (R:RR) (h:parseVariableDefinitions.W p H R):Fn PP fq167 #[(pq p)] H R:=
 fnS mixed Tryz.func167 ⟨patL [(11,pBool),(16,pSlE),(28,⟨Nat,fun x=>(.iface tq93 (pq x))⟩)],loopL [(0,[Slot.slc 4,Slot.int .i64 25])],joinL [],joinL [],joinRL []⟩ _ H R (Eq.mp (by unfold parseVariableDefinitions.W;kernel_rfl) h)
def parseArguments.W (p:Nat) (H:Heap) (R:RR):Prop:=
 newB H (.cells #[] tq96) fun b1 H2=>
 callW PP fq153 #[(pq p),(.int .i64 4)] H2 pBool fun(x3:Bool) H4=>
 forkB x3
 (callW PP fq139 #[(pq p),(.int .i64 4),(.func (.func fq114) #[] #[]),(.int .i64 5),(.bool true)] H4 pSlE fun(x5:Sl) H6=>
 loopK (Sl×Int×Unit) (((some ⟨b1,0,none⟩),0,0),0,()) H6 fun z7 H8 next9=>
 forkB (decide (z7.2.1<((x5.2.1:Nat):Int)))
 ((IxOk x5.1 z7.2.1 x5.2.1)∧
 loadW H8 false 1 ⟨(blkOf x5.1),(offOf x5.1+z7.2.1.toNat*1),none⟩ ⟨Nat,fun x=>(.iface tq96 (pq x))⟩ fun(x10:Nat)=>
 newB H8 (.cells #[(pq x10)] tq96) fun b11 H12=>
 appK H12 tq96 1 8 z7.1.1 z7.1.2.1 z7.1.2.2 (some ⟨b11,0,none⟩) 1 fun a13 c14 H15=>
 next9 ((a13,(z7.1.2.1+1),c14),(IntKind.i64.wrap (z7.2.1+1)),()) H15)
 (retK (some [(.slice z7.1.1 z7.1.2.1 z7.1.2.2),.nilIface]) H8 R))
 (retK (some [(.slice (some ⟨b1,0,none⟩) 0 0),.nilIface]) H4 R)
theorem parseArguments.enter (p:Nat) (H:Heap) (R:RR) (h:parseArguments.W p H R):Fn PP fq173 #[(pq p)] H R:=
 fnS mixed Tryz.func173 ⟨patL [(11,pBool),(14,pSlE),(26,⟨Nat,fun x=>(.iface tq96 (pq x))⟩)],loopL [(0,[Slot.slc 4,Slot.int .i64 23])],joinL [],joinL [],joinRL []⟩ _ H R (Eq.mp (by unfold parseArguments.W;kernel_rfl) h)
def parseSelectionSet.W (p:Nat) (H:Heap) (R:RR):Prop:=
 lw H p 6 (pInt .i64) fun(x1:Int)=>
 newB H (.cells #[] tq191) fun b2 H3=>
 callW PP fq139 #[(pq p),(.int .i64 12),(.func (.func fq207) #[] #[]),(.int .i64 14),(.bool true)] H3 pSlE fun(x4:Sl) H5=>
 loopK (Sl×Int×Unit) (((some ⟨b2,0,none⟩),0,0),0,()) H5 fun z6 H7 next8=>
 forkB (decide (z6.2.1<((x4.2.1:Nat):Int)))
 ((IxOk x4.1 z6.2.1 x4.2.1)∧
 loadW H7 false 1 ⟨(blkOf x4.1),(offOf x4.1+z6.2.1.toNat*1),none⟩ pIf fun(x9:(Nat×Nat))=>
 asW PP (.iface x9.1 (pq x9.2)) tq20 tq191 false (
 newB H7 (.cells #[(.iface x9.1 (pq x9.2))] tq191) fun b10 H11=>
 appK H11 tq191 1 16 z6.1.1 z6.1.2.1 z6.1.2.2 (some ⟨b10,0,none⟩) 1 fun a12 c13 H14=>
 next8 ((a12,(z6.1.2.1+1),c13),(IntKind.i64.wrap (z6.2.1+1)),()) H14))
 (callW PP fq141 #[(pq p),(.int .i64 x1)] H7 pBlk fun(x15:Nat) H16=>
 newB H16 (.cells #[(.string (bs [])),(pq x15),(.slice z6.1.1 z6.1.2.1 z6.1.2.2)] tq322) fun b17 H18=>
 callW PP fq208 #[(pq b17)] H18 pBlk fun(x19:Nat) H20=>
 retK (some [(pq x19),.nilIface]) H20 R)
theorem parseSelectionSet.enter (p:Nat) (H:Heap) (R:RR) (h:parseSelectionSet.W p H R):Fn PP fq165 #[(pq p)] H R:=
 fnS mixed Tryz.func165 ⟨patL [(14,(pInt .i64)),(18,pSlE),(29,pIf),(39,pBlk),(42,pBlk)],loopL [(0,[Slot.slc 5,Slot.int .i64 26])],joinL [],joinL [],joinRL []⟩ _ H R (Eq.mp (by unfold parseSelectionSet.W;kernel_rfl) h)
def parseValueLiteral.W (p:Nat) (c:Bool) (H:Heap) (R:RR):Prop:=
 loadW H true 4 ⟨p,5,none⟩ pTk fun(x1:Int×Int×Int×ByteArray)=>
 newB H (.cells #[(.int .i64 0),(.int .i64 0),(.int .i64 0),(.string (bs []))] tq85) fun b2 H3=>
 storeW H3 ⟨b2,0,none⟩ [(.int .i64 x1.1),(.int .i64 x1.2.1),(.int .i64 x1.2.2.1),(.string x1.2.2.2)] fun H4=>
 lw H4 b2 0 (pInt .i64) fun(x5:Int)=>
 forkB (x5==10)
 (callW PP fq210 #[(pq p),(.bool c)] H4 pBlE fun(x6:Nat) H7=>
 retK (some [(.iface tq309 (pq x6)),.nilIface]) H7 R)
 (forkB (x5==12)
 (callW PP fq211 #[(pq p),(.bool c)] H4 pBlE fun(x8:Nat) H9=>
 retK (some [(.iface tq313 (pq x8)),.nilIface]) H9 R)
 (forkB (x5==16)
 (callW PP fq149 #[(pq p)] H4 ⟨Unit,fun _=> .nilIface⟩ fun(_:Unit) H11=>
 lw H11 b2 3 pStr fun(x12:ByteArray)=>
 lw H11 b2 1 (pInt .i64) fun(x13:Int)=>
 callW PP fq141 #[(pq p),(.int .i64 x13)] H11 pBlk fun(x14:Nat) H15=>
 lc H15 b2 3 (.string x12)∧
 newB H15 (.cells #[(.string (bs [])),(pq x14),(.string x12)] tq301) fun b16 H17=>
 callW PP fq212 #[(pq b16)] H17 pBlk fun(x18:Nat) H19=>
 retK (some [(.iface tq300 (pq x18)),.nilIface]) H19 R)
 (forkB (x5==17)
 (callW PP fq149 #[(pq p)] H4 ⟨Unit,fun _=> .nilIface⟩ fun(_:Unit) H21=>
 lw H21 b2 3 pStr fun(x22:ByteArray)=>
 lw H21 b2 1 (pInt .i64) fun(x23:Int)=>
 callW PP fq141 #[(pq p),(.int .i64 x23)] H21 pBlk fun(x24:Nat) H25=>
 lc H25 b2 3 (.string x22)∧
 newB H25 (.cells #[(.string (bs [])),(pq x24),(.string x22)] tq303) fun b26 H27=>
 callW PP fq213 #[(pq b26)] H27 pBlk fun(x28:Nat) H29=>
 retK (some [(.iface tq302 (pq x28)),.nilIface]) H29 R)
 (forkB (x5==19)
 (callW PP fq164 #[(pq p)] H4 pBlE fun(x30:Nat) H31=>
 retK (some [(.iface tq102 (pq x30)),.nilIface]) H31 R)
 (forkB (x5==18)
 (callW PP fq164 #[(pq p)] H4 pBlE fun(x32:Nat) H33=>
 retK (some [(.iface tq102 (pq x32)),.nilIface]) H33 R)
 (forkB (x5==15)
 (joinPK (Bool×Unit) H4 (fun J34=>
 lw H4 b2 3 pStr fun(x36:ByteArray)=>
 forkB (x36.toList==(bs [116,114,117,101]).toList)
 (J34 (true,()) H4)
 (lw H4 b2 3 pStr fun(x37:ByteArray)=>
 J34 ((x37.toList==(bs [102,97,108,115,101]).toList),()) H4)) fun y35=>
 forkB y35.1
 (callW PP fq149 #[(pq p)] H4 ⟨Unit,fun _=> .nilIface⟩ fun(_:Unit) H39=>
 lw H39 b2 3 pStr fun(x40:ByteArray)=>
 forkB (x40.toList==(bs [102,97,108,115,101]).toList)
 (lw H39 b2 1 (pInt .i64) fun(x41:Int)=>
 callW PP fq141 #[(pq p),(.int .i64 x41)] H39 pBlk fun(x42:Nat) H43=>
 newB H43 (.cells #[(.string (bs [])),(pq x42),(.bool false)] tq306) fun b44 H45=>
 callW PP fq214 #[(pq b44)] H45 pBlk fun(x46:Nat) H47=>
 retK (some [(.iface tq304 (pq x46)),.nilIface]) H47 R)
 (lw H39 b2 1 (pInt .i64) fun(x48:Int)=>
 callW PP fq141 #[(pq p),(.int .i64 x48)] H39 pBlk fun(x49:Nat) H50=>
 newB H50 (.cells #[(.string (bs [])),(pq x49),(.bool true)] tq306) fun b51 H52=>
 callW PP fq214 #[(pq b51)] H52 pBlk fun(x53:Nat) H54=>
 retK (some [(.iface tq304 (pq x53)),.nilIface]) H54 R))
 (lw H4 b2 3 pStr fun(x55:ByteArray)=>
 forkB (!(x55.toList==(bs [110,117,108,108]).toList))
 (callW PP fq149 #[(pq p)] H4 ⟨Unit,fun _=> .nilIface⟩ fun(_:Unit) H57=>
 lw H57 b2 3 pStr fun(x58:ByteArray)=>
 lw H57 b2 1 (pInt .i64) fun(x59:Int)=>
 callW PP fq141 #[(pq p),(.int .i64 x59)] H57 pBlk fun(x60:Nat) H61=>
 lc H61 b2 3 (.string x58)∧
 newB H61 (.cells #[(.string (bs [])),(pq x60),(.string x58)] tq308) fun b62 H63=>
 callW PP fq215 #[(pq b62)] H63 pBlk fun(x64:Nat) H65=>
 retK (some [(.iface tq307 (pq x64)),.nilIface]) H65 R)
 (callW PP fq201 #[(pq p),(.agg #[(.int .i64 0),(.int .i64 0),(.int .i64 0),(.string (bs []))])] H4 ⟨Unit,fun _=> .nilIface⟩ fun(_:Unit) H67=>
 retK (some [.nilIface,.nilIface]) H67 R)))
 (forkB (x5==3)
 (forkB (!c)
 (callW PP fq170 #[(pq p)] H4 pBlE fun(x68:Nat) H69=>
 retK (some [(.iface tq169 (pq x68)),.nilIface]) H69 R)
 (callW PP fq201 #[(pq p),(.agg #[(.int .i64 0),(.int .i64 0),(.int .i64 0),(.string (bs []))])] H4 ⟨Unit,fun _=> .nilIface⟩ fun(_:Unit) H71=>
 retK (some [.nilIface,.nilIface]) H71 R))
 (callW PP fq201 #[(pq p),(.agg #[(.int .i64 0),(.int .i64 0),(.int .i64 0),(.string (bs []))])] H4 ⟨Unit,fun _=> .nilIface⟩ fun(_:Unit) H73=>
 retK (some [.nilIface,.nilIface]) H73 R))))))))
theorem parseValueLiteral.enter (p:Nat) (c:Bool) (H:Heap) (R:RR) (h:parseValueLiteral.W p c H R):Fn PP fq171 #[(pq p),(.bool c)] H R:=
 fnS mixed Tryz.func171 ⟨patL [(15,pTk),(17,(pInt .i64)),(22,pBlE),(30,pBlE),(37,⟨Unit,fun _=> .nilIface⟩),(42,pStr),(45,(pInt .i64)),(46,pBlk),(49,pBlk),(54,⟨Unit,fun _=> .nilIface⟩),(59,pStr),(62,(pInt .i64)),(63,pBlk),(66,pBlk),(72,pBlE),(79,pStr),(83,pStr),(87,⟨Unit,fun _=> .nilIface⟩),(92,pStr),(97,(pInt .i64)),(98,pBlk),(101,pBlk),(104,pStr),(107,⟨Unit,fun _=> .nilIface⟩),(112,pStr),(115,(pInt .i64)),(116,pBlk),(119,pBlk),(126,pBlE),(132,⟨Unit,fun _=> .nilIface⟩)],loopL [],joinL [],joinL [],joinRL [(21,[Slot.bool 85],true)]⟩ _ H R (Eq.mp (by unfold parseValueLiteral.W;kernel_rfl) h)
def parseConstValue.W (p:Nat) (H:Heap) (R:RR):Prop:=
 callW PP fq171 #[(pq p),(.bool true)] H pIfE fun(x1:(Nat×Nat)) H2=>
 retK (some [(.iface x1.1 (pq x1.2)),.nilIface]) H2 R
theorem parseConstValue.enter (p:Nat) (H:Heap) (R:RR) (h:parseConstValue.W p H R):Fn PP fq154 #[(pq p)] H R:=
 fnS mixed Tryz.func154 (hz [(8,pIfE)]) _ H R (Eq.mp (by unfold parseConstValue.W;kernel_rfl) h)
def parseValueValue.W (p:Nat) (H:Heap) (R:RR):Prop:=
 callW PP fq171 #[(pq p),(.bool false)] H pIfE fun(x1:(Nat×Nat)) H2=>
 retK (some [(.iface x1.1 (pq x1.2)),.nilIface]) H2 R
theorem parseValueValue.enter (p:Nat) (H:Heap) (R:RR) (h:parseValueValue.W p H R):Fn PP fq233 #[(pq p)] H R:=
 fnS mixed Tryz.func233 (hz [(5,pIfE)]) _ H R (Eq.mp (by unfold parseValueValue.W;kernel_rfl) h)
def parseList.W (p:Nat) (c:Bool) (H:Heap) (R:RR):Prop:=
 lw H p 6 (pInt .i64) fun(x1:Int)=>
 forkB c
 (newB H (.cells #[] tq173) fun b2 H3=>
 callW PP fq139 #[(pq p),(.int .i64 10),(.func (.func fq154) #[] #[]),(.int .i64 11),(.bool false)] H3 pSlE fun(x4:Sl) H5=>
 loopK (Sl×Int×Unit) (((some ⟨b2,0,none⟩),0,0),0,()) H5 fun z6 H7 next8=>
 forkB (decide (z6.2.1<((x4.2.1:Nat):Int)))
 ((IxOk x4.1 z6.2.1 x4.2.1)∧
 loadW H7 false 1 ⟨(blkOf x4.1),(offOf x4.1+z6.2.1.toNat*1),none⟩ pIf fun(x9:(Nat×Nat))=>
 asW PP (.iface x9.1 (pq x9.2)) tq20 tq173 false (
 newB H7 (.cells #[(.iface x9.1 (pq x9.2))] tq173) fun b10 H11=>
 appK H11 tq173 1 16 z6.1.1 z6.1.2.1 z6.1.2.2 (some ⟨b10,0,none⟩) 1 fun a12 c13 H14=>
 next8 ((a12,(z6.1.2.1+1),c13),(IntKind.i64.wrap (z6.2.1+1)),()) H14))
 (callW PP fq141 #[(pq p),(.int .i64 x1)] H7 pBlk fun(x15:Nat) H16=>
 newB H16 (.cells #[(.string (bs [])),(pq x15),(.slice z6.1.1 z6.1.2.1 z6.1.2.2)] tq312) fun b17 H18=>
 callW PP fq234 #[(pq b17)] H18 pBlk fun(x19:Nat) H20=>
 retK (some [(pq x19),.nilIface]) H20 R))
 (newB H (.cells #[] tq173) fun b21 H22=>
 callW PP fq139 #[(pq p),(.int .i64 10),(.func (.func fq233) #[] #[]),(.int .i64 11),(.bool false)] H22 pSlE fun(x23:Sl) H24=>
 loopK (Sl×Int×Unit) (((some ⟨b21,0,none⟩),0,0),0,()) H24 fun z25 H26 next27=>
 forkB (decide (z25.2.1<((x23.2.1:Nat):Int)))
 ((IxOk x23.1 z25.2.1 x23.2.1)∧
 loadW H26 false 1 ⟨(blkOf x23.1),(offOf x23.1+z25.2.1.toNat*1),none⟩ pIf fun(x28:(Nat×Nat))=>
 asW PP (.iface x28.1 (pq x28.2)) tq20 tq173 false (
 newB H26 (.cells #[(.iface x28.1 (pq x28.2))] tq173) fun b29 H30=>
 appK H30 tq173 1 16 z25.1.1 z25.1.2.1 z25.1.2.2 (some ⟨b29,0,none⟩) 1 fun a31 c32 H33=>
 next27 ((a31,(z25.1.2.1+1),c32),(IntKind.i64.wrap (z25.2.1+1)),()) H33))
 (callW PP fq141 #[(pq p),(.int .i64 x1)] H26 pBlk fun(x34:Nat) H35=>
 newB H35 (.cells #[(.string (bs [])),(pq x34),(.slice z25.1.1 z25.1.2.1 z25.1.2.2)] tq312) fun b36 H37=>
 callW PP fq234 #[(pq b36)] H37 pBlk fun(x38:Nat) H39=>
 retK (some [(pq x38),.nilIface]) H39 R))
theorem parseList.enter (p:Nat) (c:Bool) (H:Heap) (R:RR) (h:parseList.W p c H R):Fn PP fq210 #[(pq p),(.bool c)] H R:=
 fnS mixed Tryz.func210 ⟨patL [(17,(pInt .i64)),(23,pSlE),(34,pIf),(44,pBlk),(47,pBlk)],loopL [(0,[Slot.slc 8,Slot.int .i64 31])],joinL [],joinL [],joinRL []⟩ _ H R (Eq.mp (by unfold parseList.W;kernel_rfl) h)
def parseObject.W (p:Nat) (c:Bool) (H:Heap) (R:RR):Prop:=
 lw H p 6 (pInt .i64) fun(x1:Int)=>
 callW PP fq143 #[(pq p),(.int .i64 12)] H pTkE fun(x2:Int×Int×Int×ByteArray) H3=>
 newB H3 (.cells #[(.int .i64 0),(.int .i64 0),(.int .i64 0),(.string (bs []))] tq85) fun b4 H5=>
 storeW H5 ⟨b4,0,none⟩ [(.int .i64 x2.1),(.int .i64 x2.2.1),(.int .i64 x2.2.2.1),(.string x2.2.2.2)] fun H6=>
 newB H6 (.cells #[] tq317) fun b7 H8=>
 loopK (Sl×Unit) (((some ⟨b7,0,none⟩),0,0),()) H8 fun z9 H10 next11=>
 callW PP fq150 #[(pq p),(.int .i64 14)] H10 pBoE fun(x12:Bool) H13=>
 forkB x12
 (callW PP fq141 #[(pq p),(.int .i64 x1)] H13 pBlk fun(x14:Nat) H15=>
 newB H15 (.cells #[(.string (bs [])),(pq x14),(.slice z9.1.1 z9.1.2.1 z9.1.2.2)] tq316) fun b16 H17=>
 callW PP fq236 #[(pq b16)] H17 pBlk fun(x18:Nat) H19=>
 retK (some [(pq x18),.nilIface]) H19 R)
 (callW PP fq235 #[(pq p),(.bool c)] H13 pBlE fun(x20:Nat) H21=>
 newB H21 (.cells #[(pq x20)] tq317) fun b22 H23=>
 appK H23 tq317 1 8 z9.1.1 z9.1.2.1 z9.1.2.2 (some ⟨b22,0,none⟩) 1 fun a24 c25 H26=>
 next11 ((a24,(z9.1.2.1+1),c25),()) H26)
theorem parseObject.enter (p:Nat) (c:Bool) (H:Heap) (R:RR) (h:parseObject.W p c H R):Fn PP fq211 #[(pq p),(.bool c)] H R:=
 fnS mixed Tryz.func211 ⟨patL [(18,(pInt .i64)),(21,pTkE),(30,pBoE),(40,pBlE),(53,pBlk),(56,pBlk)],loopL [(0,[Slot.slc 9])],joinL [],joinL [],joinRL []⟩ _ H R (Eq.mp (by unfold parseObject.W;kernel_rfl) h)
def parseObjectField.W (p:Nat) (c:Bool) (H:Heap) (R:RR):Prop:=
 lw H p 6 (pInt .i64) fun(x1:Int)=>
 callW PP fq146 #[(pq p)] H pBlE fun(x2:Nat) H3=>
 callW PP fq143 #[(pq p),(.int .i64 7)] H3 pTkE fun(_x4:Int×Int×Int×ByteArray) H5=>
 callW PP fq171 #[(pq p),(.bool c)] H5 pIfE fun(x6:(Nat×Nat)) H7=>
 callW PP fq141 #[(pq p),(.int .i64 x1)] H7 pBlk fun(x8:Nat) H9=>
 newB H9 (.cells #[(.string (bs [])),(pq x2),(pq x8),(.iface x6.1 (pq x6.2))] tq319) fun b10 H11=>
 callW PP fq248 #[(pq b10)] H11 pBlk fun(x12:Nat) H13=>
 retK (some [(pq x12),.nilIface]) H13 R
theorem parseObjectField.enter (p:Nat) (c:Bool) (H:Heap) (R:RR) (h:parseObjectField.W p c H R):Fn PP fq235 #[(pq p),(.bool c)] H R:=
 fnS mixed Tryz.func235 (hz [(14,(pInt .i64)),(17,pBlE),(25,pTkE),(34,pIfE),(44,pBlk),(47,pBlk)]) _ H R (Eq.mp (by unfold parseObjectField.W;kernel_rfl) h)
def ppart.W (p:Nat) (name:ByteArray) (H:Heap) (R:RR):Prop:=
 forkB (name.toList==(bs [115,99,104,101,109,97]).toList)
 (callW PP fq88 #[(pq p)] H ⟨Nat,fun x=>(.tuple #[(.iface tq218 (pq x)),.nilIface])⟩ fun(x1:Nat) H2=>
 callW PP fq87 #[(.iface tq218 (pq x1)),.nilIface] H2 pSlE fun(x3:Sl) H4=>
 retK (some [(.slice x3.1 x3.2.1 x3.2.2),.nilIface]) H4 R)
 (forkB (name.toList==(bs [111,112,101,114,97,116,105,111,110,32,116,121,112,101]).toList)
 (callW PP fq89 #[(pq p)] H ⟨Nat,fun x=>(.tuple #[(.iface tq104 (pq x)),.nilIface])⟩ fun(x5:Nat) H6=>
 callW PP fq87 #[(.iface tq104 (pq x5)),.nilIface] H6 pSlE fun(x7:Sl) H8=>
 retK (some [(.slice x7.1 x7.2.1 x7.2.2),.nilIface]) H8 R)
 (forkB (name.toList==(bs [115,99,97,108,97,114]).toList)
 (callW PP fq90 #[(pq p)] H ⟨Nat,fun x=>(.tuple #[(.iface tq231 (pq x)),.nilIface])⟩ fun(x9:Nat) H10=>
 callW PP fq87 #[(.iface tq231 (pq x9)),.nilIface] H10 pSlE fun(x11:Sl) H12=>
 retK (some [(.slice x11.1 x11.2.1 x11.2.2),.nilIface]) H12 R)
 (forkB (name.toList==(bs [116,121,112,101]).toList)
 (callW PP fq91 #[(pq p)] H ⟨Nat,fun x=>(.tuple #[(.iface tq235 (pq x)),.nilIface])⟩ fun(x13:Nat) H14=>
 callW PP fq87 #[(.iface tq235 (pq x13)),.nilIface] H14 pSlE fun(x15:Sl) H16=>
 retK (some [(.slice x15.1 x15.2.1 x15.2.2),.nilIface]) H16 R)
 (forkB (name.toList==(bs [105,109,112,108,101,109,101,110,116,115]).toList)
 (callW PP fq93 #[(pq p)] H pSlE fun(x17:Sl) H18=>
 callW PP fq92 #[(.slice x17.1 x17.2.1 x17.2.2),.nilIface] H18 pSlE fun(x19:Sl) H20=>
 retK (some [(.slice x19.1 x19.2.1 x19.2.2),.nilIface]) H20 R)
 (forkB (name.toList==(bs [102,105,101,108,100,32,100,101,102,105,110,105,116,105,111,110]).toList)
 (callW PP fq94 #[(pq p)] H ⟨Nat,fun x=>(.tuple #[(.iface tq117 (pq x)),.nilIface])⟩ fun(x21:Nat) H22=>
 callW PP fq87 #[(.iface tq117 (pq x21)),.nilIface] H22 pSlE fun(x23:Sl) H24=>
 retK (some [(.slice x23.1 x23.2.1 x23.2.2),.nilIface]) H24 R)
 (forkB (name.toList==(bs [97,114,103,117,109,101,110,116,32,100,101,102,105,110,105,116,105,111,110,115]).toList)
 (callW PP fq96 #[(pq p)] H pSlE fun(x25:Sl) H26=>
 callW PP fq95 #[(.slice x25.1 x25.2.1 x25.2.2),.nilIface] H26 pSlE fun(x27:Sl) H28=>
 retK (some [(.slice x27.1 x27.2.1 x27.2.2),.nilIface]) H28 R)
 (forkB (name.toList==(bs [105,110,112,117,116,32,118,97,108,117,101]).toList)
 (callW PP fq97 #[(pq p)] H ⟨Nat,fun x=>(.tuple #[(.iface tq120 (pq x)),.nilIface])⟩ fun(x29:Nat) H30=>
 callW PP fq87 #[(.iface tq120 (pq x29)),.nilIface] H30 pSlE fun(x31:Sl) H32=>
 retK (some [(.slice x31.1 x31.2.1 x31.2.2),.nilIface]) H32 R)
 (forkB (name.toList==(bs [105,110,116,101,114,102,97,99,101]).toList)
 (callW PP fq98 #[(pq p)] H ⟨Nat,fun x=>(.tuple #[(.iface tq248 (pq x)),.nilIface])⟩ fun(x33:Nat) H34=>
 callW PP fq87 #[(.iface tq248 (pq x33)),.nilIface] H34 pSlE fun(x35:Sl) H36=>
 retK (some [(.slice x35.1 x35.2.1 x35.2.2),.nilIface]) H36 R)
 (forkB (name.toList==(bs [117,110,105,111,110]).toList)
 (callW PP fq99 #[(pq p)] H ⟨Nat,fun x=>(.tuple #[(.iface tq252 (pq x)),.nilIface])⟩ fun(x37:Nat) H38=>
 callW PP fq87 #[(.iface tq252 (pq x37)),.nilIface] H38 pSlE fun(x39:Sl) H40=>
 retK (some [(.slice x39.1 x39.2.1 x39.2.2),.nilIface]) H40 R)
 (forkB (name.toList==(bs [109,101,109,98,101,114,115]).toList)
 (callW PP fq100 #[(pq p)] H pSlE fun(x41:Sl) H42=>
 callW PP fq92 #[(.slice x41.1 x41.2.1 x41.2.2),.nilIface] H42 pSlE fun(x43:Sl) H44=>
 retK (some [(.slice x43.1 x43.2.1 x43.2.2),.nilIface]) H44 R)
 (forkB (name.toList==(bs [101,110,117,109]).toList)
 (callW PP fq101 #[(pq p)] H ⟨Nat,fun x=>(.tuple #[(.iface tq257 (pq x)),.nilIface])⟩ fun(x45:Nat) H46=>
 callW PP fq87 #[(.iface tq257 (pq x45)),.nilIface] H46 pSlE fun(x47:Sl) H48=>
 retK (some [(.slice x47.1 x47.2.1 x47.2.2),.nilIface]) H48 R)
 (forkB (name.toList==(bs [101,110,117,109,32,118,97,108,117,101]).toList)
 (callW PP fq102 #[(pq p)] H ⟨Nat,fun x=>(.tuple #[(.iface tq123 (pq x)),.nilIface])⟩ fun(x49:Nat) H50=>
 callW PP fq87 #[(.iface tq123 (pq x49)),.nilIface] H50 pSlE fun(x51:Sl) H52=>
 retK (some [(.slice x51.1 x51.2.1 x51.2.2),.nilIface]) H52 R)
 (forkB (name.toList==(bs [105,110,112,117,116]).toList)
 (callW PP fq103 #[(pq p)] H ⟨Nat,fun x=>(.tuple #[(.iface tq262 (pq x)),.nilIface])⟩ fun(x53:Nat) H54=>
 callW PP fq87 #[(.iface tq262 (pq x53)),.nilIface] H54 pSlE fun(x55:Sl) H56=>
 retK (some [(.slice x55.1 x55.2.1 x55.2.2),.nilIface]) H56 R)
 (forkB (name.toList==(bs [101,120,116,101,110,100]).toList)
 (callW PP fq104 #[(pq p)] H ⟨Nat,fun x=>(.tuple #[(.iface tq266 (pq x)),.nilIface])⟩ fun(x57:Nat) H58=>
 callW PP fq87 #[(.iface tq266 (pq x57)),.nilIface] H58 pSlE fun(x59:Sl) H60=>
 retK (some [(.slice x59.1 x59.2.1 x59.2.2),.nilIface]) H60 R)
 (forkB (name.toList==(bs [100,105,114,101,99,116,105,118,101,32,100,101,102,105,110,105,116,105,111,110]).toList)
 (callW PP fq105 #[(pq p)] H ⟨Nat,fun x=>(.tuple #[(.iface tq270 (pq x)),.nilIface])⟩ fun(x61:Nat) H62=>
 callW PP fq87 #[(.iface tq270 (pq x61)),.nilIface] H62 pSlE fun(x63:Sl) H64=>
 retK (some [(.slice x63.1 x63.2.1 x63.2.2),.nilIface]) H64 R)
 (forkB (name.toList==(bs [108,111,99,97,116,105,111,110,115]).toList)
 (callW PP fq107 #[(pq p)] H pSlE fun(x65:Sl) H66=>
 callW PP fq106 #[(.slice x65.1 x65.2.1 x65.2.2),.nilIface] H66 pSlE fun(x67:Sl) H68=>
 retK (some [(.slice x67.1 x67.2.1 x67.2.2),.nilIface]) H68 R)
 (forkB (name.toList==(bs [100,101,115,99,114,105,112,116,105,111,110]).toList)
 (callW PP fq108 #[(pq p)] H ⟨Option Addr,fun x=>(.tuple #[(.pointer x),.nilIface])⟩ fun(x69:Option Addr) H70=>
 callW PP fq87 #[(.iface tq102 (.pointer x69)),.nilIface] H70 pSlE fun(x71:Sl) H72=>
 retK (some [(.slice x71.1 x71.2.1 x71.2.2),.nilIface]) H72 R)
 (forkB (name.toList==(bs [111,112,101,114,97,116,105,111,110]).toList)
 (callW PP fq109 #[(pq p)] H ⟨Nat,fun x=>(.tuple #[(.iface tq200 (pq x)),.nilIface])⟩ fun(x73:Nat) H74=>
 callW PP fq87 #[(.iface tq200 (pq x73)),.nilIface] H74 pSlE fun(x75:Sl) H76=>
 retK (some [(.slice x75.1 x75.2.1 x75.2.2),.nilIface]) H76 R)
 (forkB (name.toList==(bs [102,114,97,103,109,101,110,116]).toList)
 (callW PP fq110 #[(pq p)] H ⟨Nat,fun x=>(.tuple #[(.iface tq203 (pq x)),.nilIface])⟩ fun(x77:Nat) H78=>
 callW PP fq87 #[(.iface tq203 (pq x77)),.nilIface] H78 pSlE fun(x79:Sl) H80=>
 retK (some [(.slice x79.1 x79.2.1 x79.2.2),.nilIface]) H80 R)
 (forkB (name.toList==(bs [118,97,114,105,97,98,108,101]).toList)
 (callW PP fq111 #[(pq p)] H ⟨Nat,fun x=>(.tuple #[(.iface tq93 (pq x)),.nilIface])⟩ fun(x81:Nat) H82=>
 callW PP fq87 #[(.iface tq93 (pq x81)),.nilIface] H82 pSlE fun(x83:Sl) H84=>
 retK (some [(.slice x83.1 x83.2.1 x83.2.2),.nilIface]) H84 R)
 (forkB (name.toList==(bs [102,105,101,108,100]).toList)
 (callW PP fq112 #[(pq p)] H pBlE fun(x85:Nat) H86=>
 callW PP fq87 #[(.iface tq126 (pq x85)),.nilIface] H86 pSlE fun(x87:Sl) H88=>
 retK (some [(.slice x87.1 x87.2.1 x87.2.2),.nilIface]) H88 R)
 (forkB (name.toList==(bs [115,112,114,101,97,100]).toList)
 (callW PP fq113 #[(pq p)] H pIfE fun(x89:(Nat×Nat)) H90=>
 callW PP fq87 #[(.iface x89.1 (pq x89.2)),.nilIface] H90 pSlE fun(x91:Sl) H92=>
 retK (some [(.slice x91.1 x91.2.1 x91.2.2),.nilIface]) H92 R)
 (forkB (name.toList==(bs [97,114,103,117,109,101,110,116]).toList)
 (callW PP fq114 #[(pq p)] H ⟨Nat,fun x=>(.tuple #[(.iface tq96 (pq x)),.nilIface])⟩ fun(x93:Nat) H94=>
 callW PP fq87 #[(.iface tq96 (pq x93)),.nilIface] H94 pSlE fun(x95:Sl) H96=>
 retK (some [(.slice x95.1 x95.2.1 x95.2.2),.nilIface]) H96 R)
 (forkB (name.toList==(bs [100,105,114,101,99,116,105,118,101]).toList)
 (callW PP fq115 #[(pq p)] H pBlE fun(x97:Nat) H98=>
 callW PP fq87 #[(.iface tq99 (pq x97)),.nilIface] H98 pSlE fun(x99:Sl) H100=>
 retK (some [(.slice x99.1 x99.2.1 x99.2.2),.nilIface]) H100 R)
 (callW PP fq116 #[] H ⟨Unit,fun _=> .nilIface⟩ fun(_:Unit) H102=>
 retK (some [(.slice none 0 0),.nilIface]) H102 R)))))))))))))))))))))))))
theorem ppart.enter (p:Nat) (name:ByteArray) (H:Heap) (R:RR) (h:ppart.W p name H R):Fn PP fq62 #[(pq p),(.string name)] H R:=
 fnS mixed Tryz.func62 (hz [(10,⟨Nat,fun x=>(.tuple #[(.iface tq218 (pq x)),.nilIface])⟩),(13,pSlE),(19,⟨Nat,fun x=>(.tuple #[(.iface tq104 (pq x)),.nilIface])⟩),(22,pSlE),(28,⟨Nat,fun x=>(.tuple #[(.iface tq231 (pq x)),.nilIface])⟩),(31,pSlE),(37,⟨Nat,fun x=>(.tuple #[(.iface tq235 (pq x)),.nilIface])⟩),(40,pSlE),(46,pSlE),(49,pSlE),(55,⟨Nat,fun x=>(.tuple #[(.iface tq117 (pq x)),.nilIface])⟩),(58,pSlE),(64,pSlE),(67,pSlE),(73,⟨Nat,fun x=>(.tuple #[(.iface tq120 (pq x)),.nilIface])⟩),(76,pSlE),(82,⟨Nat,fun x=>(.tuple #[(.iface tq248 (pq x)),.nilIface])⟩),(85,pSlE),(91,⟨Nat,fun x=>(.tuple #[(.iface tq252 (pq x)),.nilIface])⟩),(94,pSlE),(100,pSlE),(103,pSlE),(109,⟨Nat,fun x=>(.tuple #[(.iface tq257 (pq x)),.nilIface])⟩),(112,pSlE),(118,⟨Nat,fun x=>(.tuple #[(.iface tq123 (pq x)),.nilIface])⟩),(121,pSlE),(127,⟨Nat,fun x=>(.tuple #[(.iface tq262 (pq x)),.nilIface])⟩),(130,pSlE),(136,⟨Nat,fun x=>(.tuple #[(.iface tq266 (pq x)),.nilIface])⟩),(139,pSlE),(145,⟨Nat,fun x=>(.tuple #[(.iface tq270 (pq x)),.nilIface])⟩),(148,pSlE),(154,pSlE),(157,pSlE),(163,⟨Option Addr,fun x=>(.tuple #[(.pointer x),.nilIface])⟩),(167,pSlE),(173,⟨Nat,fun x=>(.tuple #[(.iface tq200 (pq x)),.nilIface])⟩),(176,pSlE),(182,⟨Nat,fun x=>(.tuple #[(.iface tq203 (pq x)),.nilIface])⟩),(185,pSlE),(191,⟨Nat,fun x=>(.tuple #[(.iface tq93 (pq x)),.nilIface])⟩),(194,pSlE),(200,pBlE),(204,pSlE),(210,pIfE),(213,pSlE),(219,⟨Nat,fun x=>(.tuple #[(.iface tq96 (pq x)),.nilIface])⟩),(222,pSlE),(228,pBlE),(232,pSlE),(235,⟨Unit,fun _=> .nilIface⟩)]) _ H R (Eq.mp (by unfold ppart.W;kernel_rfl) h)
end Go.Vx
