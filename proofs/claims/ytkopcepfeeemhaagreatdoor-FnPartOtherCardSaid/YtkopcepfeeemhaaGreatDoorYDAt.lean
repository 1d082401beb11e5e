/- A part of the proof of what the last text of this claim says: WB3. Conditions: none. -/
import Derived.Test.YtkopcepfeeemhaaGreatDoorYDAc
namespace Go.Vx
open Go Go.Proofs
set_option maxRecDepth 100000
def k1q.W (f:FuncId) (p:Nat) (ok:Int) (ck:Int) (z:Bool) (H:Heap) (R:RR):Prop:=
 k00 PP fq143 #[(pq p),(.int .i64 ok)] H pTkE fun(x1:Int×Int×Int×BA) H2=>
 newB H2 (.cells #[(.int .i64 0),(.int .i64 0),(.int .i64 0),sE] tq85) fun b3 H4=>
 k08 H4 ⟨b3,0,none⟩ [(.int .i64 x1.1),(.int .i64 x1.2.1),(.int .i64 x1.2.2.1),(.string x1.2.2.2)] fun H5=>
 k0e (Sl×Unit) ((none,0,0),()) H5 fun z6 H7 next8=>
 k00 PP fq150 #[(pq p),(.int .i64 ck)] H7 pBoE fun(x9:Bool) H10=>
 k02 x9
 (k0j (Bool×Unit) H10 (fun J11=>
 k02 z
 (J11 ((((z6.1.2.1:Nat):Int)==0),()) H10)
 (J11 (false,()) H10)) fun y12=>
 k02 y12.1
 (lw H10 b3 1 (pInt .i64) fun(x13:Int)=>
 k00 PP fq199 #[(pq p),(.int .i64 x13),(.int .i64 ok),(.int .i64 ck)] H10 ⟨Unit,fun _=>nI⟩ fun(_:Unit) H15=>
 rk [(.slice z6.1.1 z6.1.2.1 z6.1.2.2),nI] H15 R)
 (rk [(.slice z6.1.1 z6.1.2.1 z6.1.2.2),nI] H10 R))
 (k00 PP f #[(pq p)] H10 pIfE fun(x16:(Nat×Nat)) H17=>
 newB H17 (.cells #[(.iface x16.1 (pq x16.2))] tq20) fun b18 H19=>
 appK H19 tq20 1 16 z6.1.1 z6.1.2.1 z6.1.2.2 (some ⟨b18,0,none⟩) 1 fun a20 c21 H22=>
 next8 ((a20,(z6.1.2.1+1),c21),()) H22)
abbrev k1q.E (gg:FuncId):Prop:= ∀(p:Nat) (ok:Int) (ck:Int) (z:Bool) (H:Heap) (R:RR),k1q.W gg p ok ck z H R→Fn PP fq139 #[(pq p),(.int .i64 ok),(.func (.func gg) #[] #[]),(.int .i64 ck),(.bool z)] H R
abbrev k1q.h:Hints:=⟨patL [(22,pTkE),(31,pBoE),(41,pIfE),(61,(pInt .i64)),(64,⟨Unit,fun _=>nI⟩)],k06 [(0,[Slot.slc 14])],k03 [],k03 [],k05 [(13,[Slot.bool 57],true)]⟩
theorem kjJ.enter:k1q.E fq114:=fun p ok ck z H R h=>fnE Tryz.func139 k1q.h (by unfold k1q.W;kernel_rfl) h
theorem kjP.enter:k1q.E fq111:=fun p ok ck z H R h=>fnE Tryz.func139 k1q.h (by unfold k1q.W;kernel_rfl) h
theorem kjN.enter:k1q.E fq207:=fun p ok ck z H R h=>fnE Tryz.func139 k1q.h (by unfold k1q.W;kernel_rfl) h
theorem kjK.enter:k1q.E fq154:=fun p ok ck z H R h=>fnE Tryz.func139 k1q.h (by unfold k1q.W;kernel_rfl) h
theorem kjO.enter:k1q.E fq233:=fun p ok ck z H R h=>fnE Tryz.func139 k1q.h (by unfold k1q.W;kernel_rfl) h
theorem kdO.enter:k1q.E fq94:=fun p ok ck z H R h=>fnE Tryz.func139 k1q.h (by unfold k1q.W;kernel_rfl) h
theorem kdP.enter:k1q.E fq97:=fun p ok ck z H R h=>fnE Tryz.func139 k1q.h (by unfold k1q.W;kernel_rfl) h
theorem kjL.enter:k1q.E fq102:=fun p ok ck z H R h=>fnE Tryz.func139 k1q.h (by unfold k1q.W;kernel_rfl) h
theorem kjM.enter:k1q.E fq89:=fun p ok ck z H R h=>fnE Tryz.func139 k1q.h (by unfold k1q.W;kernel_rfl) h
def parseInputValueDef.W (p:Nat) (H:Heap) (R:RR):Prop:=
 lw H p 6 (pInt .i64) fun(x1:Int)=>
 k00 PP fq108 #[(pq p)] H ⟨OA,fun x=>(.tuple #[(.pointer x),nI])⟩ fun(x2:OA) H3=>
 k00 PP fq146 #[(pq p)] H3 pBlE fun(x4:Nat) H5=>
 k00 PP fq143 #[(pq p),(.int .i64 7)] H5 pTkE fun(_x6:Int×Int×Int×BA) H7=>
 k00 PP fq151 #[(pq p)] H7 pIfE fun(x8:(Nat×Nat)) H9=>
 k00 PP fq150 #[(pq p),(.int .i64 8)] H9 pBoE fun(x10:Bool) H11=>
 k02 x10
 (k00 PP fq154 #[(pq p)] H11 pIfE fun(x12:(Nat×Nat)) H13=>
 asW PP (.iface x12.1 (pq x12.2)) tq20 tq173 true (
 k00 PP fq138 #[(pq p)] H13 pSlE fun(x14:Sl) H15=>
 k00 PP fq141 #[(pq p),(.int .i64 x1)] H15 pBlk fun(x16:Nat) H17=>
 newB H17 (.cells #[sE,(pq x16),(pq x4),(.pointer x2),(.iface x8.1 (pq x8.2)),(.iface x12.1 (pq x12.2)),(.slice x14.1 x14.2.1 x14.2.2)] tq189) fun b18 H19=>
 k00 PP fq155 #[(pq b18)] H19 pBlk fun(x20:Nat) H21=>
 rk [(.iface tq120 (pq x20)),nI] H21 R))
 (k00 PP fq138 #[(pq p)] H11 pSlE fun(x22:Sl) H23=>
 k00 PP fq141 #[(pq p),(.int .i64 x1)] H23 pBlk fun(x24:Nat) H25=>
 newB H25 (.cells #[sE,(pq x24),(pq x4),(.pointer x2),(.iface x8.1 (pq x8.2)),nI,(.slice x22.1 x22.2.1 x22.2.2)] tq189) fun b26 H27=>
 k00 PP fq155 #[(pq b26)] H27 pBlk fun(x28:Nat) H29=>
 rk [(.iface tq120 (pq x28)),nI] H29 R)
theorem parseInputValueDef.enter (p:Nat) (H:Heap) (R:RR) (h:parseInputValueDef.W p H R):Fn PP fq97 #[(pq p)] H R:=
 fnE Tryz.func97 (hz [(21,(pInt .i64)),(24,⟨OA,fun x=>(.tuple #[(.pointer x),nI])⟩),(32,pBlE),(40,pTkE),(48,pIfE),(56,pBoE),(65,pIfE),(80,pSlE),(93,pBlk),(96,pBlk)]) (by unfold parseInputValueDef.W;kernel_rfl) h
def parseVariableDefinition.W (p:Nat) (H:Heap) (R:RR):Prop:=
 lw H p 6 (pInt .i64) fun(x1:Int)=>
 k00 PP fq170 #[(pq p)] H pBlE fun(x2:Nat) H3=>
 k00 PP fq143 #[(pq p),(.int .i64 7)] H3 pTkE fun(_x4:Int×Int×Int×BA) H5=>
 k00 PP fq151 #[(pq p)] H5 pIfE fun(x6:(Nat×Nat)) H7=>
 k00 PP fq150 #[(pq p),(.int .i64 8)] H7 pBoE fun(x8:Bool) H9=>
 k02 x8
 (k00 PP fq171 #[(pq p),(.bool true)] H9 pIfE fun(x10:(Nat×Nat)) H11=>
 k00 PP fq141 #[(pq p),(.int .i64 x1)] H11 pBlk fun(x12:Nat) H13=>
 newB H13 (.cells #[sE,(pq x12),(pq x2),(.iface x6.1 (pq x6.2)),(.iface x10.1 (pq x10.2))] tq175) fun b14 H15=>
 k00 PP fq172 #[(pq b14)] H15 pBlk fun(x16:Nat) H17=>
 rk [(.iface tq93 (pq x16)),nI] H17 R)
 (k00 PP fq141 #[(pq p),(.int .i64 x1)] H9 pBlk fun(x18:Nat) H19=>
 newB H19 (.cells #[sE,(pq x18),(pq x2),(.iface x6.1 (pq x6.2)),nI] tq175) fun b20 H21=>
 k00 PP fq172 #[(pq b20)] H21 pBlk fun(x22:Nat) H23=>
 rk [(.iface tq93 (pq x22)),nI] H23 R)
theorem parseVariableDefinition.enter (p:Nat) (H:Heap) (R:RR) (h:parseVariableDefinition.W p H R):Fn PP fq111 #[(pq p)] H R:=
 fnE Tryz.func111 (hz [(15,(pInt .i64)),(18,pBlE),(26,pTkE),(34,pIfE),(42,pBoE),(51,pIfE),(62,pBlk),(65,pBlk)]) (by unfold parseVariableDefinition.W;kernel_rfl) h
def parseField.W (p:Nat) (H:Heap) (R:RR):Prop:=
 lw H p 6 (pInt .i64) fun(x1:Int)=>
 k00 PP fq146 #[(pq p)] H pBlE fun(x2:Nat) H3=>
 k00 PP fq150 #[(pq p),(.int .i64 7)] H3 pBoE fun(x4:Bool) H5=>
 k02 x4
 (k00 PP fq146 #[(pq p)] H5 pBlE fun(x6:Nat) H7=>
 k00 PP fq173 #[(pq p)] H7 pSlE fun(x8:Sl) H9=>
 k00 PP fq138 #[(pq p)] H9 pSlE fun(x10:Sl) H11=>
 k00 PP fq153 #[(pq p),(.int .i64 12)] H11 k04 fun(x12:Bool) H13=>
 k02 x12
 (k00 PP fq165 #[(pq p)] H13 pBlE fun(x14:Nat) H15=>
 k00 PP fq141 #[(pq p),(.int .i64 x1)] H15 pBlk fun(x16:Nat) H17=>
 newB H17 (.cells #[sE,(pq x16),(pq x2),(pq x6),(.slice x8.1 x8.2.1 x8.2.2),(.slice x10.1 x10.2.1 x10.2.2),(pq x14)] tq194) fun b18 H19=>
 k00 PP fq174 #[(pq b18)] H19 pBlk fun(x20:Nat) H21=>
 rk [(pq x20),nI] H21 R)
 (k00 PP fq141 #[(pq p),(.int .i64 x1)] H13 pBlk fun(x22:Nat) H23=>
 newB H23 (.cells #[sE,(pq x22),(pq x2),(pq x6),(.slice x8.1 x8.2.1 x8.2.2),(.slice x10.1 x10.2.1 x10.2.2),(.pointer none)] tq194) fun b24 H25=>
 k00 PP fq174 #[(pq b24)] H25 pBlk fun(x26:Nat) H27=>
 rk [(pq x26),nI] H27 R))
 (k00 PP fq173 #[(pq p)] H5 pSlE fun(x28:Sl) H29=>
 k00 PP fq138 #[(pq p)] H29 pSlE fun(x30:Sl) H31=>
 k00 PP fq153 #[(pq p),(.int .i64 12)] H31 k04 fun(x32:Bool) H33=>
 k02 x32
 (k00 PP fq165 #[(pq p)] H33 pBlE fun(x34:Nat) H35=>
 k00 PP fq141 #[(pq p),(.int .i64 x1)] H35 pBlk fun(x36:Nat) H37=>
 newB H37 (.cells #[sE,(pq x36),(.pointer none),(pq x2),(.slice x28.1 x28.2.1 x28.2.2),(.slice x30.1 x30.2.1 x30.2.2),(pq x34)] tq194) fun b38 H39=>
 k00 PP fq174 #[(pq b38)] H39 pBlk fun(x40:Nat) H41=>
 rk [(pq x40),nI] H41 R)
 (k00 PP fq141 #[(pq p),(.int .i64 x1)] H33 pBlk fun(x42:Nat) H43=>
 newB H43 (.cells #[sE,(pq x42),(.pointer none),(pq x2),(.slice x28.1 x28.2.1 x28.2.2),(.slice x30.1 x30.2.1 x30.2.2),(.pointer none)] tq194) fun b44 H45=>
 k00 PP fq174 #[(pq b44)] H45 pBlk fun(x46:Nat) H47=>
 rk [(pq x46),nI] H47 R))
theorem parseField.enter (p:Nat) (H:Heap) (R:RR) (h:parseField.W p H R):Fn PP fq112 #[(pq p)] H R:=
 fnE Tryz.func112 (hz [(17,(pInt .i64)),(20,pBlE),(28,pBoE),(38,pBlE),(46,pSlE),(54,pSlE),(61,k04),(64,pBlE),(77,pBlk),(80,pBlk)]) (by unfold parseField.W;kernel_rfl) h
def parseFragment.W (p:Nat) (H:Heap) (R:RR):Prop:=
 lw H p 6 (pInt .i64) fun(x1:Int)=>
 k00 PP fq143 #[(pq p),(.int .i64 6)] H pTkE fun(_x2:Int×Int×Int×BA) H3=>
 k0d (Bool×Unit) (fun J4=>
 k00 PP fq153 #[(pq p),(.int .i64 15)] H3 k04 fun(x7:Bool) H8=>
 k02 x7
 (lw H8 p 8 pStr fun(x9:BA)=>
 J4 ((!(x9.toList==(bs [111,110]).toList)),()) H8)
 (J4 (false,()) H8)) fun y5 H6=>
 k02 y5.1
 (k00 PP fq168 #[(pq p)] H6 pBlE fun(x10:Nat) H11=>
 k00 PP fq138 #[(pq p)] H11 pSlE fun(x12:Sl) H13=>
 k00 PP fq141 #[(pq p),(.int .i64 x1)] H13 pBlk fun(x14:Nat) H15=>
 newB H15 (.cells #[sE,(pq x14),(pq x10),(.slice x12.1 x12.2.1 x12.2.2)] tq197) fun b16 H17=>
 k00 PP fq175 #[(pq b16)] H17 pBlk fun(x18:Nat) H19=>
 rk [(.iface tq128 (pq x18)),nI] H19 R)
 (lw H6 p 8 pStr fun(x20:BA)=>
 k02 (x20.toList==(bs [111,110]).toList)
 (k00 PP fq149 #[(pq p)] H6 ⟨Unit,fun _=>nI⟩ fun(_:Unit) H22=>
 k00 PP fq144 #[(pq p)] H22 pBlE fun(x23:Nat) H24=>
 k00 PP fq138 #[(pq p)] H24 pSlE fun(x25:Sl) H26=>
 k00 PP fq165 #[(pq p)] H26 pBlE fun(x27:Nat) H28=>
 k00 PP fq141 #[(pq p),(.int .i64 x1)] H28 pBlk fun(x29:Nat) H30=>
 newB H30 (.cells #[sE,(pq x29),(pq x23),(.slice x25.1 x25.2.1 x25.2.2),(pq x27)] tq199) fun b31 H32=>
 k00 PP fq176 #[(pq b31)] H32 pBlk fun(x33:Nat) H34=>
 rk [(.iface tq129 (pq x33)),nI] H34 R)
 (k00 PP fq138 #[(pq p)] H6 pSlE fun(x35:Sl) H36=>
 k00 PP fq165 #[(pq p)] H36 pBlE fun(x37:Nat) H38=>
 k00 PP fq141 #[(pq p),(.int .i64 x1)] H38 pBlk fun(x39:Nat) H40=>
 newB H40 (.cells #[sE,(pq x39),(.pointer none),(.slice x35.1 x35.2.1 x35.2.2),(pq x37)] tq199) fun b41 H42=>
 k00 PP fq176 #[(pq b41)] H42 pBlk fun(x43:Nat) H44=>
 rk [(.iface tq129 (pq x43)),nI] H44 R))
theorem parseFragment.enter (p:Nat) (H:Heap) (R:RR) (h:parseFragment.W p H R):Fn PP fq113 #[(pq p)] H R:=
 fnE Tryz.func113 ⟨patL [(19,(pInt .i64)),(22,pTkE),(29,k04),(35,pStr),(40,pBlE),(48,pSlE),(58,pBlk),(61,pBlk),(67,pStr),(70,⟨Unit,fun _=>nI⟩),(76,pBlE),(85,pSlE),(93,pBlE),(104,pBlk),(107,pBlk)],k06 [],k03 [],k03 [],k05 [(6,[Slot.bool 37],false)]⟩ (by unfold parseFragment.W;kernel_rfl) h
def parseFragmentDefinition.W (p:Nat) (H:Heap) (R:RR):Prop:=
 lw H p 6 (pInt .i64) fun(x1:Int)=>
 k00 PP fq137 #[(pq p),(.string (bs [102,114,97,103,109,101,110,116]))] H pTkE fun(x2:Int×Int×Int×BA) H3=>
 newB H3 (.cells #[(.int .i64 0),(.int .i64 0),(.int .i64 0),sE] tq85) fun b4 H5=>
 k08 H5 ⟨b4,0,none⟩ [(.int .i64 x2.1),(.int .i64 x2.2.1),(.int .i64 x2.2.2.1),(.string x2.2.2.2)] fun H6=>
 k00 PP fq168 #[(pq p)] H6 pBlE fun(x7:Nat) H8=>
 k00 PP fq137 #[(pq p),(.string (bs [111,110]))] H8 pTkE fun(_x9:Int×Int×Int×BA) H10=>
 k00 PP fq144 #[(pq p)] H10 pBlE fun(x11:Nat) H12=>
 k00 PP fq138 #[(pq p)] H12 pSlE fun(x13:Sl) H14=>
 k00 PP fq165 #[(pq p)] H14 pBlE fun(x15:Nat) H16=>
 k00 PP fq141 #[(pq p),(.int .i64 x1)] H16 pBlk fun(x17:Nat) H18=>
 newB H18 (.cells #[sE,(pq x17),sE,(pq x7),(.slice none 0 0),(pq x11),(.slice x13.1 x13.2.1 x13.2.2),(pq x15)] tq205) fun b19 H20=>
 k00 PP fq169 #[(pq b19)] H20 pBlk fun(x21:Nat) H22=>
 rk [(.iface tq203 (pq x21)),nI] H22 R
theorem parseFragmentDefinition.enter (p:Nat) (H:Heap) (R:RR) (h:parseFragmentDefinition.W p H R):Fn PP fq110 #[(pq p)] H R:=
 fnE Tryz.func110 (hz [(15,(pInt .i64)),(18,pTkE),(26,pBlE),(34,pTkE),(42,pBlE),(50,pSlE),(58,pBlE),(70,pBlk),(73,pBlk)]) (by unfold parseFragmentDefinition.W;kernel_rfl) h
def parseOperationDefinition.W (p:Nat) (H:Heap) (R:RR):Prop:=
 lw H p 6 (pInt .i64) fun(x1:Int)=>
 k00 PP fq153 #[(pq p),(.int .i64 12)] H k04 fun(x2:Bool) H3=>
 k02 x2
 (k00 PP fq165 #[(pq p)] H3 pBlE fun(x4:Nat) H5=>
 newB H5 (.cells #[] tq99) fun b6 H7=>
 k00 PP fq141 #[(pq p),(.int .i64 x1)] H7 pBlk fun(x8:Nat) H9=>
 newB H9 (.cells #[sE,(pq x8),(.string (bs [113,117,101,114,121])),(.pointer none),(.slice none 0 0),(.slice (some ⟨b6,0,none⟩) 0 0),(pq x4)] tq202) fun b10 H11=>
 k00 PP fq166 #[(pq b10)] H11 pBlk fun(x12:Nat) H13=>
 rk [(.iface tq200 (pq x12)),nI] H13 R)
 (k00 PP fq142 #[(pq p)] H3 ⟨BA,fun x=>(.tuple #[(.string x),nI])⟩ fun(x14:BA) H15=>
 k00 PP fq153 #[(pq p),(.int .i64 15)] H15 k04 fun(x16:Bool) H17=>
 k02 x16
 (k00 PP fq146 #[(pq p)] H17 pBlE fun(x18:Nat) H19=>
 k00 PP fq167 #[(pq p)] H19 pSlE fun(x20:Sl) H21=>
 k00 PP fq138 #[(pq p)] H21 pSlE fun(x22:Sl) H23=>
 k00 PP fq165 #[(pq p)] H23 pBlE fun(x24:Nat) H25=>
 k00 PP fq141 #[(pq p),(.int .i64 x1)] H25 pBlk fun(x26:Nat) H27=>
 newB H27 (.cells #[sE,(pq x26),(.string x14),(pq x18),(.slice x20.1 x20.2.1 x20.2.2),(.slice x22.1 x22.2.1 x22.2.2),(pq x24)] tq202) fun b28 H29=>
 k00 PP fq166 #[(pq b28)] H29 pBlk fun(x30:Nat) H31=>
 rk [(.iface tq200 (pq x30)),nI] H31 R)
 (k00 PP fq167 #[(pq p)] H17 pSlE fun(x32:Sl) H33=>
 k00 PP fq138 #[(pq p)] H33 pSlE fun(x34:Sl) H35=>
 k00 PP fq165 #[(pq p)] H35 pBlE fun(x36:Nat) H37=>
 k00 PP fq141 #[(pq p),(.int .i64 x1)] H37 pBlk fun(x38:Nat) H39=>
 newB H39 (.cells #[sE,(pq x38),(.string x14),(.pointer none),(.slice x32.1 x32.2.1 x32.2.2),(.slice x34.1 x34.2.1 x34.2.2),(pq x36)] tq202) fun b40 H41=>
 k00 PP fq166 #[(pq b40)] H41 pBlk fun(x42:Nat) H43=>
 rk [(.iface tq200 (pq x42)),nI] H43 R))
theorem parseOperationDefinition.enter (p:Nat) (H:Heap) (R:RR) (h:parseOperationDefinition.W p H R):Fn PP fq109 #[(pq p)] H R:=
 fnE Tryz.func109 (hz [(17,(pInt .i64)),(19,k04),(22,pBlE),(32,pBlk),(35,pBlk),(39,⟨BA,fun x=>(.tuple #[(.string x),nI])⟩),(46,k04),(49,pBlE),(57,pSlE),(65,pSlE),(73,pBlE),(86,pBlk),(89,pBlk)]) (by unfold parseOperationDefinition.W;kernel_rfl) h
def parseArgument.W (p:Nat) (H:Heap) (R:RR):Prop:=
 lw H p 6 (pInt .i64) fun(x1:Int)=>
 k00 PP fq146 #[(pq p)] H pBlE fun(x2:Nat) H3=>
 k00 PP fq143 #[(pq p),(.int .i64 7)] H3 pTkE fun(_x4:Int×Int×Int×BA) H5=>
 k00 PP fq171 #[(pq p),(.bool false)] H5 pIfE fun(x6:(Nat×Nat)) H7=>
 k00 PP fq141 #[(pq p),(.int .i64 x1)] H7 pBlk fun(x8:Nat) H9=>
 newB H9 (.cells #[sE,(pq x8),(pq x2),(.iface x6.1 (pq x6.2))] tq180) fun b10 H11=>
 k00 PP fq177 #[(pq b10)] H11 pBlk fun(x12:Nat) H13=>
 rk [(.iface tq96 (pq x12)),nI] H13 R
theorem parseArgument.enter (p:Nat) (H:Heap) (R:RR) (h:parseArgument.W p H R):Fn PP fq114 #[(pq p)] H R:=
 fnE Tryz.func114 (hz [(12,(pInt .i64)),(15,pBlE),(23,pTkE),(31,pIfE),(41,pBlk),(44,pBlk)]) (by unfold parseArgument.W;kernel_rfl) h
def parseSelection.W (p:Nat) (H:Heap) (R:RR):Prop:=
 k00 PP fq153 #[(pq p),(.int .i64 6)] H k04 fun(x1:Bool) H2=>
 k02 x1
 (k00 PP fq113 #[(pq p)] H2 pIfE fun(x3:(Nat×Nat)) H4=>
 rk [(.iface x3.1 (pq x3.2)),nI] H4 R)
 (k00 PP fq112 #[(pq p)] H2 pBlE fun(x5:Nat) H6=>
 rk [(.iface tq126 (pq x5)),nI] H6 R)
theorem parseSelection.enter (p:Nat) (H:Heap) (R:RR) (h:parseSelection.W p H R):Fn PP fq207 #[(pq p)] H R:=
 fnE Tryz.func207 (hz [(5,k04),(7,pIfE),(11,pBlE)]) (by unfold parseSelection.W;kernel_rfl) h
def parseSchemaDefinition.W (p:Nat) (H:Heap) (R:RR):Prop:=
 lw H p 6 (pInt .i64) fun(x1:Int)=>
 k00 PP fq137 #[(pq p),(.string (bs [115,99,104,101,109,97]))] H pTkE fun(x2:Int×Int×Int×BA) H3=>
 newB H3 (.cells #[(.int .i64 0),(.int .i64 0),(.int .i64 0),sE] tq85) fun b4 H5=>
 k08 H5 ⟨b4,0,none⟩ [(.int .i64 x2.1),(.int .i64 x2.2.1),(.int .i64 x2.2.2.1),(.string x2.2.2.2)] fun H6=>
 k00 PP fq138 #[(pq p)] H6 pSlE fun(x7:Sl) H8=>
 k00 PP fq139 #[(pq p),(.int .i64 12),(.func (.func fq89) #[] #[]),(.int .i64 14),(.bool true)] H8 pSlE fun(x9:Sl) H10=>
 newB H10 (.cells #[] tq104) fun b11 H12=>
 k0e (Sl×Int×Unit) (((some ⟨b11,0,none⟩),0,0),0,()) H12 fun z13 H14 next15=>
 k02 (decide (z13.2.1<((x9.2.1:Nat):Int)))
 ((IxOk x9.1 z13.2.1 x9.2.1)∧
 k01 H14 false 1 ⟨(k0c x9.1),(k0b x9.1+z13.2.1.toNat*1),none⟩ ⟨Nat,fun x=>(.iface tq104 (pq x))⟩ fun(x16:Nat)=>
 newB H14 (.cells #[(pq x16)] tq104) fun b17 H18=>
 appK H18 tq104 1 8 z13.1.1 z13.1.2.1 z13.1.2.2 (some ⟨b17,0,none⟩) 1 fun a19 c20 H21=>
 next15 ((a19,(z13.1.2.1+1),c20),(IntKind.i64.wrap (z13.2.1+1)),()) H21)
 (k00 PP fq141 #[(pq p),(.int .i64 x1)] H14 pBlk fun(x22:Nat) H23=>
 newB H23 (.cells #[sE,(pq x22),(.slice x7.1 x7.2.1 x7.2.2),(.slice z13.1.1 z13.1.2.1 z13.1.2.2)] tq222) fun b24 H25=>
 k00 PP fq140 #[(pq b24)] H25 pBlk fun(x26:Nat) H27=>
 rk [(.iface tq218 (pq x26)),nI] H27 R)
theorem parseSchemaDefinition.enter (p:Nat) (H:Heap) (R:RR) (h:parseSchemaDefinition.W p H R):Fn PP fq88 #[(pq p)] H R:=
 fnE Tryz.func88 ⟨patL [(18,(pInt .i64)),(21,pTkE),(29,pSlE),(37,pSlE),(49,⟨Nat,fun x=>(.iface tq104 (pq x))⟩),(65,pBlk),(68,pBlk)],k06 [(0,[Slot.slc 9,Slot.int .i64 46])],k03 [],k03 [],k05 []⟩ (by unfold parseSchemaDefinition.W;kernel_rfl) h
def parseObjectTypeDefinition.W (p:Nat) (H:Heap) (R:RR):Prop:=
 lw H p 6 (pInt .i64) fun(x1:Int)=>
 k00 PP fq108 #[(pq p)] H ⟨OA,fun x=>(.tuple #[(.pointer x),nI])⟩ fun(x2:OA) H3=>
 k00 PP fq137 #[(pq p),(.string (bs [116,121,112,101]))] H3 pTkE fun(_x4:Int×Int×Int×BA) H5=>
 k00 PP fq146 #[(pq p)] H5 pBlE fun(x6:Nat) H7=>
 k00 PP fq93 #[(pq p)] H7 pSlE fun(x8:Sl) H9=>
 k00 PP fq138 #[(pq p)] H9 pSlE fun(x10:Sl) H11=>
 k00 PP fq139 #[(pq p),(.int .i64 12),(.func (.func fq94) #[] #[]),(.int .i64 14),(.bool false)] H11 pSlE fun(x12:Sl) H13=>
 newB H13 (.cells #[] tq117) fun b14 H15=>
 k0e (Sl×Int×Unit) (((some ⟨b14,0,none⟩),0,0),0,()) H15 fun z16 H17 next18=>
 k02 (decide (z16.2.1<((x12.2.1:Nat):Int)))
 ((IxOk x12.1 z16.2.1 x12.2.1)∧
 k01 H17 false 1 ⟨(k0c x12.1),(k0b x12.1+z16.2.1.toNat*1),none⟩ ⟨Nat,fun x=>(.iface tq117 (pq x))⟩ fun(x19:Nat)=>
 newB H17 (.cells #[(pq x19)] tq117) fun b20 H21=>
 appK H21 tq117 1 8 z16.1.1 z16.1.2.1 z16.1.2.2 (some ⟨b20,0,none⟩) 1 fun a22 c23 H24=>
 next18 ((a22,(z16.1.2.1+1),c23),(IntKind.i64.wrap (z16.2.1+1)),()) H24)
 (k00 PP fq141 #[(pq p),(.int .i64 x1)] H17 pBlk fun(x25:Nat) H26=>
 newB H26 (.cells #[sE,(pq x25),(pq x6),(.pointer x2),(.slice x8.1 x8.2.1 x8.2.2),(.slice x10.1 x10.2.1 x10.2.2),(.slice z16.1.1 z16.1.2.1 z16.1.2.2)] tq238) fun b27 H28=>
 k00 PP fq148 #[(pq b27)] H28 pBlk fun(x29:Nat) H30=>
 rk [(.iface tq235 (pq x29)),nI] H30 R)
theorem parseObjectTypeDefinition.enter (p:Nat) (H:Heap) (R:RR) (h:parseObjectTypeDefinition.W p H R):Fn PP fq91 #[(pq p)] H R:=
 fnE Tryz.func91 ⟨patL [(18,(pInt .i64)),(21,⟨OA,fun x=>(.tuple #[(.pointer x),nI])⟩),(29,pTkE),(37,pBlE),(45,pSlE),(53,pSlE),(61,pSlE),(73,⟨Nat,fun x=>(.iface tq117 (pq x))⟩),(86,pBlk),(92,pBlk)],k06 [(0,[Slot.slc 11,Slot.int .i64 70])],k03 [],k03 [],k05 []⟩ (by unfold parseObjectTypeDefinition.W;kernel_rfl) h
def parseInterfaceTypeDefinition.W (p:Nat) (H:Heap) (R:RR):Prop:=
 lw H p 6 (pInt .i64) fun(x1:Int)=>
 k00 PP fq108 #[(pq p)] H ⟨OA,fun x=>(.tuple #[(.pointer x),nI])⟩ fun(x2:OA) H3=>
 k00 PP fq137 #[(pq p),(.string (bs [105,110,116,101,114,102,97,99,101]))] H3 pTkE fun(_x4:Int×Int×Int×BA) H5=>
 k00 PP fq146 #[(pq p)] H5 pBlE fun(x6:Nat) H7=>
 k00 PP fq138 #[(pq p)] H7 pSlE fun(x8:Sl) H9=>
 k00 PP fq139 #[(pq p),(.int .i64 12),(.func (.func fq94) #[] #[]),(.int .i64 14),(.bool false)] H9 pSlE fun(x10:Sl) H11=>
 newB H11 (.cells #[] tq117) fun b12 H13=>
 k0e (Sl×Int×Unit) (((some ⟨b12,0,none⟩),0,0),0,()) H13 fun z14 H15 next16=>
 k02 (decide (z14.2.1<((x10.2.1:Nat):Int)))
 ((IxOk x10.1 z14.2.1 x10.2.1)∧
 k01 H15 false 1 ⟨(k0c x10.1),(k0b x10.1+z14.2.1.toNat*1),none⟩ ⟨Nat,fun x=>(.iface tq117 (pq x))⟩ fun(x17:Nat)=>
 newB H15 (.cells #[(pq x17)] tq117) fun b18 H19=>
 appK H19 tq117 1 8 z14.1.1 z14.1.2.1 z14.1.2.2 (some ⟨b18,0,none⟩) 1 fun a20 c21 H22=>
 next16 ((a20,(z14.1.2.1+1),c21),(IntKind.i64.wrap (z14.2.1+1)),()) H22)
 (k00 PP fq141 #[(pq p),(.int .i64 x1)] H15 pBlk fun(x23:Nat) H24=>
 newB H24 (.cells #[sE,(pq x23),(pq x6),(.pointer x2),(.slice x8.1 x8.2.1 x8.2.2),(.slice z14.1.1 z14.1.2.1 z14.1.2.2)] tq251) fun b25 H26=>
 k00 PP fq156 #[(pq b25)] H26 pBlk fun(x27:Nat) H28=>
 rk [(.iface tq248 (pq x27)),nI] H28 R)
theorem parseInterfaceTypeDefinition.enter (p:Nat) (H:Heap) (R:RR) (h:parseInterfaceTypeDefinition.W p H R):Fn PP fq98 #[(pq p)] H R:=
 fnE Tryz.func98 ⟨patL [(17,(pInt .i64)),(20,⟨OA,fun x=>(.tuple #[(.pointer x),nI])⟩),(28,pTkE),(36,pBlE),(44,pSlE),(52,pSlE),(64,⟨Nat,fun x=>(.iface tq117 (pq x))⟩),(78,pBlk),(82,pBlk)],k06 [(0,[Slot.slc 10,Slot.int .i64 61])],k03 [],k03 [],k05 []⟩ (by unfold parseInterfaceTypeDefinition.W;kernel_rfl) h
def parseEnumTypeDefinition.W (p:Nat) (H:Heap) (R:RR):Prop:=
 lw H p 6 (pInt .i64) fun(x1:Int)=>
 k00 PP fq108 #[(pq p)] H ⟨OA,fun x=>(.tuple #[(.pointer x),nI])⟩ fun(x2:OA) H3=>
 k00 PP fq137 #[(pq p),(.string (bs [101,110,117,109]))] H3 pTkE fun(_x4:Int×Int×Int×BA) H5=>
 k00 PP fq146 #[(pq p)] H5 pBlE fun(x6:Nat) H7=>
 k00 PP fq138 #[(pq p)] H7 pSlE fun(x8:Sl) H9=>
 k00 PP fq139 #[(pq p),(.int .i64 12),(.func (.func fq102) #[] #[]),(.int .i64 14),(.bool false)] H9 pSlE fun(x10:Sl) H11=>
 newB H11 (.cells #[] tq123) fun b12 H13=>
 k0e (Sl×Int×Unit) (((some ⟨b12,0,none⟩),0,0),0,()) H13 fun z14 H15 next16=>
 k02 (decide (z14.2.1<((x10.2.1:Nat):Int)))
 ((IxOk x10.1 z14.2.1 x10.2.1)∧
 k01 H15 false 1 ⟨(k0c x10.1),(k0b x10.1+z14.2.1.toNat*1),none⟩ ⟨Nat,fun x=>(.iface tq123 (pq x))⟩ fun(x17:Nat)=>
 newB H15 (.cells #[(pq x17)] tq123) fun b18 H19=>
 appK H19 tq123 1 8 z14.1.1 z14.1.2.1 z14.1.2.2 (some ⟨b18,0,none⟩) 1 fun a20 c21 H22=>
 next16 ((a20,(z14.1.2.1+1),c21),(IntKind.i64.wrap (z14.2.1+1)),()) H22)
 (k00 PP fq141 #[(pq p),(.int .i64 x1)] H15 pBlk fun(x23:Nat) H24=>
 newB H24 (.cells #[sE,(pq x23),(pq x6),(.pointer x2),(.slice x8.1 x8.2.1 x8.2.2),(.slice z14.1.1 z14.1.2.1 z14.1.2.2)] tq260) fun b25 H26=>
 k00 PP fq158 #[(pq b25)] H26 pBlk fun(x27:Nat) H28=>
 rk [(.iface tq257 (pq x27)),nI] H28 R)
theorem parseEnumTypeDefinition.enter (p:Nat) (H:Heap) (R:RR) (h:parseEnumTypeDefinition.W p H R):Fn PP fq101 #[(pq p)] H R:=
 fnE Tryz.func101 ⟨patL [(17,(pInt .i64)),(20,⟨OA,fun x=>(.tuple #[(.pointer x),nI])⟩),(28,pTkE),(36,pBlE),(44,pSlE),(52,pSlE),(64,⟨Nat,fun x=>(.iface tq123 (pq x))⟩),(78,pBlk),(82,pBlk)],k06 [(0,[Slot.slc 10,Slot.int .i64 61])],k03 [],k03 [],k05 []⟩ (by unfold parseEnumTypeDefinition.W;kernel_rfl) h
def parseInputObjectTypeDefinition.W (p:Nat) (H:Heap) (R:RR):Prop:=
 lw H p 6 (pInt .i64) fun(x1:Int)=>
 k00 PP fq108 #[(pq p)] H ⟨OA,fun x=>(.tuple #[(.pointer x),nI])⟩ fun(x2:OA) H3=>
 k00 PP fq137 #[(pq p),(.string (bs [105,110,112,117,116]))] H3 pTkE fun(_x4:Int×Int×Int×BA) H5=>
 k00 PP fq146 #[(pq p)] H5 pBlE fun(x6:Nat) H7=>
 k00 PP fq138 #[(pq p)] H7 pSlE fun(x8:Sl) H9=>
 k00 PP fq139 #[(pq p),(.int .i64 12),(.func (.func fq97) #[] #[]),(.int .i64 14),(.bool false)] H9 pSlE fun(x10:Sl) H11=>
 newB H11 (.cells #[] tq120) fun b12 H13=>
 k0e (Sl×Int×Unit) (((some ⟨b12,0,none⟩),0,0),0,()) H13 fun z14 H15 next16=>
 k02 (decide (z14.2.1<((x10.2.1:Nat):Int)))
 ((IxOk x10.1 z14.2.1 x10.2.1)∧
 k01 H15 false 1 ⟨(k0c x10.1),(k0b x10.1+z14.2.1.toNat*1),none⟩ ⟨Nat,fun x=>(.iface tq120 (pq x))⟩ fun(x17:Nat)=>
 newB H15 (.cells #[(pq x17)] tq120) fun b18 H19=>
 appK H19 tq120 1 8 z14.1.1 z14.1.2.1 z14.1.2.2 (some ⟨b18,0,none⟩) 1 fun a20 c21 H22=>
 next16 ((a20,(z14.1.2.1+1),c21),(IntKind.i64.wrap (z14.2.1+1)),()) H22)
 (k00 PP fq141 #[(pq p),(.int .i64 x1)] H15 pBlk fun(x23:Nat) H24=>
 newB H24 (.cells #[sE,(pq x23),(pq x6),(.pointer x2),(.slice x8.1 x8.2.1 x8.2.2),(.slice z14.1.1 z14.1.2.1 z14.1.2.2)] tq265) fun b25 H26=>
 k00 PP fq160 #[(pq b25)] H26 pBlk fun(x27:Nat) H28=>
 rk [(.iface tq262 (pq x27)),nI] H28 R)
theorem parseInputObjectTypeDefinition.enter (p:Nat) (H:Heap) (R:RR) (h:parseInputObjectTypeDefinition.W p H R):Fn PP fq103 #[(pq p)] H R:=
 fnE Tryz.func103 ⟨patL [(17,(pInt .i64)),(20,⟨OA,fun x=>(.tuple #[(.pointer x),nI])⟩),(28,pTkE),(36,pBlE),(44,pSlE),(52,pSlE),(64,⟨Nat,fun x=>(.iface tq120 (pq x))⟩),(78,pBlk),(82,pBlk)],k06 [(0,[Slot.slc 10,Slot.int .i64 61])],k03 [],k03 [],k05 []⟩ (by unfold parseInputObjectTypeDefinition.W;kernel_rfl) h
def parseArgumentDefs.W (p:Nat) (H:Heap) (R:RR):Prop:=
 newB H (.cells #[] tq120) fun b1 H2=>
 k00 PP fq153 #[(pq p),(.int .i64 4)] H2 k04 fun(x3:Bool) H4=>
 k02 (!x3)
 (rk [(.slice (some ⟨b1,0,none⟩) 0 0),nI] H4 R)
 (k00 PP fq139 #[(pq p),(.int .i64 4),(.func (.func fq97) #[] #[]),(.int .i64 5),(.bool true)] H4 pSlE fun(x5:Sl) H6=>
 k0e (Sl×Int×Unit) (((some ⟨b1,0,none⟩),0,0),0,()) H6 fun z7 H8 next9=>
 k02 (decide (z7.2.1<((x5.2.1:Nat):Int)))
 ((IxOk x5.1 z7.2.1 x5.2.1)∧
 k01 H8 false 1 ⟨(k0c x5.1),(k0b x5.1+z7.2.1.toNat*1),none⟩ ⟨Nat,fun x=>(.iface tq120 (pq x))⟩ fun(x10:Nat)=>
 newB H8 (.cells #[(pq x10)] tq120) fun b11 H12=>
 appK H12 tq120 1 8 z7.1.1 z7.1.2.1 z7.1.2.2 (some ⟨b11,0,none⟩) 1 fun a13 c14 H15=>
 next9 ((a13,(z7.1.2.1+1),c14),(IntKind.i64.wrap (z7.2.1+1)),()) H15)
 (rk [(.slice z7.1.1 z7.1.2.1 z7.1.2.2),nI] H8 R))
theorem parseArgumentDefs.enter (p:Nat) (H:Heap) (R:RR) (h:parseArgumentDefs.W p H R):Fn PP fq96 #[(pq p)] H R:=
 fnE Tryz.func96 ⟨patL [(11,k04),(16,pSlE),(28,⟨Nat,fun x=>(.iface tq120 (pq x))⟩)],k06 [(0,[Slot.slc 4,Slot.int .i64 25])],k03 [],k03 [],k05 []⟩ (by unfold parseArgumentDefs.W;kernel_rfl) h
def parseVariableDefinitions.W (p:Nat) (H:Heap) (R:RR):Prop:=
 newB H (.cells #[] tq93) fun b1 H2=>
 k00 PP fq153 #[(pq p),(.int .i64 4)] H2 k04 fun(x3:Bool) H4=>
 k02 (!x3)
 (rk [(.slice (some ⟨b1,0,none⟩) 0 0),nI] H4 R)
 (k00 PP fq139 #[(pq p),(.int .i64 4),(.func (.func fq111) #[] #[]),(.int .i64 5),(.bool true)] H4 pSlE fun(x5:Sl) H6=>
 k0e (Sl×Int×Unit) (((some ⟨b1,0,none⟩),0,0),0,()) H6 fun z7 H8 next9=>
 k02 (decide (z7.2.1<((x5.2.1:Nat):Int)))
 ((IxOk x5.1 z7.2.1 x5.2.1)∧
 k01 H8 false 1 ⟨(k0c x5.1),(k0b x5.1+z7.2.1.toNat*1),none⟩ ⟨Nat,fun x=>(.iface tq93 (pq x))⟩ fun(x10:Nat)=>
 newB H8 (.cells #[(pq x10)] tq93) fun b11 H12=>
 appK H12 tq93 1 8 z7.1.1 z7.1.2.1 z7.1.2.2 (some ⟨b11,0,none⟩) 1 fun a13 c14 H15=>
 next9 ((a13,(z7.1.2.1+1),c14),(IntKind.i64.wrap (z7.2.1+1)),()) H15)
 (rk [(.slice z7.1.1 z7.1.2.1 z7.1.2.2),nI] H8 R))
theorem parseVariableDefinitions.enter (p:Nat) (H:Heap) (R:RR) (h:parseVariableDefinitions.W p H R):Fn PP fq167 #[(pq p)] H R:=
 fnE Tryz.func167 ⟨patL [(11,k04),(16,pSlE),(28,⟨Nat,fun x=>(.iface tq93 (pq x))⟩)],k06 [(0,[Slot.slc 4,Slot.int .i64 25])],k03 [],k03 [],k05 []⟩ (by unfold parseVariableDefinitions.W;kernel_rfl) h
def parseArguments.W (p:Nat) (H:Heap) (R:RR):Prop:=
 newB H (.cells #[] tq96) fun b1 H2=>
 k00 PP fq153 #[(pq p),(.int .i64 4)] H2 k04 fun(x3:Bool) H4=>
 k02 x3
 (k00 PP fq139 #[(pq p),(.int .i64 4),(.func (.func fq114) #[] #[]),(.int .i64 5),(.bool true)] H4 pSlE fun(x5:Sl) H6=>
 k0e (Sl×Int×Unit) (((some ⟨b1,0,none⟩),0,0),0,()) H6 fun z7 H8 next9=>
 k02 (decide (z7.2.1<((x5.2.1:Nat):Int)))
 ((IxOk x5.1 z7.2.1 x5.2.1)∧
 k01 H8 false 1 ⟨(k0c x5.1),(k0b x5.1+z7.2.1.toNat*1),none⟩ ⟨Nat,fun x=>(.iface tq96 (pq x))⟩ fun(x10:Nat)=>
 newB H8 (.cells #[(pq x10)] tq96) fun b11 H12=>
 appK H12 tq96 1 8 z7.1.1 z7.1.2.1 z7.1.2.2 (some ⟨b11,0,none⟩) 1 fun a13 c14 H15=>
 next9 ((a13,(z7.1.2.1+1),c14),(IntKind.i64.wrap (z7.2.1+1)),()) H15)
 (rk [(.slice z7.1.1 z7.1.2.1 z7.1.2.2),nI] H8 R))
 (rk [(.slice (some ⟨b1,0,none⟩) 0 0),nI] H4 R)
theorem parseArguments.enter (p:Nat) (H:Heap) (R:RR) (h:parseArguments.W p H R):Fn PP fq173 #[(pq p)] H R:=
 fnE Tryz.func173 ⟨patL [(11,k04),(14,pSlE),(26,⟨Nat,fun x=>(.iface tq96 (pq x))⟩)],k06 [(0,[Slot.slc 4,Slot.int .i64 23])],k03 [],k03 [],k05 []⟩ (by unfold parseArguments.W;kernel_rfl) h
def parseSelectionSet.W (p:Nat) (H:Heap) (R:RR):Prop:=
 lw H p 6 (pInt .i64) fun(x1:Int)=>
 newB H (.cells #[] tq191) fun b2 H3=>
 k00 PP fq139 #[(pq p),(.int .i64 12),(.func (.func fq207) #[] #[]),(.int .i64 14),(.bool true)] H3 pSlE fun(x4:Sl) H5=>
 k0e (Sl×Int×Unit) (((some ⟨b2,0,none⟩),0,0),0,()) H5 fun z6 H7 next8=>
 k02 (decide (z6.2.1<((x4.2.1:Nat):Int)))
 ((IxOk x4.1 z6.2.1 x4.2.1)∧
 k01 H7 false 1 ⟨(k0c x4.1),(k0b x4.1+z6.2.1.toNat*1),none⟩ pIf fun(x9:(Nat×Nat))=>
 asW PP (.iface x9.1 (pq x9.2)) tq20 tq191 false (
 newB H7 (.cells #[(.iface x9.1 (pq x9.2))] tq191) fun b10 H11=>
 appK H11 tq191 1 16 z6.1.1 z6.1.2.1 z6.1.2.2 (some ⟨b10,0,none⟩) 1 fun a12 c13 H14=>
 next8 ((a12,(z6.1.2.1+1),c13),(IntKind.i64.wrap (z6.2.1+1)),()) H14))
 (k00 PP fq141 #[(pq p),(.int .i64 x1)] H7 pBlk fun(x15:Nat) H16=>
 newB H16 (.cells #[sE,(pq x15),(.slice z6.1.1 z6.1.2.1 z6.1.2.2)] tq322) fun b17 H18=>
 k00 PP fq208 #[(pq b17)] H18 pBlk fun(x19:Nat) H20=>
 rk [(pq x19),nI] H20 R)
theorem parseSelectionSet.enter (p:Nat) (H:Heap) (R:RR) (h:parseSelectionSet.W p H R):Fn PP fq165 #[(pq p)] H R:=
 fnE Tryz.func165 ⟨patL [(14,(pInt .i64)),(18,pSlE),(29,pIf),(39,pBlk),(42,pBlk)],k06 [(0,[Slot.slc 5,Slot.int .i64 26])],k03 [],k03 [],k05 []⟩ (by unfold parseSelectionSet.W;kernel_rfl) h
def parseValueLiteral.W (p:Nat) (c:Bool) (H:Heap) (R:RR):Prop:=
 k01 H true 4 ⟨p,5,none⟩ pTk fun(x1:Int×Int×Int×BA)=>
 newB H (.cells #[(.int .i64 0),(.int .i64 0),(.int .i64 0),sE] tq85) fun b2 H3=>
 k08 H3 ⟨b2,0,none⟩ [(.int .i64 x1.1),(.int .i64 x1.2.1),(.int .i64 x1.2.2.1),(.string x1.2.2.2)] fun H4=>
 lw H4 b2 0 (pInt .i64) fun(x5:Int)=>
 k02 (x5==10)
 (k00 PP fq210 #[(pq p),(.bool c)] H4 pBlE fun(x6:Nat) H7=>
 rk [(.iface tq309 (pq x6)),nI] H7 R)
 (k02 (x5==12)
 (k00 PP fq211 #[(pq p),(.bool c)] H4 pBlE fun(x8:Nat) H9=>
 rk [(.iface tq313 (pq x8)),nI] H9 R)
 (k02 (x5==16)
 (k00 PP fq149 #[(pq p)] H4 ⟨Unit,fun _=>nI⟩ fun(_:Unit) H11=>
 lw H11 b2 3 pStr fun(x12:BA)=>
 lw H11 b2 1 (pInt .i64) fun(x13:Int)=>
 k00 PP fq141 #[(pq p),(.int .i64 x13)] H11 pBlk fun(x14:Nat) H15=>
 lc H15 b2 3 (.string x12)∧
 newB H15 (.cells #[sE,(pq x14),(.string x12)] tq301) fun b16 H17=>
 k00 PP fq212 #[(pq b16)] H17 pBlk fun(x18:Nat) H19=>
 rk [(.iface tq300 (pq x18)),nI] H19 R)
 (k02 (x5==17)
 (k00 PP fq149 #[(pq p)] H4 ⟨Unit,fun _=>nI⟩ fun(_:Unit) H21=>
 lw H21 b2 3 pStr fun(x22:BA)=>
 lw H21 b2 1 (pInt .i64) fun(x23:Int)=>
 k00 PP fq141 #[(pq p),(.int .i64 x23)] H21 pBlk fun(x24:Nat) H25=>
 lc H25 b2 3 (.string x22)∧
 newB H25 (.cells #[sE,(pq x24),(.string x22)] tq303) fun b26 H27=>
 k00 PP fq213 #[(pq b26)] H27 pBlk fun(x28:Nat) H29=>
 rk [(.iface tq302 (pq x28)),nI] H29 R)
 (k02 (x5==19)
 (k00 PP fq164 #[(pq p)] H4 pBlE fun(x30:Nat) H31=>
 rk [(.iface tq102 (pq x30)),nI] H31 R)
 (k02 (x5==18)
 (k00 PP fq164 #[(pq p)] H4 pBlE fun(x32:Nat) H33=>
 rk [(.iface tq102 (pq x32)),nI] H33 R)
 (k02 (x5==15)
 (k0j (Bool×Unit) H4 (fun J34=>
 lw H4 b2 3 pStr fun(x36:BA)=>
 k02 (x36.toList==(bs [116,114,117,101]).toList)
 (J34 (true,()) H4)
 (lw H4 b2 3 pStr fun(x37:BA)=>
 J34 ((x37.toList==(bs [102,97,108,115,101]).toList),()) H4)) fun y35=>
 k02 y35.1
 (k00 PP fq149 #[(pq p)] H4 ⟨Unit,fun _=>nI⟩ fun(_:Unit) H39=>
 lw H39 b2 3 pStr fun(x40:BA)=>
 k02 (x40.toList==(bs [102,97,108,115,101]).toList)
 (lw H39 b2 1 (pInt .i64) fun(x41:Int)=>
 k00 PP fq141 #[(pq p),(.int .i64 x41)] H39 pBlk fun(x42:Nat) H43=>
 newB H43 (.cells #[sE,(pq x42),(.bool false)] tq306) fun b44 H45=>
 k00 PP fq214 #[(pq b44)] H45 pBlk fun(x46:Nat) H47=>
 rk [(.iface tq304 (pq x46)),nI] H47 R)
 (lw H39 b2 1 (pInt .i64) fun(x48:Int)=>
 k00 PP fq141 #[(pq p),(.int .i64 x48)] H39 pBlk fun(x49:Nat) H50=>
 newB H50 (.cells #[sE,(pq x49),(.bool true)] tq306) fun b51 H52=>
 k00 PP fq214 #[(pq b51)] H52 pBlk fun(x53:Nat) H54=>
 rk [(.iface tq304 (pq x53)),nI] H54 R))
 (lw H4 b2 3 pStr fun(x55:BA)=>
 k02 (!(x55.toList==(bs [110,117,108,108]).toList))
 (k00 PP fq149 #[(pq p)] H4 ⟨Unit,fun _=>nI⟩ fun(_:Unit) H57=>
 lw H57 b2 3 pStr fun(x58:BA)=>
 lw H57 b2 1 (pInt .i64) fun(x59:Int)=>
 k00 PP fq141 #[(pq p),(.int .i64 x59)] H57 pBlk fun(x60:Nat) H61=>
 lc H61 b2 3 (.string x58)∧
 newB H61 (.cells #[sE,(pq x60),(.string x58)] tq308) fun b62 H63=>
 k00 PP fq215 #[(pq b62)] H63 pBlk fun(x64:Nat) H65=>
 rk [(.iface tq307 (pq x64)),nI] H65 R)
 (k00 PP fq201 #[(pq p),(.agg #[(.int .i64 0),(.int .i64 0),(.int .i64 0),sE])] H4 ⟨Unit,fun _=>nI⟩ fun(_:Unit) H67=>
 rk [nI,nI] H67 R)))
 (k02 (x5==3)
 (k02 (!c)
 (k00 PP fq170 #[(pq p)] H4 pBlE fun(x68:Nat) H69=>
 rk [(.iface tq169 (pq x68)),nI] H69 R)
 (k00 PP fq201 #[(pq p),(.agg #[(.int .i64 0),(.int .i64 0),(.int .i64 0),sE])] H4 ⟨Unit,fun _=>nI⟩ fun(_:Unit) H71=>
 rk [nI,nI] H71 R))
 (k00 PP fq201 #[(pq p),(.agg #[(.int .i64 0),(.int .i64 0),(.int .i64 0),sE])] H4 ⟨Unit,fun _=>nI⟩ fun(_:Unit) H73=>
 rk [nI,nI] H73 R))))))))
theorem parseValueLiteral.enter (p:Nat) (c:Bool) (H:Heap) (R:RR) (h:parseValueLiteral.W p c H R):Fn PP fq171 #[(pq p),(.bool c)] H R:=
 fnE Tryz.func171 ⟨patL [(15,pTk),(17,(pInt .i64)),(22,pBlE),(30,pBlE),(37,⟨Unit,fun _=>nI⟩),(42,pStr),(45,(pInt .i64)),(46,pBlk),(49,pBlk),(54,⟨Unit,fun _=>nI⟩),(59,pStr),(62,(pInt .i64)),(63,pBlk),(66,pBlk),(72,pBlE),(79,pStr),(83,pStr),(87,⟨Unit,fun _=>nI⟩),(92,pStr),(97,(pInt .i64)),(98,pBlk),(101,pBlk),(104,pStr),(107,⟨Unit,fun _=>nI⟩),(112,pStr),(115,(pInt .i64)),(116,pBlk),(119,pBlk),(126,pBlE),(132,⟨Unit,fun _=>nI⟩)],k06 [],k03 [],k03 [],k05 [(21,[Slot.bool 85],true)]⟩ (by unfold parseValueLiteral.W;kernel_rfl) h
def parseConstValue.W (p:Nat) (H:Heap) (R:RR):Prop:=
 k00 PP fq171 #[(pq p),(.bool true)] H pIfE fun(x1:(Nat×Nat)) H2=>
 rk [(.iface x1.1 (pq x1.2)),nI] H2 R
theorem parseConstValue.enter (p:Nat) (H:Heap) (R:RR) (h:parseConstValue.W p H R):Fn PP fq154 #[(pq p)] H R:=
 fnE Tryz.func154 (hz [(8,pIfE)]) (by unfold parseConstValue.W;kernel_rfl) h
def parseValueValue.W (p:Nat) (H:Heap) (R:RR):Prop:=
 k00 PP fq171 #[(pq p),(.bool false)] H pIfE fun(x1:(Nat×Nat)) H2=>
 rk [(.iface x1.1 (pq x1.2)),nI] H2 R
theorem parseValueValue.enter (p:Nat) (H:Heap) (R:RR) (h:parseValueValue.W p H R):Fn PP fq233 #[(pq p)] H R:=
 fnE Tryz.func233 (hz [(5,pIfE)]) (by unfold parseValueValue.W;kernel_rfl) h
def parseList.W (p:Nat) (c:Bool) (H:Heap) (R:RR):Prop:=
 lw H p 6 (pInt .i64) fun(x1:Int)=>
 k02 c
 (newB H (.cells #[] tq173) fun b2 H3=>
 k00 PP fq139 #[(pq p),(.int .i64 10),(.func (.func fq154) #[] #[]),(.int .i64 11),(.bool false)] H3 pSlE fun(x4:Sl) H5=>
 k0e (Sl×Int×Unit) (((some ⟨b2,0,none⟩),0,0),0,()) H5 fun z6 H7 next8=>
 k02 (decide (z6.2.1<((x4.2.1:Nat):Int)))
 ((IxOk x4.1 z6.2.1 x4.2.1)∧
 k01 H7 false 1 ⟨(k0c x4.1),(k0b x4.1+z6.2.1.toNat*1),none⟩ pIf fun(x9:(Nat×Nat))=>
 asW PP (.iface x9.1 (pq x9.2)) tq20 tq173 false (
 newB H7 (.cells #[(.iface x9.1 (pq x9.2))] tq173) fun b10 H11=>
 appK H11 tq173 1 16 z6.1.1 z6.1.2.1 z6.1.2.2 (some ⟨b10,0,none⟩) 1 fun a12 c13 H14=>
 next8 ((a12,(z6.1.2.1+1),c13),(IntKind.i64.wrap (z6.2.1+1)),()) H14))
 (k00 PP fq141 #[(pq p),(.int .i64 x1)] H7 pBlk fun(x15:Nat) H16=>
 newB H16 (.cells #[sE,(pq x15),(.slice z6.1.1 z6.1.2.1 z6.1.2.2)] tq312) fun b17 H18=>
 k00 PP fq234 #[(pq b17)] H18 pBlk fun(x19:Nat) H20=>
 rk [(pq x19),nI] H20 R))
 (newB H (.cells #[] tq173) fun b21 H22=>
 k00 PP fq139 #[(pq p),(.int .i64 10),(.func (.func fq233) #[] #[]),(.int .i64 11),(.bool false)] H22 pSlE fun(x23:Sl) H24=>
 k0e (Sl×Int×Unit) (((some ⟨b21,0,none⟩),0,0),0,()) H24 fun z25 H26 next27=>
 k02 (decide (z25.2.1<((x23.2.1:Nat):Int)))
 ((IxOk x23.1 z25.2.1 x23.2.1)∧
 k01 H26 false 1 ⟨(k0c x23.1),(k0b x23.1+z25.2.1.toNat*1),none⟩ pIf fun(x28:(Nat×Nat))=>
 asW PP (.iface x28.1 (pq x28.2)) tq20 tq173 false (
 newB H26 (.cells #[(.iface x28.1 (pq x28.2))] tq173) fun b29 H30=>
 appK H30 tq173 1 16 z25.1.1 z25.1.2.1 z25.1.2.2 (some ⟨b29,0,none⟩) 1 fun a31 c32 H33=>
 next27 ((a31,(z25.1.2.1+1),c32),(IntKind.i64.wrap (z25.2.1+1)),()) H33))
 (k00 PP fq141 #[(pq p),(.int .i64 x1)] H26 pBlk fun(x34:Nat) H35=>
 newB H35 (.cells #[sE,(pq x34),(.slice z25.1.1 z25.1.2.1 z25.1.2.2)] tq312) fun b36 H37=>
 k00 PP fq234 #[(pq b36)] H37 pBlk fun(x38:Nat) H39=>
 rk [(pq x38),nI] H39 R))
theorem parseList.enter (p:Nat) (c:Bool) (H:Heap) (R:RR) (h:parseList.W p c H R):Fn PP fq210 #[(pq p),(.bool c)] H R:=
 fnE Tryz.func210 ⟨patL [(17,(pInt .i64)),(23,pSlE),(34,pIf),(44,pBlk),(47,pBlk)],k06 [(0,[Slot.slc 8,Slot.int .i64 31])],k03 [],k03 [],k05 []⟩ (by unfold parseList.W;kernel_rfl) h
def parseObject.W (p:Nat) (c:Bool) (H:Heap) (R:RR):Prop:=
 lw H p 6 (pInt .i64) fun(x1:Int)=>
 k00 PP fq143 #[(pq p),(.int .i64 12)] H pTkE fun(x2:Int×Int×Int×BA) H3=>
 newB H3 (.cells #[(.int .i64 0),(.int .i64 0),(.int .i64 0),sE] tq85) fun b4 H5=>
 k08 H5 ⟨b4,0,none⟩ [(.int .i64 x2.1),(.int .i64 x2.2.1),(.int .i64 x2.2.2.1),(.string x2.2.2.2)] fun H6=>
 newB H6 (.cells #[] tq317) fun b7 H8=>
 k0e (Sl×Unit) (((some ⟨b7,0,none⟩),0,0),()) H8 fun z9 H10 next11=>
 k00 PP fq150 #[(pq p),(.int .i64 14)] H10 pBoE fun(x12:Bool) H13=>
 k02 x12
 (k00 PP fq141 #[(pq p),(.int .i64 x1)] H13 pBlk fun(x14:Nat) H15=>
 newB H15 (.cells #[sE,(pq x14),(.slice z9.1.1 z9.1.2.1 z9.1.2.2)] tq316) fun b16 H17=>
 k00 PP fq236 #[(pq b16)] H17 pBlk fun(x18:Nat) H19=>
 rk [(pq x18),nI] H19 R)
 (k00 PP fq235 #[(pq p),(.bool c)] H13 pBlE fun(x20:Nat) H21=>
 newB H21 (.cells #[(pq x20)] tq317) fun b22 H23=>
 appK H23 tq317 1 8 z9.1.1 z9.1.2.1 z9.1.2.2 (some ⟨b22,0,none⟩) 1 fun a24 c25 H26=>
 next11 ((a24,(z9.1.2.1+1),c25),()) H26)
theorem parseObject.enter (p:Nat) (c:Bool) (H:Heap) (R:RR) (h:parseObject.W p c H R):Fn PP fq211 #[(pq p),(.bool c)] H R:=
 fnE Tryz.func211 ⟨patL [(18,(pInt .i64)),(21,pTkE),(30,pBoE),(40,pBlE),(53,pBlk),(56,pBlk)],k06 [(0,[Slot.slc 9])],k03 [],k03 [],k05 []⟩ (by unfold parseObject.W;kernel_rfl) h
def parseObjectField.W (p:Nat) (c:Bool) (H:Heap) (R:RR):Prop:=
 lw H p 6 (pInt .i64) fun(x1:Int)=>
 k00 PP fq146 #[(pq p)] H pBlE fun(x2:Nat) H3=>
 k00 PP fq143 #[(pq p),(.int .i64 7)] H3 pTkE fun(_x4:Int×Int×Int×BA) H5=>
 k00 PP fq171 #[(pq p),(.bool c)] H5 pIfE fun(x6:(Nat×Nat)) H7=>
 k00 PP fq141 #[(pq p),(.int .i64 x1)] H7 pBlk fun(x8:Nat) H9=>
 newB H9 (.cells #[sE,(pq x2),(pq x8),(.iface x6.1 (pq x6.2))] tq319) fun b10 H11=>
 k00 PP fq248 #[(pq b10)] H11 pBlk fun(x12:Nat) H13=>
 rk [(pq x12),nI] H13 R
theorem parseObjectField.enter (p:Nat) (c:Bool) (H:Heap) (R:RR) (h:parseObjectField.W p c H R):Fn PP fq235 #[(pq p),(.bool c)] H R:=
 fnE Tryz.func235 (hz [(14,(pInt .i64)),(17,pBlE),(25,pTkE),(34,pIfE),(44,pBlk),(47,pBlk)]) (by unfold parseObjectField.W;kernel_rfl) h
def k0x.W (p:Nat) (name:BA) (H:Heap) (R:RR):Prop:=
 k02 (name.toList==(bs [115,99,104,101,109,97]).toList)
 (k00 PP fq88 #[(pq p)] H ⟨Nat,fun x=>(.tuple #[(.iface tq218 (pq x)),nI])⟩ fun(x1:Nat) H2=>
 k00 PP fq87 #[(.iface tq218 (pq x1)),nI] H2 pSlE fun(x3:Sl) H4=>
 rk [(.slice x3.1 x3.2.1 x3.2.2),nI] H4 R)
 (k02 (name.toList==(bs [111,112,101,114,97,116,105,111,110,32,116,121,112,101]).toList)
 (k00 PP fq89 #[(pq p)] H ⟨Nat,fun x=>(.tuple #[(.iface tq104 (pq x)),nI])⟩ fun(x5:Nat) H6=>
 k00 PP fq87 #[(.iface tq104 (pq x5)),nI] H6 pSlE fun(x7:Sl) H8=>
 rk [(.slice x7.1 x7.2.1 x7.2.2),nI] H8 R)
 (k02 (name.toList==(bs [115,99,97,108,97,114]).toList)
 (k00 PP fq90 #[(pq p)] H ⟨Nat,fun x=>(.tuple #[(.iface tq231 (pq x)),nI])⟩ fun(x9:Nat) H10=>
 k00 PP fq87 #[(.iface tq231 (pq x9)),nI] H10 pSlE fun(x11:Sl) H12=>
 rk [(.slice x11.1 x11.2.1 x11.2.2),nI] H12 R)
 (k02 (name.toList==(bs [116,121,112,101]).toList)
 (k00 PP fq91 #[(pq p)] H ⟨Nat,fun x=>(.tuple #[(.iface tq235 (pq x)),nI])⟩ fun(x13:Nat) H14=>
 k00 PP fq87 #[(.iface tq235 (pq x13)),nI] H14 pSlE fun(x15:Sl) H16=>
 rk [(.slice x15.1 x15.2.1 x15.2.2),nI] H16 R)
 (k02 (name.toList==(bs [105,109,112,108,101,109,101,110,116,115]).toList)
 (k00 PP fq93 #[(pq p)] H pSlE fun(x17:Sl) H18=>
 k00 PP fq92 #[(.slice x17.1 x17.2.1 x17.2.2),nI] H18 pSlE fun(x19:Sl) H20=>
 rk [(.slice x19.1 x19.2.1 x19.2.2),nI] H20 R)
 (k02 (name.toList==(bs [102,105,101,108,100,32,100,101,102,105,110,105,116,105,111,110]).toList)
 (k00 PP fq94 #[(pq p)] H ⟨Nat,fun x=>(.tuple #[(.iface tq117 (pq x)),nI])⟩ fun(x21:Nat) H22=>
 k00 PP fq87 #[(.iface tq117 (pq x21)),nI] H22 pSlE fun(x23:Sl) H24=>
 rk [(.slice x23.1 x23.2.1 x23.2.2),nI] H24 R)
 (k02 (name.toList==(bs [97,114,103,117,109,101,110,116,32,100,101,102,105,110,105,116,105,111,110,115]).toList)
 (k00 PP fq96 #[(pq p)] H pSlE fun(x25:Sl) H26=>
 k00 PP fq95 #[(.slice x25.1 x25.2.1 x25.2.2),nI] H26 pSlE fun(x27:Sl) H28=>
 rk [(.slice x27.1 x27.2.1 x27.2.2),nI] H28 R)
 (k02 (name.toList==(bs [105,110,112,117,116,32,118,97,108,117,101]).toList)
 (k00 PP fq97 #[(pq p)] H ⟨Nat,fun x=>(.tuple #[(.iface tq120 (pq x)),nI])⟩ fun(x29:Nat) H30=>
 k00 PP fq87 #[(.iface tq120 (pq x29)),nI] H30 pSlE fun(x31:Sl) H32=>
 rk [(.slice x31.1 x31.2.1 x31.2.2),nI] H32 R)
 (k02 (name.toList==(bs [105,110,116,101,114,102,97,99,101]).toList)
 (k00 PP fq98 #[(pq p)] H ⟨Nat,fun x=>(.tuple #[(.iface tq248 (pq x)),nI])⟩ fun(x33:Nat) H34=>
 k00 PP fq87 #[(.iface tq248 (pq x33)),nI] H34 pSlE fun(x35:Sl) H36=>
 rk [(.slice x35.1 x35.2.1 x35.2.2),nI] H36 R)
 (k02 (name.toList==(bs [117,110,105,111,110]).toList)
 (k00 PP fq99 #[(pq p)] H ⟨Nat,fun x=>(.tuple #[(.iface tq252 (pq x)),nI])⟩ fun(x37:Nat) H38=>
 k00 PP fq87 #[(.iface tq252 (pq x37)),nI] H38 pSlE fun(x39:Sl) H40=>
 rk [(.slice x39.1 x39.2.1 x39.2.2),nI] H40 R)
 (k02 (name.toList==(bs [109,101,109,98,101,114,115]).toList)
 (k00 PP fq100 #[(pq p)] H pSlE fun(x41:Sl) H42=>
 k00 PP fq92 #[(.slice x41.1 x41.2.1 x41.2.2),nI] H42 pSlE fun(x43:Sl) H44=>
 rk [(.slice x43.1 x43.2.1 x43.2.2),nI] H44 R)
 (k02 (name.toList==(bs [101,110,117,109]).toList)
 (k00 PP fq101 #[(pq p)] H ⟨Nat,fun x=>(.tuple #[(.iface tq257 (pq x)),nI])⟩ fun(x45:Nat) H46=>
 k00 PP fq87 #[(.iface tq257 (pq x45)),nI] H46 pSlE fun(x47:Sl) H48=>
 rk [(.slice x47.1 x47.2.1 x47.2.2),nI] H48 R)
 (k02 (name.toList==(bs [101,110,117,109,32,118,97,108,117,101]).toList)
 (k00 PP fq102 #[(pq p)] H ⟨Nat,fun x=>(.tuple #[(.iface tq123 (pq x)),nI])⟩ fun(x49:Nat) H50=>
 k00 PP fq87 #[(.iface tq123 (pq x49)),nI] H50 pSlE fun(x51:Sl) H52=>
 rk [(.slice x51.1 x51.2.1 x51.2.2),nI] H52 R)
 (k02 (name.toList==(bs [105,110,112,117,116]).toList)
 (k00 PP fq103 #[(pq p)] H ⟨Nat,fun x=>(.tuple #[(.iface tq262 (pq x)),nI])⟩ fun(x53:Nat) H54=>
 k00 PP fq87 #[(.iface tq262 (pq x53)),nI] H54 pSlE fun(x55:Sl) H56=>
 rk [(.slice x55.1 x55.2.1 x55.2.2),nI] H56 R)
 (k02 (name.toList==(bs [101,120,116,101,110,100]).toList)
 (k00 PP fq104 #[(pq p)] H ⟨Nat,fun x=>(.tuple #[(.iface tq266 (pq x)),nI])⟩ fun(x57:Nat) H58=>
 k00 PP fq87 #[(.iface tq266 (pq x57)),nI] H58 pSlE fun(x59:Sl) H60=>
 rk [(.slice x59.1 x59.2.1 x59.2.2),nI] H60 R)
 (k02 (name.toList==(bs [100,105,114,101,99,116,105,118,101,32,100,101,102,105,110,105,116,105,111,110]).toList)
 (k00 PP fq105 #[(pq p)] H ⟨Nat,fun x=>(.tuple #[(.iface tq270 (pq x)),nI])⟩ fun(x61:Nat) H62=>
 k00 PP fq87 #[(.iface tq270 (pq x61)),nI] H62 pSlE fun(x63:Sl) H64=>
 rk [(.slice x63.1 x63.2.1 x63.2.2),nI] H64 R)
 (k02 (name.toList==(bs [108,111,99,97,116,105,111,110,115]).toList)
 (k00 PP fq107 #[(pq p)] H pSlE fun(x65:Sl) H66=>
 k00 PP fq106 #[(.slice x65.1 x65.2.1 x65.2.2),nI] H66 pSlE fun(x67:Sl) H68=>
 rk [(.slice x67.1 x67.2.1 x67.2.2),nI] H68 R)
 (k02 (name.toList==(bs [100,101,115,99,114,105,112,116,105,111,110]).toList)
 (k00 PP fq108 #[(pq p)] H ⟨OA,fun x=>(.tuple #[(.pointer x),nI])⟩ fun(x69:OA) H70=>
 k00 PP fq87 #[(.iface tq102 (.pointer x69)),nI] H70 pSlE fun(x71:Sl) H72=>
 rk [(.slice x71.1 x71.2.1 x71.2.2),nI] H72 R)
 (k02 (name.toList==(bs [111,112,101,114,97,116,105,111,110]).toList)
 (k00 PP fq109 #[(pq p)] H ⟨Nat,fun x=>(.tuple #[(.iface tq200 (pq x)),nI])⟩ fun(x73:Nat) H74=>
 k00 PP fq87 #[(.iface tq200 (pq x73)),nI] H74 pSlE fun(x75:Sl) H76=>
 rk [(.slice x75.1 x75.2.1 x75.2.2),nI] H76 R)
 (k02 (name.toList==(bs [102,114,97,103,109,101,110,116]).toList)
 (k00 PP fq110 #[(pq p)] H ⟨Nat,fun x=>(.tuple #[(.iface tq203 (pq x)),nI])⟩ fun(x77:Nat) H78=>
 k00 PP fq87 #[(.iface tq203 (pq x77)),nI] H78 pSlE fun(x79:Sl) H80=>
 rk [(.slice x79.1 x79.2.1 x79.2.2),nI] H80 R)
 (k02 (name.toList==(bs [118,97,114,105,97,98,108,101]).toList)
 (k00 PP fq111 #[(pq p)] H ⟨Nat,fun x=>(.tuple #[(.iface tq93 (pq x)),nI])⟩ fun(x81:Nat) H82=>
 k00 PP fq87 #[(.iface tq93 (pq x81)),nI] H82 pSlE fun(x83:Sl) H84=>
 rk [(.slice x83.1 x83.2.1 x83.2.2),nI] H84 R)
 (k02 (name.toList==(bs [102,105,101,108,100]).toList)
 (k00 PP fq112 #[(pq p)] H pBlE fun(x85:Nat) H86=>
 k00 PP fq87 #[(.iface tq126 (pq x85)),nI] H86 pSlE fun(x87:Sl) H88=>
 rk [(.slice x87.1 x87.2.1 x87.2.2),nI] H88 R)
 (k02 (name.toList==(bs [115,112,114,101,97,100]).toList)
 (k00 PP fq113 #[(pq p)] H pIfE fun(x89:(Nat×Nat)) H90=>
 k00 PP fq87 #[(.iface x89.1 (pq x89.2)),nI] H90 pSlE fun(x91:Sl) H92=>
 rk [(.slice x91.1 x91.2.1 x91.2.2),nI] H92 R)
 (k02 (name.toList==(bs [97,114,103,117,109,101,110,116]).toList)
 (k00 PP fq114 #[(pq p)] H ⟨Nat,fun x=>(.tuple #[(.iface tq96 (pq x)),nI])⟩ fun(x93:Nat) H94=>
 k00 PP fq87 #[(.iface tq96 (pq x93)),nI] H94 pSlE fun(x95:Sl) H96=>
 rk [(.slice x95.1 x95.2.1 x95.2.2),nI] H96 R)
 (k02 (name.toList==(bs [100,105,114,101,99,116,105,118,101]).toList)
 (k00 PP fq115 #[(pq p)] H pBlE fun(x97:Nat) H98=>
 k00 PP fq87 #[(.iface tq99 (pq x97)),nI] H98 pSlE fun(x99:Sl) H100=>
 rk [(.slice x99.1 x99.2.1 x99.2.2),nI] H100 R)
 (k00 PP fq116 #[] H ⟨Unit,fun _=>nI⟩ fun(_:Unit) H102=>
 rk [(.slice none 0 0),nI] H102 R)))))))))))))))))))))))))
theorem k0x.enter (p:Nat) (name:BA) (H:Heap) (R:RR) (h:k0x.W p name H R):Fn PP fq62 #[(pq p),(.string name)] H R:=
 fnE Tryz.func62 (hz [(10,⟨Nat,fun x=>(.tuple #[(.iface tq218 (pq x)),nI])⟩),(13,pSlE),(19,⟨Nat,fun x=>(.tuple #[(.iface tq104 (pq x)),nI])⟩),(22,pSlE),(28,⟨Nat,fun x=>(.tuple #[(.iface tq231 (pq x)),nI])⟩),(31,pSlE),(37,⟨Nat,fun x=>(.tuple #[(.iface tq235 (pq x)),nI])⟩),(40,pSlE),(46,pSlE),(49,pSlE),(55,⟨Nat,fun x=>(.tuple #[(.iface tq117 (pq x)),nI])⟩),(58,pSlE),(64,pSlE),(67,pSlE),(73,⟨Nat,fun x=>(.tuple #[(.iface tq120 (pq x)),nI])⟩),(76,pSlE),(82,⟨Nat,fun x=>(.tuple #[(.iface tq248 (pq x)),nI])⟩),(85,pSlE),(91,⟨Nat,fun x=>(.tuple #[(.iface tq252 (pq x)),nI])⟩),(94,pSlE),(100,pSlE),(103,pSlE),(109,⟨Nat,fun x=>(.tuple #[(.iface tq257 (pq x)),nI])⟩),(112,pSlE),(118,⟨Nat,fun x=>(.tuple #[(.iface tq123 (pq x)),nI])⟩),(121,pSlE),(127,⟨Nat,fun x=>(.tuple #[(.iface tq262 (pq x)),nI])⟩),(130,pSlE),(136,⟨Nat,fun x=>(.tuple #[(.iface tq266 (pq x)),nI])⟩),(139,pSlE),(145,⟨Nat,fun x=>(.tuple #[(.iface tq270 (pq x)),nI])⟩),(148,pSlE),(154,pSlE),(157,pSlE),(163,⟨OA,fun x=>(.tuple #[(.pointer x),nI])⟩),(167,pSlE),(173,⟨Nat,fun x=>(.tuple #[(.iface tq200 (pq x)),nI])⟩),(176,pSlE),(182,⟨Nat,fun x=>(.tuple #[(.iface tq203 (pq x)),nI])⟩),(185,pSlE),(191,⟨Nat,fun x=>(.tuple #[(.iface tq93 (pq x)),nI])⟩),(194,pSlE),(200,pBlE),(204,pSlE),(210,pIfE),(213,pSlE),(219,⟨Nat,fun x=>(.tuple #[(.iface tq96 (pq x)),nI])⟩),(222,pSlE),(228,pBlE),(232,pSlE),(235,⟨Unit,fun _=>nI⟩)]) (by unfold k0x.W;kernel_rfl) h
end Go.Vx
