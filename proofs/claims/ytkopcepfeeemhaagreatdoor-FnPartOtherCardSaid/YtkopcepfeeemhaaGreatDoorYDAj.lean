/- A part of the proof of what the last text of this claim says: WB1. Conditions: none. -/
import Derived.Test.YtkopcepfeeemhaaGreatDoorYDAc
namespace Go.Vx
open Go Go.Proofs
set_option maxRecDepth 100000
def runeAt.W (body bodyO bodyN bodyC:Nat) (position:Int) (H:Heap) (R:RR):Prop:=
 k02 (decide (((bodyN:Nat):Int)≤position))
 (rk [(.int .i32 (-1)),(.int .i64 65533)] H R)
 ((IxOk (some ⟨body,bodyO,none⟩) position bodyN)∧
 k01 H false 1 ⟨body,(bodyO+position.toNat*1),none⟩ (pInt .u8) fun(x1:Int)=>
 k02 (decide (x1<128))
 (rk [(.int .i32 (IntKind.i32.wrap x1)),(.int .i64 1)] H R)
 (((0:Int)≤position∧position≤((bodyN:Nat):Int))∧
 k00 PP fq240 #[(.slice (some ⟨body,(slcO bodyO bodyC position.toNat 1),none⟩) (bodyN -position.toNat) (bodyC -position.toNat))] H pRu fun(x2:Int×Int) H3=>
 rk [(.int .i32 x2.1),(.int .i64 x2.2)] H3 R))
theorem runeAt.enter (body bodyO bodyN bodyC:Nat) (position:Int) (H:Heap) (R:RR) (h:runeAt.W body bodyO bodyN bodyC position H R):Fn PP fq227 #[(.slice (some ⟨body,bodyO,none⟩) bodyN bodyC),(.int .i64 position)] H R:=
 fnE Tryz.func227 (hz [(16,(pInt .u8)),(25,pRu)]) (by unfold runeAt.W;kernel_rfl) h
def makeToken.W (kind:Int) (st:Int) (en:Int) (value:BA) (H:Heap) (R:RR):Prop:=
 newB H (.cells #[(.int .i64 0),(.int .i64 0),(.int .i64 0),sE] tq85) fun b1 H2=>
 k08 H2 ⟨b1,0,none⟩ [(.int .i64 kind),(.int .i64 st),(.int .i64 en),(.string value)] fun H3=>
 retK (k09 (k07 H3 true 4 ⟨b1,0,none⟩) (some [])) H3 R
theorem makeToken.enter (kind:Int) (st:Int) (en:Int) (value:BA) (H:Heap) (R:RR) (h:makeToken.W kind st en value H R):Fn PP fq226 #[(.int .i64 kind),(.int .i64 st),(.int .i64 en),(.string value)] H R:=
 fnE Tryz.func226 (hz []) (by unfold makeToken.W;kernel_rfl) h
def k6w.W (body bodyO bodyN bodyC:Nat) (st:Int) (H:Heap) (R:RR):Prop:=
 k0e (Int×Int×Unit) (st,st,()) H fun z1 H2 next3=>
 k02 (decide (z1.1<((bodyN:Nat):Int)))
 (k00 PP fq227 #[(.slice (some ⟨body,bodyO,none⟩) bodyN bodyC),(.int .i64 z1.1)] H2 pRu fun(x4:Int×Int) H5=>
 k0j (Bool×Unit) H5 (fun J6=>
 k02 (x4.1==65279)
 (J6 (true,()) H5)
 (k02 (x4.1==9)
 (J6 (true,()) H5)
 (k02 (x4.1==32)
 (J6 (true,()) H5)
 (k02 (x4.1==10)
 (J6 (true,()) H5)
 (k02 (x4.1==13)
 (J6 (true,()) H5)
 (J6 ((x4.1==44),()) H5)))))) fun y7=>
 k0d (Int×Int×Unit) (fun J8=>
 k02 y7.1
 (J8 ((IntKind.i64.wrap (z1.1+x4.2)),(IntKind.i64.wrap (z1.2.1+1)),()) H5)
 (k02 (x4.1==35)
 (k0e (Int×Int×Unit) ((IntKind.i64.wrap (z1.1+x4.2)),(IntKind.i64.wrap (z1.2.1+1)),()) H5 fun z11 H12 next13=>
 k00 PP fq227 #[(.slice (some ⟨body,bodyO,none⟩) bodyN bodyC),(.int .i64 z11.1)] H12 pRu fun(x14:Int×Int) H15=>
 k0j (Bool×Unit) H15 (fun J16=>
 k02 (decide (z11.1<((bodyN:Nat):Int)))
 (k02 (x14.1 !=0)
 (k02 (decide (x14.1>31))
 (k02 (x14.1 !=10)
 (J16 ((x14.1 !=13),()) H15)
 (J16 (false,()) H15))
 (k02 (x14.1==9)
 (k02 (x14.1 !=10)
 (J16 ((x14.1 !=13),()) H15)
 (J16 (false,()) H15))
 (J16 (false,()) H15)))
 (J16 (false,()) H15))
 (J16 (false,()) H15)) fun y17=>
 k02 y17.1
 (next13 ((IntKind.i64.wrap (z11.1+x14.2)),(IntKind.i64.wrap (z11.2.1+1)),()) H15)
 (J8 (z11.1,z11.2.1,()) H15))
 (rk [(.int .i64 z1.1),(.int .i64 z1.2.1)] H5 R))) fun y9 H10=>
 next3 (y9.1,y9.2.1,()) H10)
 (rk [(.int .i64 z1.1),(.int .i64 z1.2.1)] H2 R)
theorem k6w.enter (body bodyO bodyN bodyC:Nat) (st:Int) (H:Heap) (R:RR) (h:k6w.W body bodyO bodyN bodyC st H R):Fn PP fq225 #[(.slice (some ⟨body,bodyO,none⟩) bodyN bodyC),(.int .i64 st)] H R:=
 fnE Tryz.func225 ⟨patL [(21,pRu),(61,pRu)],k06 [(0,[Slot.int .i64 4,Slot.int .i64 5]),(2,[Slot.int .i64 4,Slot.int .i64 5])],k03 [(45,[Slot.int .i64 4,Slot.int .i64 5])],k03 [],k05 [(6,[Slot.bool 45],true),(13,[Slot.bool 86],true)]⟩ (by unfold k6w.W;kernel_rfl) h
def readName.W (src:Nat) (position:Int) (runePos:Int) (H:Heap) (R:RR):Prop:=
 newB H (.cells #[(.int .i64 0),(.int .i64 0),(.int .i64 0),sE] tq85) fun b1 H2=>
 lw H2 src 0 pSl4 fun(x3:(Nat×Nat×Nat×Nat))=>
 k0e (Int×Int×Unit) ((IntKind.i64.wrap (position+1)),(IntKind.i64.wrap (runePos+1)),()) H2 fun z4 H5 next6=>
 k00 PP fq227 #[(.slice (some ⟨x3.1,x3.2.1,none⟩) x3.2.2.1 x3.2.2.2),(.int .i64 z4.1)] H5 pRu fun(x7:Int×Int) H8=>
 k0j (Bool×Unit) H8 (fun J9=>
 k02 (z4.1 !=((x3.2.2.1:Nat):Int))
 (k02 (x7.1==95)
 (J9 (true,()) H8)
 (k02 (decide (x7.1≥48))
 (k02 (decide (x7.1≤57))
 (J9 (true,()) H8)
 (k02 (decide (x7.1≥65))
 (k02 (decide (x7.1≤90))
 (J9 (true,()) H8)
 (k02 (decide (x7.1≥97))
 (J9 ((decide (x7.1≤122)),()) H8)
 (J9 (false,()) H8)))
 (k02 (decide (x7.1≥97))
 (J9 ((decide (x7.1≤122)),()) H8)
 (J9 (false,()) H8))))
 (k02 (decide (x7.1≥65))
 (k02 (decide (x7.1≤90))
 (J9 (true,()) H8)
 (k02 (decide (x7.1≥97))
 (J9 ((decide (x7.1≤122)),()) H8)
 (J9 (false,()) H8)))
 (k02 (decide (x7.1≥97))
 (J9 ((decide (x7.1≤122)),()) H8)
 (J9 (false,()) H8)))))
 (J9 (false,()) H8)) fun y10=>
 k02 y10.1
 (next6 ((IntKind.i64.wrap (z4.1+1)),(IntKind.i64.wrap (z4.2.1+1)),()) H8)
 ((((0:Int)≤z4.1∧z4.1≤((x3.2.2.2:Nat):Int))∧((0:Int)≤position∧position≤((z4.1.toNat:Nat):Int)))∧
 k8w H8 ⟨x3.1,(slcO x3.2.1 x3.2.2.2 position.toNat 1),none⟩ (z4.1.toNat -position.toNat) fun s11=>
 k00 PP fq226 #[(.int .i64 15),(.int .i64 runePos),(.int .i64 z4.2.1),(.string s11)] H8 pTk fun(x12:Int×Int×Int×BA) H13=>
 k08 H13 ⟨b1,0,none⟩ [(.int .i64 x12.1),(.int .i64 x12.2.1),(.int .i64 x12.2.2.1),(.string x12.2.2.2)] fun H14=>
 retK (k09 (k07 H14 true 4 ⟨b1,0,none⟩) (some [])) H14 R)
theorem readName.enter (src:Nat) (position:Int) (runePos:Int) (H:Heap) (R:RR) (h:readName.W src position runePos H R):Fn PP fq228 #[(pq src),(.int .i64 position),(.int .i64 runePos)] H R:=
 fnE Tryz.func228 ⟨patL [(16,pSl4),(26,pRu),(71,pTk)],k06 [(0,[Slot.int .i64 9,Slot.int .i64 10])],k03 [],k03 [],k05 [(6,[Slot.bool 59],true)]⟩ (by unfold readName.W;kernel_rfl) h
def readDigits.W (src:Nat) (st:Int) (code:Int) (len_:Int) (H:Heap) (R:RR):Prop:=
 lw H src 0 pSl4 fun(x1:(Nat×Nat×Nat×Nat))=>
 k0j (Bool×Unit) H (fun J2=>
 k02 (decide (code≥48))
 (J2 ((decide (code≤57)),()) H)
 (J2 (false,()) H)) fun y3=>
 k02 y3.1
 (k0e (Int×Int×Int×Unit) (len_,st,code,()) H fun z4 H5 next6=>
 k0j (Bool×Unit) H5 (fun J7=>
 k02 (decide (z4.2.2.1≥48))
 (J7 ((decide (z4.2.2.1≤57)),()) H5)
 (J7 (false,()) H5)) fun y8=>
 k02 y8.1
 (k00 PP fq227 #[(.slice (some ⟨x1.1,x1.2.1,none⟩) x1.2.2.1 x1.2.2.2),(.int .i64 (IntKind.i64.wrap (z4.2.1+z4.1)))] H5 pRu fun(x9:Int×Int) H10=>
 next6 (x9.2,(IntKind.i64.wrap (z4.2.1+z4.1)),x9.1,()) H10)
 (rk [(.int .i64 z4.2.1),nI] H5 R))
 (k00 PP fq198 #[(pq src),(.int .i64 st),(.string (bs [73,110,118,97,108,105,100,32,110,117,109,98,101,114,44,32,101,120,112,101,99,116,101,100,32,100,105,103,105,116,32,98,117,116,32,103,111,116,58,32,37,118,46]))] H pBlk fun(x11:Nat) H12=>
 rk [(.int .i64 st),(.iface tq328 (pq x11))] H12 R)
theorem readDigits.enter (src:Nat) (st:Int) (code:Int) (len_:Int) (H:Heap) (R:RR) (h:readDigits.W src st code len_ H R):Fn PP fq241 #[(pq src),(.int .i64 st),(.int .i32 code),(.int .i64 len_)] H R:=
 fnE Tryz.func241 ⟨patL [(17,pSl4),(38,pRu),(46,pBlk)],k06 [(0,[Slot.int .i64 3,Slot.int .i64 11,Slot.int .i32 12])],k03 [],k03 [],k05 [(4,[Slot.bool 25],true),(5,[Slot.bool 31],true)]⟩ (by unfold readDigits.W;kernel_rfl) h
def readNumber.W (src:Nat) (st:Int) (code:Int) (len_:Int) (H:Heap) (R:RR):Prop:=
 newB H (.cells #[(.int .i64 0),(.int .i64 0),(.int .i64 0),sE] tq85) fun b1 H2=>
 lw H2 src 0 pSl4 fun(x3:(Nat×Nat×Nat×Nat))=>
 k0d (Int×Int×Int×Unit) (fun J4=>
 k02 (code==45)
 (k00 PP fq227 #[(.slice (some ⟨x3.1,x3.2.1,none⟩) x3.2.2.1 x3.2.2.2),(.int .i64 (IntKind.i64.wrap (st+len_)))] H2 pRu fun(x7:Int×Int) H8=>
 J4 (x7.2,x7.1,(IntKind.i64.wrap (st+len_)),()) H8)
 (J4 (len_,code,st,()) H2)) fun y5 H6=>
 k0d (Int×Int×Int×Unit) (fun J9=>
 k02 (y5.2.1==48)
 (k00 PP fq227 #[(.slice (some ⟨x3.1,x3.2.1,none⟩) x3.2.2.1 x3.2.2.2),(.int .i64 (IntKind.i64.wrap (y5.2.2.1+y5.1)))] H6 pRu fun(x12:Int×Int) H13=>
 k0j (Bool×Unit) H13 (fun J14=>
 k02 (decide (x12.1≥48))
 (J14 ((decide (x12.1≤57)),()) H13)
 (J14 (false,()) H13)) fun y15=>
 k02 y15.1
 (k00 PP fq198 #[(pq src),(.int .i64 (IntKind.i64.wrap (y5.2.2.1+y5.1))),(.string (bs [73,110,118,97,108,105,100,32,110,117,109,98,101,114,44,32,117,110,101,120,112,101,99,116,101,100,32,100,105,103,105,116,32,97,102,116,101,114,32,48,58,32,37,118,46]))] H13 pBlk fun(x16:Nat) H17=>
 k08 H17 ⟨b1,0,none⟩ [(.int .i64 0),(.int .i64 0),(.int .i64 0),sE] fun H18=>
 retK (k09 (k07 H18 true 4 ⟨b1,0,none⟩) ((k09 (some (.iface tq328 (pq x16))) (some [])))) H18 R)
 (J9 (x12.2,x12.1,(IntKind.i64.wrap (y5.2.2.1+y5.1)),()) H13))
 (k00 PP fq241 #[(pq src),(.int .i64 y5.2.2.1),(.int .i32 y5.2.1),(.int .i64 y5.1)] H6 pIE fun(x19:Int) H20=>
 k00 PP fq227 #[(.slice (some ⟨x3.1,x3.2.1,none⟩) x3.2.2.1 x3.2.2.2),(.int .i64 x19)] H20 pRu fun(x21:Int×Int) H22=>
 J9 (x21.2,x21.1,x19,()) H22)) fun y10 H11=>
 k0d (Int×Int×Int×Bool×Unit) (fun J23=>
 k02 (y10.2.1==46)
 (k00 PP fq227 #[(.slice (some ⟨x3.1,x3.2.1,none⟩) x3.2.2.1 x3.2.2.2),(.int .i64 (IntKind.i64.wrap (y10.2.2.1+y10.1)))] H11 pRu fun(x26:Int×Int) H27=>
 k00 PP fq241 #[(pq src),(.int .i64 (IntKind.i64.wrap (y10.2.2.1+y10.1))),(.int .i32 x26.1),(.int .i64 x26.2)] H27 pIE fun(x28:Int) H29=>
 k00 PP fq227 #[(.slice (some ⟨x3.1,x3.2.1,none⟩) x3.2.2.1 x3.2.2.2),(.int .i64 x28)] H29 pRu fun(x30:Int×Int) H31=>
 J23 (x30.2,x30.1,x28,true,()) H31)
 (J23 (y10.1,y10.2.1,y10.2.2.1,false,()) H11)) fun y24 H25=>
 k0j (Bool×Unit) H25 (fun J32=>
 k02 (y24.2.1==69)
 (J32 (true,()) H25)
 (J32 ((y24.2.1==101),()) H25)) fun y33=>
 k0d (Int×Bool×Unit) (fun J34=>
 k02 y33.1
 (k00 PP fq227 #[(.slice (some ⟨x3.1,x3.2.1,none⟩) x3.2.2.1 x3.2.2.2),(.int .i64 (IntKind.i64.wrap (y24.2.2.1+y24.1)))] H25 pRu fun(x37:Int×Int) H38=>
 k0j (Bool×Unit) H38 (fun J39=>
 k02 (x37.1==43)
 (J39 (true,()) H38)
 (J39 ((x37.1==45),()) H38)) fun y40=>
 k0d (Int×Int×Int×Unit) (fun J41=>
 k02 y40.1
 (k00 PP fq227 #[(.slice (some ⟨x3.1,x3.2.1,none⟩) x3.2.2.1 x3.2.2.2),(.int .i64 (IntKind.i64.wrap ((IntKind.i64.wrap (y24.2.2.1+y24.1))+x37.2)))] H38 pRu fun(x44:Int×Int) H45=>
 J41 (x44.2,x44.1,(IntKind.i64.wrap ((IntKind.i64.wrap (y24.2.2.1+y24.1))+x37.2)),()) H45)
 (J41 (x37.2,x37.1,(IntKind.i64.wrap (y24.2.2.1+y24.1)),()) H38)) fun y42 H43=>
 k00 PP fq241 #[(pq src),(.int .i64 y42.2.2.1),(.int .i32 y42.2.1),(.int .i64 y42.1)] H43 pIE fun(x46:Int) H47=>
 J34 (x46,true,()) H47)
 (J34 (y24.2.2.1,y24.2.2.2.1,()) H25)) fun y35 H36=>
 k0d (Int×Unit) (fun J48=>
 k02 y35.2.1
 (J48 (17,()) H36)
 (J48 (16,()) H36)) fun y49 H50=>
 (((0:Int)≤y35.1∧y35.1≤((x3.2.2.2:Nat):Int))∧((0:Int)≤st∧st≤((y35.1.toNat:Nat):Int)))∧
 k8w H50 ⟨x3.1,(slcO x3.2.1 x3.2.2.2 st.toNat 1),none⟩ (y35.1.toNat -st.toNat) fun s51=>
 k00 PP fq226 #[(.int .i64 y49.1),(.int .i64 st),(.int .i64 y35.1),(.string s51)] H50 pTk fun(x52:Int×Int×Int×BA) H53=>
 k08 H53 ⟨b1,0,none⟩ [(.int .i64 x52.1),(.int .i64 x52.2.1),(.int .i64 x52.2.2.1),(.string x52.2.2.2)] fun H54=>
 retK (k09 (k07 H54 true 4 ⟨b1,0,none⟩) ((k09 (some nI) (some [])))) H54 R
theorem readNumber.enter (src:Nat) (st:Int) (code:Int) (len_:Int) (H:Heap) (R:RR) (h:readNumber.W src st code len_ H R):Fn PP fq229 #[(pq src),(.int .i64 st),(.int .i32 code),(.int .i64 len_)] H R:=
 fnE Tryz.func229 ⟨patL [(26,pSl4),(36,pRu),(47,pRu),(60,pBlk),(67,pIE),(78,pRu),(89,pRu),(97,pIE),(108,pRu),(123,pRu),(138,pRu),(146,pIE),(163,pTk)],k06 [],k03 [(29,[Slot.int .i64 3,Slot.int .i32 10,Slot.int .i64 12]),(40,[Slot.int .i64 3,Slot.int .i32 10,Slot.int .i64 12]),(82,[Slot.int .i64 3,Slot.int .i32 10,Slot.int .i64 12,Slot.bool 13]),(116,[Slot.int .i64 12,Slot.bool 13]),(131,[Slot.int .i64 3,Slot.int .i32 10,Slot.int .i64 12]),(154,[Slot.int .i64 21])],k03 [],k05 [(11,[Slot.bool 55],true),(28,[Slot.bool 116],true),(32,[Slot.bool 131],true)]⟩ (by unfold readNumber.W;kernel_rfl) h
def readToken.W (src:Nat) (from_:Int) (H:Heap) (R:RR):Prop:=
 newB H (.cells #[(.int .i64 0),(.int .i64 0),(.int .i64 0),sE] tq85) fun b1 H2=>
 lw H2 src 0 pSl4 fun(x3:(Nat×Nat×Nat×Nat))=>
 k00 PP fq225 #[(.slice (some ⟨x3.1,x3.2.1,none⟩) x3.2.2.1 x3.2.2.2),(.int .i64 from_)] H2 pII fun(x4:Int×Int) H5=>
 k02 (decide (x4.1≥((x3.2.2.1:Nat):Int)))
 (k00 PP fq226 #[(.int .i64 1),(.int .i64 x4.1),(.int .i64 x4.1),sE] H5 pTk fun(x6:Int×Int×Int×BA) H7=>
 k08 H7 ⟨b1,0,none⟩ [(.int .i64 x6.1),(.int .i64 x6.2.1),(.int .i64 x6.2.2.1),(.string x6.2.2.2)] fun H8=>
 retK (k09 (k07 H8 true 4 ⟨b1,0,none⟩) ((k09 (some nI) (some [])))) H8 R)
 (k00 PP fq227 #[(.slice (some ⟨x3.1,x3.2.1,none⟩) x3.2.2.1 x3.2.2.2),(.int .i64 x4.1)] H5 pRu fun(x9:Int×Int) H10=>
 k0j (Bool×Unit) H10 (fun J11=>
 k02 (decide (x9.1<32))
 (k02 (x9.1 !=9)
 (k02 (x9.1 !=10)
 (J11 ((x9.1 !=13),()) H10)
 (J11 (false,()) H10))
 (J11 (false,()) H10))
 (J11 (false,()) H10)) fun y12=>
 k02 y12.1
 (k00 PP fq198 #[(pq src),(.int .i64 x4.2),(.string (bs [73,110,118,97,108,105,100,32,99,104,97,114,97,99,116,101,114,32,37,118]))] H10 pBlk fun(x13:Nat) H14=>
 k08 H14 ⟨b1,0,none⟩ [(.int .i64 0),(.int .i64 0),(.int .i64 0),sE] fun H15=>
 retK (k09 (k07 H15 true 4 ⟨b1,0,none⟩) ((k09 (some (.iface tq328 (pq x13))) (some [])))) H15 R)
 (k0d (Unit) (fun J16=>
 k02 (x9.1==33)
 (k00 PP fq226 #[(.int .i64 2),(.int .i64 x4.1),(.int .i64 (IntKind.i64.wrap (x4.1+1))),sE] H10 pTk fun(x19:Int×Int×Int×BA) H20=>
 k08 H20 ⟨b1,0,none⟩ [(.int .i64 x19.1),(.int .i64 x19.2.1),(.int .i64 x19.2.2.1),(.string x19.2.2.2)] fun H21=>
 retK (k09 (k07 H21 true 4 ⟨b1,0,none⟩) ((k09 (some nI) (some [])))) H21 R)
 (k02 (x9.1==36)
 (k00 PP fq226 #[(.int .i64 3),(.int .i64 x4.1),(.int .i64 (IntKind.i64.wrap (x4.1+1))),sE] H10 pTk fun(x22:Int×Int×Int×BA) H23=>
 k08 H23 ⟨b1,0,none⟩ [(.int .i64 x22.1),(.int .i64 x22.2.1),(.int .i64 x22.2.2.1),(.string x22.2.2.2)] fun H24=>
 retK (k09 (k07 H24 true 4 ⟨b1,0,none⟩) ((k09 (some nI) (some [])))) H24 R)
 (k02 (x9.1==38)
 (k00 PP fq226 #[(.int .i64 20),(.int .i64 x4.1),(.int .i64 (IntKind.i64.wrap (x4.1+1))),sE] H10 pTk fun(x25:Int×Int×Int×BA) H26=>
 k08 H26 ⟨b1,0,none⟩ [(.int .i64 x25.1),(.int .i64 x25.2.1),(.int .i64 x25.2.2.1),(.string x25.2.2.2)] fun H27=>
 retK (k09 (k07 H27 true 4 ⟨b1,0,none⟩) ((k09 (some nI) (some [])))) H27 R)
 (k02 (x9.1==40)
 (k00 PP fq226 #[(.int .i64 4),(.int .i64 x4.1),(.int .i64 (IntKind.i64.wrap (x4.1+1))),sE] H10 pTk fun(x28:Int×Int×Int×BA) H29=>
 k08 H29 ⟨b1,0,none⟩ [(.int .i64 x28.1),(.int .i64 x28.2.1),(.int .i64 x28.2.2.1),(.string x28.2.2.2)] fun H30=>
 retK (k09 (k07 H30 true 4 ⟨b1,0,none⟩) ((k09 (some nI) (some [])))) H30 R)
 (k02 (x9.1==41)
 (k00 PP fq226 #[(.int .i64 5),(.int .i64 x4.1),(.int .i64 (IntKind.i64.wrap (x4.1+1))),sE] H10 pTk fun(x31:Int×Int×Int×BA) H32=>
 k08 H32 ⟨b1,0,none⟩ [(.int .i64 x31.1),(.int .i64 x31.2.1),(.int .i64 x31.2.2.1),(.string x31.2.2.2)] fun H33=>
 retK (k09 (k07 H33 true 4 ⟨b1,0,none⟩) ((k09 (some nI) (some [])))) H33 R)
 (k02 (x9.1==46)
 (k00 PP fq227 #[(.slice (some ⟨x3.1,x3.2.1,none⟩) x3.2.2.1 x3.2.2.2),(.int .i64 (IntKind.i64.wrap (x4.1+1)))] H10 pRu fun(x34:Int×Int) H35=>
 k00 PP fq227 #[(.slice (some ⟨x3.1,x3.2.1,none⟩) x3.2.2.1 x3.2.2.2),(.int .i64 (IntKind.i64.wrap (x4.1+2)))] H35 pRu fun(x36:Int×Int) H37=>
 k0j (Bool×Unit) H37 (fun J38=>
 k02 (x34.1==46)
 (J38 ((x36.1==46),()) H37)
 (J38 (false,()) H37)) fun y39=>
 k02 y39.1
 (k00 PP fq226 #[(.int .i64 6),(.int .i64 x4.1),(.int .i64 (IntKind.i64.wrap (x4.1+3))),sE] H37 pTk fun(x40:Int×Int×Int×BA) H41=>
 k08 H41 ⟨b1,0,none⟩ [(.int .i64 x40.1),(.int .i64 x40.2.1),(.int .i64 x40.2.2.1),(.string x40.2.2.2)] fun H42=>
 retK (k09 (k07 H42 true 4 ⟨b1,0,none⟩) ((k09 (some nI) (some [])))) H42 R)
 (J16 (()) H37))
 (k02 (x9.1==58)
 (k00 PP fq226 #[(.int .i64 7),(.int .i64 x4.1),(.int .i64 (IntKind.i64.wrap (x4.1+1))),sE] H10 pTk fun(x43:Int×Int×Int×BA) H44=>
 k08 H44 ⟨b1,0,none⟩ [(.int .i64 x43.1),(.int .i64 x43.2.1),(.int .i64 x43.2.2.1),(.string x43.2.2.2)] fun H45=>
 retK (k09 (k07 H45 true 4 ⟨b1,0,none⟩) ((k09 (some nI) (some [])))) H45 R)
 (k02 (x9.1==61)
 (k00 PP fq226 #[(.int .i64 8),(.int .i64 x4.1),(.int .i64 (IntKind.i64.wrap (x4.1+1))),sE] H10 pTk fun(x46:Int×Int×Int×BA) H47=>
 k08 H47 ⟨b1,0,none⟩ [(.int .i64 x46.1),(.int .i64 x46.2.1),(.int .i64 x46.2.2.1),(.string x46.2.2.2)] fun H48=>
 retK (k09 (k07 H48 true 4 ⟨b1,0,none⟩) ((k09 (some nI) (some [])))) H48 R)
 (k02 (x9.1==64)
 (k00 PP fq226 #[(.int .i64 9),(.int .i64 x4.1),(.int .i64 (IntKind.i64.wrap (x4.1+1))),sE] H10 pTk fun(x49:Int×Int×Int×BA) H50=>
 k08 H50 ⟨b1,0,none⟩ [(.int .i64 x49.1),(.int .i64 x49.2.1),(.int .i64 x49.2.2.1),(.string x49.2.2.2)] fun H51=>
 retK (k09 (k07 H51 true 4 ⟨b1,0,none⟩) ((k09 (some nI) (some [])))) H51 R)
 (k02 (x9.1==91)
 (k00 PP fq226 #[(.int .i64 10),(.int .i64 x4.1),(.int .i64 (IntKind.i64.wrap (x4.1+1))),sE] H10 pTk fun(x52:Int×Int×Int×BA) H53=>
 k08 H53 ⟨b1,0,none⟩ [(.int .i64 x52.1),(.int .i64 x52.2.1),(.int .i64 x52.2.2.1),(.string x52.2.2.2)] fun H54=>
 retK (k09 (k07 H54 true 4 ⟨b1,0,none⟩) ((k09 (some nI) (some [])))) H54 R)
 (k02 (x9.1==93)
 (k00 PP fq226 #[(.int .i64 11),(.int .i64 x4.1),(.int .i64 (IntKind.i64.wrap (x4.1+1))),sE] H10 pTk fun(x55:Int×Int×Int×BA) H56=>
 k08 H56 ⟨b1,0,none⟩ [(.int .i64 x55.1),(.int .i64 x55.2.1),(.int .i64 x55.2.2.1),(.string x55.2.2.2)] fun H57=>
 retK (k09 (k07 H57 true 4 ⟨b1,0,none⟩) ((k09 (some nI) (some [])))) H57 R)
 (k02 (x9.1==123)
 (k00 PP fq226 #[(.int .i64 12),(.int .i64 x4.1),(.int .i64 (IntKind.i64.wrap (x4.1+1))),sE] H10 pTk fun(x58:Int×Int×Int×BA) H59=>
 k08 H59 ⟨b1,0,none⟩ [(.int .i64 x58.1),(.int .i64 x58.2.1),(.int .i64 x58.2.2.1),(.string x58.2.2.2)] fun H60=>
 retK (k09 (k07 H60 true 4 ⟨b1,0,none⟩) ((k09 (some nI) (some [])))) H60 R)
 (k02 (x9.1==124)
 (k00 PP fq226 #[(.int .i64 13),(.int .i64 x4.1),(.int .i64 (IntKind.i64.wrap (x4.1+1))),sE] H10 pTk fun(x61:Int×Int×Int×BA) H62=>
 k08 H62 ⟨b1,0,none⟩ [(.int .i64 x61.1),(.int .i64 x61.2.1),(.int .i64 x61.2.2.1),(.string x61.2.2.2)] fun H63=>
 retK (k09 (k07 H63 true 4 ⟨b1,0,none⟩) ((k09 (some nI) (some [])))) H63 R)
 (k02 (x9.1==125)
 (k00 PP fq226 #[(.int .i64 14),(.int .i64 x4.1),(.int .i64 (IntKind.i64.wrap (x4.1+1))),sE] H10 pTk fun(x64:Int×Int×Int×BA) H65=>
 k08 H65 ⟨b1,0,none⟩ [(.int .i64 x64.1),(.int .i64 x64.2.1),(.int .i64 x64.2.2.1),(.string x64.2.2.2)] fun H66=>
 retK (k09 (k07 H66 true 4 ⟨b1,0,none⟩) ((k09 (some nI) (some [])))) H66 R)
 (k02 (x9.1==65)
 (k00 PP fq228 #[(pq src),(.int .i64 x4.1),(.int .i64 x4.2)] H10 pTk fun(x67:Int×Int×Int×BA) H68=>
 k08 H68 ⟨b1,0,none⟩ [(.int .i64 x67.1),(.int .i64 x67.2.1),(.int .i64 x67.2.2.1),(.string x67.2.2.2)] fun H69=>
 retK (k09 (k07 H69 true 4 ⟨b1,0,none⟩) ((k09 (some nI) (some [])))) H69 R)
 (k02 (x9.1==66)
 (k00 PP fq228 #[(pq src),(.int .i64 x4.1),(.int .i64 x4.2)] H10 pTk fun(x70:Int×Int×Int×BA) H71=>
 k08 H71 ⟨b1,0,none⟩ [(.int .i64 x70.1),(.int .i64 x70.2.1),(.int .i64 x70.2.2.1),(.string x70.2.2.2)] fun H72=>
 retK (k09 (k07 H72 true 4 ⟨b1,0,none⟩) ((k09 (some nI) (some [])))) H72 R)
 (k02 (x9.1==67)
 (k00 PP fq228 #[(pq src),(.int .i64 x4.1),(.int .i64 x4.2)] H10 pTk fun(x73:Int×Int×Int×BA) H74=>
 k08 H74 ⟨b1,0,none⟩ [(.int .i64 x73.1),(.int .i64 x73.2.1),(.int .i64 x73.2.2.1),(.string x73.2.2.2)] fun H75=>
 retK (k09 (k07 H75 true 4 ⟨b1,0,none⟩) ((k09 (some nI) (some [])))) H75 R)
 (k02 (x9.1==68)
 (k00 PP fq228 #[(pq src),(.int .i64 x4.1),(.int .i64 x4.2)] H10 pTk fun(x76:Int×Int×Int×BA) H77=>
 k08 H77 ⟨b1,0,none⟩ [(.int .i64 x76.1),(.int .i64 x76.2.1),(.int .i64 x76.2.2.1),(.string x76.2.2.2)] fun H78=>
 retK (k09 (k07 H78 true 4 ⟨b1,0,none⟩) ((k09 (some nI) (some [])))) H78 R)
 (k02 (x9.1==69)
 (k00 PP fq228 #[(pq src),(.int .i64 x4.1),(.int .i64 x4.2)] H10 pTk fun(x79:Int×Int×Int×BA) H80=>
 k08 H80 ⟨b1,0,none⟩ [(.int .i64 x79.1),(.int .i64 x79.2.1),(.int .i64 x79.2.2.1),(.string x79.2.2.2)] fun H81=>
 retK (k09 (k07 H81 true 4 ⟨b1,0,none⟩) ((k09 (some nI) (some [])))) H81 R)
 (k02 (x9.1==70)
 (k00 PP fq228 #[(pq src),(.int .i64 x4.1),(.int .i64 x4.2)] H10 pTk fun(x82:Int×Int×Int×BA) H83=>
 k08 H83 ⟨b1,0,none⟩ [(.int .i64 x82.1),(.int .i64 x82.2.1),(.int .i64 x82.2.2.1),(.string x82.2.2.2)] fun H84=>
 retK (k09 (k07 H84 true 4 ⟨b1,0,none⟩) ((k09 (some nI) (some [])))) H84 R)
 (k02 (x9.1==71)
 (k00 PP fq228 #[(pq src),(.int .i64 x4.1),(.int .i64 x4.2)] H10 pTk fun(x85:Int×Int×Int×BA) H86=>
 k08 H86 ⟨b1,0,none⟩ [(.int .i64 x85.1),(.int .i64 x85.2.1),(.int .i64 x85.2.2.1),(.string x85.2.2.2)] fun H87=>
 retK (k09 (k07 H87 true 4 ⟨b1,0,none⟩) ((k09 (some nI) (some [])))) H87 R)
 (k02 (x9.1==72)
 (k00 PP fq228 #[(pq src),(.int .i64 x4.1),(.int .i64 x4.2)] H10 pTk fun(x88:Int×Int×Int×BA) H89=>
 k08 H89 ⟨b1,0,none⟩ [(.int .i64 x88.1),(.int .i64 x88.2.1),(.int .i64 x88.2.2.1),(.string x88.2.2.2)] fun H90=>
 retK (k09 (k07 H90 true 4 ⟨b1,0,none⟩) ((k09 (some nI) (some [])))) H90 R)
 (k02 (x9.1==73)
 (k00 PP fq228 #[(pq src),(.int .i64 x4.1),(.int .i64 x4.2)] H10 pTk fun(x91:Int×Int×Int×BA) H92=>
 k08 H92 ⟨b1,0,none⟩ [(.int .i64 x91.1),(.int .i64 x91.2.1),(.int .i64 x91.2.2.1),(.string x91.2.2.2)] fun H93=>
 retK (k09 (k07 H93 true 4 ⟨b1,0,none⟩) ((k09 (some nI) (some [])))) H93 R)
 (k02 (x9.1==74)
 (k00 PP fq228 #[(pq src),(.int .i64 x4.1),(.int .i64 x4.2)] H10 pTk fun(x94:Int×Int×Int×BA) H95=>
 k08 H95 ⟨b1,0,none⟩ [(.int .i64 x94.1),(.int .i64 x94.2.1),(.int .i64 x94.2.2.1),(.string x94.2.2.2)] fun H96=>
 retK (k09 (k07 H96 true 4 ⟨b1,0,none⟩) ((k09 (some nI) (some [])))) H96 R)
 (k02 (x9.1==75)
 (k00 PP fq228 #[(pq src),(.int .i64 x4.1),(.int .i64 x4.2)] H10 pTk fun(x97:Int×Int×Int×BA) H98=>
 k08 H98 ⟨b1,0,none⟩ [(.int .i64 x97.1),(.int .i64 x97.2.1),(.int .i64 x97.2.2.1),(.string x97.2.2.2)] fun H99=>
 retK (k09 (k07 H99 true 4 ⟨b1,0,none⟩) ((k09 (some nI) (some [])))) H99 R)
 (k02 (x9.1==76)
 (k00 PP fq228 #[(pq src),(.int .i64 x4.1),(.int .i64 x4.2)] H10 pTk fun(x100:Int×Int×Int×BA) H101=>
 k08 H101 ⟨b1,0,none⟩ [(.int .i64 x100.1),(.int .i64 x100.2.1),(.int .i64 x100.2.2.1),(.string x100.2.2.2)] fun H102=>
 retK (k09 (k07 H102 true 4 ⟨b1,0,none⟩) ((k09 (some nI) (some [])))) H102 R)
 (k02 (x9.1==77)
 (k00 PP fq228 #[(pq src),(.int .i64 x4.1),(.int .i64 x4.2)] H10 pTk fun(x103:Int×Int×Int×BA) H104=>
 k08 H104 ⟨b1,0,none⟩ [(.int .i64 x103.1),(.int .i64 x103.2.1),(.int .i64 x103.2.2.1),(.string x103.2.2.2)] fun H105=>
 retK (k09 (k07 H105 true 4 ⟨b1,0,none⟩) ((k09 (some nI) (some [])))) H105 R)
 (k02 (x9.1==78)
 (k00 PP fq228 #[(pq src),(.int .i64 x4.1),(.int .i64 x4.2)] H10 pTk fun(x106:Int×Int×Int×BA) H107=>
 k08 H107 ⟨b1,0,none⟩ [(.int .i64 x106.1),(.int .i64 x106.2.1),(.int .i64 x106.2.2.1),(.string x106.2.2.2)] fun H108=>
 retK (k09 (k07 H108 true 4 ⟨b1,0,none⟩) ((k09 (some nI) (some [])))) H108 R)
 (k02 (x9.1==79)
 (k00 PP fq228 #[(pq src),(.int .i64 x4.1),(.int .i64 x4.2)] H10 pTk fun(x109:Int×Int×Int×BA) H110=>
 k08 H110 ⟨b1,0,none⟩ [(.int .i64 x109.1),(.int .i64 x109.2.1),(.int .i64 x109.2.2.1),(.string x109.2.2.2)] fun H111=>
 retK (k09 (k07 H111 true 4 ⟨b1,0,none⟩) ((k09 (some nI) (some [])))) H111 R)
 (k02 (x9.1==80)
 (k00 PP fq228 #[(pq src),(.int .i64 x4.1),(.int .i64 x4.2)] H10 pTk fun(x112:Int×Int×Int×BA) H113=>
 k08 H113 ⟨b1,0,none⟩ [(.int .i64 x112.1),(.int .i64 x112.2.1),(.int .i64 x112.2.2.1),(.string x112.2.2.2)] fun H114=>
 retK (k09 (k07 H114 true 4 ⟨b1,0,none⟩) ((k09 (some nI) (some [])))) H114 R)
 (k02 (x9.1==81)
 (k00 PP fq228 #[(pq src),(.int .i64 x4.1),(.int .i64 x4.2)] H10 pTk fun(x115:Int×Int×Int×BA) H116=>
 k08 H116 ⟨b1,0,none⟩ [(.int .i64 x115.1),(.int .i64 x115.2.1),(.int .i64 x115.2.2.1),(.string x115.2.2.2)] fun H117=>
 retK (k09 (k07 H117 true 4 ⟨b1,0,none⟩) ((k09 (some nI) (some [])))) H117 R)
 (k02 (x9.1==82)
 (k00 PP fq228 #[(pq src),(.int .i64 x4.1),(.int .i64 x4.2)] H10 pTk fun(x118:Int×Int×Int×BA) H119=>
 k08 H119 ⟨b1,0,none⟩ [(.int .i64 x118.1),(.int .i64 x118.2.1),(.int .i64 x118.2.2.1),(.string x118.2.2.2)] fun H120=>
 retK (k09 (k07 H120 true 4 ⟨b1,0,none⟩) ((k09 (some nI) (some [])))) H120 R)
 (k02 (x9.1==83)
 (k00 PP fq228 #[(pq src),(.int .i64 x4.1),(.int .i64 x4.2)] H10 pTk fun(x121:Int×Int×Int×BA) H122=>
 k08 H122 ⟨b1,0,none⟩ [(.int .i64 x121.1),(.int .i64 x121.2.1),(.int .i64 x121.2.2.1),(.string x121.2.2.2)] fun H123=>
 retK (k09 (k07 H123 true 4 ⟨b1,0,none⟩) ((k09 (some nI) (some [])))) H123 R)
 (k02 (x9.1==84)
 (k00 PP fq228 #[(pq src),(.int .i64 x4.1),(.int .i64 x4.2)] H10 pTk fun(x124:Int×Int×Int×BA) H125=>
 k08 H125 ⟨b1,0,none⟩ [(.int .i64 x124.1),(.int .i64 x124.2.1),(.int .i64 x124.2.2.1),(.string x124.2.2.2)] fun H126=>
 retK (k09 (k07 H126 true 4 ⟨b1,0,none⟩) ((k09 (some nI) (some [])))) H126 R)
 (k02 (x9.1==85)
 (k00 PP fq228 #[(pq src),(.int .i64 x4.1),(.int .i64 x4.2)] H10 pTk fun(x127:Int×Int×Int×BA) H128=>
 k08 H128 ⟨b1,0,none⟩ [(.int .i64 x127.1),(.int .i64 x127.2.1),(.int .i64 x127.2.2.1),(.string x127.2.2.2)] fun H129=>
 retK (k09 (k07 H129 true 4 ⟨b1,0,none⟩) ((k09 (some nI) (some [])))) H129 R)
 (k02 (x9.1==86)
 (k00 PP fq228 #[(pq src),(.int .i64 x4.1),(.int .i64 x4.2)] H10 pTk fun(x130:Int×Int×Int×BA) H131=>
 k08 H131 ⟨b1,0,none⟩ [(.int .i64 x130.1),(.int .i64 x130.2.1),(.int .i64 x130.2.2.1),(.string x130.2.2.2)] fun H132=>
 retK (k09 (k07 H132 true 4 ⟨b1,0,none⟩) ((k09 (some nI) (some [])))) H132 R)
 (k02 (x9.1==87)
 (k00 PP fq228 #[(pq src),(.int .i64 x4.1),(.int .i64 x4.2)] H10 pTk fun(x133:Int×Int×Int×BA) H134=>
 k08 H134 ⟨b1,0,none⟩ [(.int .i64 x133.1),(.int .i64 x133.2.1),(.int .i64 x133.2.2.1),(.string x133.2.2.2)] fun H135=>
 retK (k09 (k07 H135 true 4 ⟨b1,0,none⟩) ((k09 (some nI) (some [])))) H135 R)
 (k02 (x9.1==88)
 (k00 PP fq228 #[(pq src),(.int .i64 x4.1),(.int .i64 x4.2)] H10 pTk fun(x136:Int×Int×Int×BA) H137=>
 k08 H137 ⟨b1,0,none⟩ [(.int .i64 x136.1),(.int .i64 x136.2.1),(.int .i64 x136.2.2.1),(.string x136.2.2.2)] fun H138=>
 retK (k09 (k07 H138 true 4 ⟨b1,0,none⟩) ((k09 (some nI) (some [])))) H138 R)
 (k02 (x9.1==89)
 (k00 PP fq228 #[(pq src),(.int .i64 x4.1),(.int .i64 x4.2)] H10 pTk fun(x139:Int×Int×Int×BA) H140=>
 k08 H140 ⟨b1,0,none⟩ [(.int .i64 x139.1),(.int .i64 x139.2.1),(.int .i64 x139.2.2.1),(.string x139.2.2.2)] fun H141=>
 retK (k09 (k07 H141 true 4 ⟨b1,0,none⟩) ((k09 (some nI) (some [])))) H141 R)
 (k02 (x9.1==90)
 (k00 PP fq228 #[(pq src),(.int .i64 x4.1),(.int .i64 x4.2)] H10 pTk fun(x142:Int×Int×Int×BA) H143=>
 k08 H143 ⟨b1,0,none⟩ [(.int .i64 x142.1),(.int .i64 x142.2.1),(.int .i64 x142.2.2.1),(.string x142.2.2.2)] fun H144=>
 retK (k09 (k07 H144 true 4 ⟨b1,0,none⟩) ((k09 (some nI) (some [])))) H144 R)
 (k02 (x9.1==95)
 (k00 PP fq228 #[(pq src),(.int .i64 x4.1),(.int .i64 x4.2)] H10 pTk fun(x145:Int×Int×Int×BA) H146=>
 k08 H146 ⟨b1,0,none⟩ [(.int .i64 x145.1),(.int .i64 x145.2.1),(.int .i64 x145.2.2.1),(.string x145.2.2.2)] fun H147=>
 retK (k09 (k07 H147 true 4 ⟨b1,0,none⟩) ((k09 (some nI) (some [])))) H147 R)
 (k02 (x9.1==97)
 (k00 PP fq228 #[(pq src),(.int .i64 x4.1),(.int .i64 x4.2)] H10 pTk fun(x148:Int×Int×Int×BA) H149=>
 k08 H149 ⟨b1,0,none⟩ [(.int .i64 x148.1),(.int .i64 x148.2.1),(.int .i64 x148.2.2.1),(.string x148.2.2.2)] fun H150=>
 retK (k09 (k07 H150 true 4 ⟨b1,0,none⟩) ((k09 (some nI) (some [])))) H150 R)
 (k02 (x9.1==98)
 (k00 PP fq228 #[(pq src),(.int .i64 x4.1),(.int .i64 x4.2)] H10 pTk fun(x151:Int×Int×Int×BA) H152=>
 k08 H152 ⟨b1,0,none⟩ [(.int .i64 x151.1),(.int .i64 x151.2.1),(.int .i64 x151.2.2.1),(.string x151.2.2.2)] fun H153=>
 retK (k09 (k07 H153 true 4 ⟨b1,0,none⟩) ((k09 (some nI) (some [])))) H153 R)
 (k02 (x9.1==99)
 (k00 PP fq228 #[(pq src),(.int .i64 x4.1),(.int .i64 x4.2)] H10 pTk fun(x154:Int×Int×Int×BA) H155=>
 k08 H155 ⟨b1,0,none⟩ [(.int .i64 x154.1),(.int .i64 x154.2.1),(.int .i64 x154.2.2.1),(.string x154.2.2.2)] fun H156=>
 retK (k09 (k07 H156 true 4 ⟨b1,0,none⟩) ((k09 (some nI) (some [])))) H156 R)
 (k02 (x9.1==100)
 (k00 PP fq228 #[(pq src),(.int .i64 x4.1),(.int .i64 x4.2)] H10 pTk fun(x157:Int×Int×Int×BA) H158=>
 k08 H158 ⟨b1,0,none⟩ [(.int .i64 x157.1),(.int .i64 x157.2.1),(.int .i64 x157.2.2.1),(.string x157.2.2.2)] fun H159=>
 retK (k09 (k07 H159 true 4 ⟨b1,0,none⟩) ((k09 (some nI) (some [])))) H159 R)
 (k02 (x9.1==101)
 (k00 PP fq228 #[(pq src),(.int .i64 x4.1),(.int .i64 x4.2)] H10 pTk fun(x160:Int×Int×Int×BA) H161=>
 k08 H161 ⟨b1,0,none⟩ [(.int .i64 x160.1),(.int .i64 x160.2.1),(.int .i64 x160.2.2.1),(.string x160.2.2.2)] fun H162=>
 retK (k09 (k07 H162 true 4 ⟨b1,0,none⟩) ((k09 (some nI) (some [])))) H162 R)
 (k02 (x9.1==102)
 (k00 PP fq228 #[(pq src),(.int .i64 x4.1),(.int .i64 x4.2)] H10 pTk fun(x163:Int×Int×Int×BA) H164=>
 k08 H164 ⟨b1,0,none⟩ [(.int .i64 x163.1),(.int .i64 x163.2.1),(.int .i64 x163.2.2.1),(.string x163.2.2.2)] fun H165=>
 retK (k09 (k07 H165 true 4 ⟨b1,0,none⟩) ((k09 (some nI) (some [])))) H165 R)
 (k02 (x9.1==103)
 (k00 PP fq228 #[(pq src),(.int .i64 x4.1),(.int .i64 x4.2)] H10 pTk fun(x166:Int×Int×Int×BA) H167=>
 k08 H167 ⟨b1,0,none⟩ [(.int .i64 x166.1),(.int .i64 x166.2.1),(.int .i64 x166.2.2.1),(.string x166.2.2.2)] fun H168=>
 retK (k09 (k07 H168 true 4 ⟨b1,0,none⟩) ((k09 (some nI) (some [])))) H168 R)
 (k02 (x9.1==104)
 (k00 PP fq228 #[(pq src),(.int .i64 x4.1),(.int .i64 x4.2)] H10 pTk fun(x169:Int×Int×Int×BA) H170=>
 k08 H170 ⟨b1,0,none⟩ [(.int .i64 x169.1),(.int .i64 x169.2.1),(.int .i64 x169.2.2.1),(.string x169.2.2.2)] fun H171=>
 retK (k09 (k07 H171 true 4 ⟨b1,0,none⟩) ((k09 (some nI) (some [])))) H171 R)
 (k02 (x9.1==105)
 (k00 PP fq228 #[(pq src),(.int .i64 x4.1),(.int .i64 x4.2)] H10 pTk fun(x172:Int×Int×Int×BA) H173=>
 k08 H173 ⟨b1,0,none⟩ [(.int .i64 x172.1),(.int .i64 x172.2.1),(.int .i64 x172.2.2.1),(.string x172.2.2.2)] fun H174=>
 retK (k09 (k07 H174 true 4 ⟨b1,0,none⟩) ((k09 (some nI) (some [])))) H174 R)
 (k02 (x9.1==106)
 (k00 PP fq228 #[(pq src),(.int .i64 x4.1),(.int .i64 x4.2)] H10 pTk fun(x175:Int×Int×Int×BA) H176=>
 k08 H176 ⟨b1,0,none⟩ [(.int .i64 x175.1),(.int .i64 x175.2.1),(.int .i64 x175.2.2.1),(.string x175.2.2.2)] fun H177=>
 retK (k09 (k07 H177 true 4 ⟨b1,0,none⟩) ((k09 (some nI) (some [])))) H177 R)
 (k02 (x9.1==107)
 (k00 PP fq228 #[(pq src),(.int .i64 x4.1),(.int .i64 x4.2)] H10 pTk fun(x178:Int×Int×Int×BA) H179=>
 k08 H179 ⟨b1,0,none⟩ [(.int .i64 x178.1),(.int .i64 x178.2.1),(.int .i64 x178.2.2.1),(.string x178.2.2.2)] fun H180=>
 retK (k09 (k07 H180 true 4 ⟨b1,0,none⟩) ((k09 (some nI) (some [])))) H180 R)
 (k02 (x9.1==108)
 (k00 PP fq228 #[(pq src),(.int .i64 x4.1),(.int .i64 x4.2)] H10 pTk fun(x181:Int×Int×Int×BA) H182=>
 k08 H182 ⟨b1,0,none⟩ [(.int .i64 x181.1),(.int .i64 x181.2.1),(.int .i64 x181.2.2.1),(.string x181.2.2.2)] fun H183=>
 retK (k09 (k07 H183 true 4 ⟨b1,0,none⟩) ((k09 (some nI) (some [])))) H183 R)
 (k02 (x9.1==109)
 (k00 PP fq228 #[(pq src),(.int .i64 x4.1),(.int .i64 x4.2)] H10 pTk fun(x184:Int×Int×Int×BA) H185=>
 k08 H185 ⟨b1,0,none⟩ [(.int .i64 x184.1),(.int .i64 x184.2.1),(.int .i64 x184.2.2.1),(.string x184.2.2.2)] fun H186=>
 retK (k09 (k07 H186 true 4 ⟨b1,0,none⟩) ((k09 (some nI) (some [])))) H186 R)
 (k02 (x9.1==110)
 (k00 PP fq228 #[(pq src),(.int .i64 x4.1),(.int .i64 x4.2)] H10 pTk fun(x187:Int×Int×Int×BA) H188=>
 k08 H188 ⟨b1,0,none⟩ [(.int .i64 x187.1),(.int .i64 x187.2.1),(.int .i64 x187.2.2.1),(.string x187.2.2.2)] fun H189=>
 retK (k09 (k07 H189 true 4 ⟨b1,0,none⟩) ((k09 (some nI) (some [])))) H189 R)
 (k02 (x9.1==111)
 (k00 PP fq228 #[(pq src),(.int .i64 x4.1),(.int .i64 x4.2)] H10 pTk fun(x190:Int×Int×Int×BA) H191=>
 k08 H191 ⟨b1,0,none⟩ [(.int .i64 x190.1),(.int .i64 x190.2.1),(.int .i64 x190.2.2.1),(.string x190.2.2.2)] fun H192=>
 retK (k09 (k07 H192 true 4 ⟨b1,0,none⟩) ((k09 (some nI) (some [])))) H192 R)
 (k02 (x9.1==112)
 (k00 PP fq228 #[(pq src),(.int .i64 x4.1),(.int .i64 x4.2)] H10 pTk fun(x193:Int×Int×Int×BA) H194=>
 k08 H194 ⟨b1,0,none⟩ [(.int .i64 x193.1),(.int .i64 x193.2.1),(.int .i64 x193.2.2.1),(.string x193.2.2.2)] fun H195=>
 retK (k09 (k07 H195 true 4 ⟨b1,0,none⟩) ((k09 (some nI) (some [])))) H195 R)
 (k02 (x9.1==113)
 (k00 PP fq228 #[(pq src),(.int .i64 x4.1),(.int .i64 x4.2)] H10 pTk fun(x196:Int×Int×Int×BA) H197=>
 k08 H197 ⟨b1,0,none⟩ [(.int .i64 x196.1),(.int .i64 x196.2.1),(.int .i64 x196.2.2.1),(.string x196.2.2.2)] fun H198=>
 retK (k09 (k07 H198 true 4 ⟨b1,0,none⟩) ((k09 (some nI) (some [])))) H198 R)
 (k02 (x9.1==114)
 (k00 PP fq228 #[(pq src),(.int .i64 x4.1),(.int .i64 x4.2)] H10 pTk fun(x199:Int×Int×Int×BA) H200=>
 k08 H200 ⟨b1,0,none⟩ [(.int .i64 x199.1),(.int .i64 x199.2.1),(.int .i64 x199.2.2.1),(.string x199.2.2.2)] fun H201=>
 retK (k09 (k07 H201 true 4 ⟨b1,0,none⟩) ((k09 (some nI) (some [])))) H201 R)
 (k02 (x9.1==115)
 (k00 PP fq228 #[(pq src),(.int .i64 x4.1),(.int .i64 x4.2)] H10 pTk fun(x202:Int×Int×Int×BA) H203=>
 k08 H203 ⟨b1,0,none⟩ [(.int .i64 x202.1),(.int .i64 x202.2.1),(.int .i64 x202.2.2.1),(.string x202.2.2.2)] fun H204=>
 retK (k09 (k07 H204 true 4 ⟨b1,0,none⟩) ((k09 (some nI) (some [])))) H204 R)
 (k02 (x9.1==116)
 (k00 PP fq228 #[(pq src),(.int .i64 x4.1),(.int .i64 x4.2)] H10 pTk fun(x205:Int×Int×Int×BA) H206=>
 k08 H206 ⟨b1,0,none⟩ [(.int .i64 x205.1),(.int .i64 x205.2.1),(.int .i64 x205.2.2.1),(.string x205.2.2.2)] fun H207=>
 retK (k09 (k07 H207 true 4 ⟨b1,0,none⟩) ((k09 (some nI) (some [])))) H207 R)
 (k02 (x9.1==117)
 (k00 PP fq228 #[(pq src),(.int .i64 x4.1),(.int .i64 x4.2)] H10 pTk fun(x208:Int×Int×Int×BA) H209=>
 k08 H209 ⟨b1,0,none⟩ [(.int .i64 x208.1),(.int .i64 x208.2.1),(.int .i64 x208.2.2.1),(.string x208.2.2.2)] fun H210=>
 retK (k09 (k07 H210 true 4 ⟨b1,0,none⟩) ((k09 (some nI) (some [])))) H210 R)
 (k02 (x9.1==118)
 (k00 PP fq228 #[(pq src),(.int .i64 x4.1),(.int .i64 x4.2)] H10 pTk fun(x211:Int×Int×Int×BA) H212=>
 k08 H212 ⟨b1,0,none⟩ [(.int .i64 x211.1),(.int .i64 x211.2.1),(.int .i64 x211.2.2.1),(.string x211.2.2.2)] fun H213=>
 retK (k09 (k07 H213 true 4 ⟨b1,0,none⟩) ((k09 (some nI) (some [])))) H213 R)
 (k02 (x9.1==119)
 (k00 PP fq228 #[(pq src),(.int .i64 x4.1),(.int .i64 x4.2)] H10 pTk fun(x214:Int×Int×Int×BA) H215=>
 k08 H215 ⟨b1,0,none⟩ [(.int .i64 x214.1),(.int .i64 x214.2.1),(.int .i64 x214.2.2.1),(.string x214.2.2.2)] fun H216=>
 retK (k09 (k07 H216 true 4 ⟨b1,0,none⟩) ((k09 (some nI) (some [])))) H216 R)
 (k02 (x9.1==120)
 (k00 PP fq228 #[(pq src),(.int .i64 x4.1),(.int .i64 x4.2)] H10 pTk fun(x217:Int×Int×Int×BA) H218=>
 k08 H218 ⟨b1,0,none⟩ [(.int .i64 x217.1),(.int .i64 x217.2.1),(.int .i64 x217.2.2.1),(.string x217.2.2.2)] fun H219=>
 retK (k09 (k07 H219 true 4 ⟨b1,0,none⟩) ((k09 (some nI) (some [])))) H219 R)
 (k02 (x9.1==121)
 (k00 PP fq228 #[(pq src),(.int .i64 x4.1),(.int .i64 x4.2)] H10 pTk fun(x220:Int×Int×Int×BA) H221=>
 k08 H221 ⟨b1,0,none⟩ [(.int .i64 x220.1),(.int .i64 x220.2.1),(.int .i64 x220.2.2.1),(.string x220.2.2.2)] fun H222=>
 retK (k09 (k07 H222 true 4 ⟨b1,0,none⟩) ((k09 (some nI) (some [])))) H222 R)
 (k02 (x9.1==122)
 (k00 PP fq228 #[(pq src),(.int .i64 x4.1),(.int .i64 x4.2)] H10 pTk fun(x223:Int×Int×Int×BA) H224=>
 k08 H224 ⟨b1,0,none⟩ [(.int .i64 x223.1),(.int .i64 x223.2.1),(.int .i64 x223.2.2.1),(.string x223.2.2.2)] fun H225=>
 retK (k09 (k07 H225 true 4 ⟨b1,0,none⟩) ((k09 (some nI) (some [])))) H225 R)
 (k02 (x9.1==45)
 (k00 PP fq229 #[(pq src),(.int .i64 x4.1),(.int .i32 x9.1),(.int .i64 x9.2)] H10 pTkE fun(x226:Int×Int×Int×BA) H227=>
 newB H227 (.cells #[(.int .i64 0),(.int .i64 0),(.int .i64 0),sE] tq85) fun b228 H229=>
 k08 H229 ⟨b228,0,none⟩ [(.int .i64 x226.1),(.int .i64 x226.2.1),(.int .i64 x226.2.2.1),(.string x226.2.2.2)] fun H230=>
 k01 H230 true 4 ⟨b228,0,none⟩ pTk fun(x231:Int×Int×Int×BA)=>
 k08 H230 ⟨b1,0,none⟩ [(.int .i64 x231.1),(.int .i64 x231.2.1),(.int .i64 x231.2.2.1),(.string x231.2.2.2)] fun H232=>
 retK (k09 (k07 H232 true 4 ⟨b1,0,none⟩) ((k09 (some nI) (some [])))) H232 R)
 (k02 (x9.1==48)
 (k00 PP fq229 #[(pq src),(.int .i64 x4.1),(.int .i32 x9.1),(.int .i64 x9.2)] H10 pTkE fun(x233:Int×Int×Int×BA) H234=>
 newB H234 (.cells #[(.int .i64 0),(.int .i64 0),(.int .i64 0),sE] tq85) fun b235 H236=>
 k08 H236 ⟨b235,0,none⟩ [(.int .i64 x233.1),(.int .i64 x233.2.1),(.int .i64 x233.2.2.1),(.string x233.2.2.2)] fun H237=>
 k01 H237 true 4 ⟨b235,0,none⟩ pTk fun(x238:Int×Int×Int×BA)=>
 k08 H237 ⟨b1,0,none⟩ [(.int .i64 x238.1),(.int .i64 x238.2.1),(.int .i64 x238.2.2.1),(.string x238.2.2.2)] fun H239=>
 retK (k09 (k07 H239 true 4 ⟨b1,0,none⟩) ((k09 (some nI) (some [])))) H239 R)
 (k02 (x9.1==49)
 (k00 PP fq229 #[(pq src),(.int .i64 x4.1),(.int .i32 x9.1),(.int .i64 x9.2)] H10 pTkE fun(x240:Int×Int×Int×BA) H241=>
 newB H241 (.cells #[(.int .i64 0),(.int .i64 0),(.int .i64 0),sE] tq85) fun b242 H243=>
 k08 H243 ⟨b242,0,none⟩ [(.int .i64 x240.1),(.int .i64 x240.2.1),(.int .i64 x240.2.2.1),(.string x240.2.2.2)] fun H244=>
 k01 H244 true 4 ⟨b242,0,none⟩ pTk fun(x245:Int×Int×Int×BA)=>
 k08 H244 ⟨b1,0,none⟩ [(.int .i64 x245.1),(.int .i64 x245.2.1),(.int .i64 x245.2.2.1),(.string x245.2.2.2)] fun H246=>
 retK (k09 (k07 H246 true 4 ⟨b1,0,none⟩) ((k09 (some nI) (some [])))) H246 R)
 (k02 (x9.1==50)
 (k00 PP fq229 #[(pq src),(.int .i64 x4.1),(.int .i32 x9.1),(.int .i64 x9.2)] H10 pTkE fun(x247:Int×Int×Int×BA) H248=>
 newB H248 (.cells #[(.int .i64 0),(.int .i64 0),(.int .i64 0),sE] tq85) fun b249 H250=>
 k08 H250 ⟨b249,0,none⟩ [(.int .i64 x247.1),(.int .i64 x247.2.1),(.int .i64 x247.2.2.1),(.string x247.2.2.2)] fun H251=>
 k01 H251 true 4 ⟨b249,0,none⟩ pTk fun(x252:Int×Int×Int×BA)=>
 k08 H251 ⟨b1,0,none⟩ [(.int .i64 x252.1),(.int .i64 x252.2.1),(.int .i64 x252.2.2.1),(.string x252.2.2.2)] fun H253=>
 retK (k09 (k07 H253 true 4 ⟨b1,0,none⟩) ((k09 (some nI) (some [])))) H253 R)
 (k02 (x9.1==51)
 (k00 PP fq229 #[(pq src),(.int .i64 x4.1),(.int .i32 x9.1),(.int .i64 x9.2)] H10 pTkE fun(x254:Int×Int×Int×BA) H255=>
 newB H255 (.cells #[(.int .i64 0),(.int .i64 0),(.int .i64 0),sE] tq85) fun b256 H257=>
 k08 H257 ⟨b256,0,none⟩ [(.int .i64 x254.1),(.int .i64 x254.2.1),(.int .i64 x254.2.2.1),(.string x254.2.2.2)] fun H258=>
 k01 H258 true 4 ⟨b256,0,none⟩ pTk fun(x259:Int×Int×Int×BA)=>
 k08 H258 ⟨b1,0,none⟩ [(.int .i64 x259.1),(.int .i64 x259.2.1),(.int .i64 x259.2.2.1),(.string x259.2.2.2)] fun H260=>
 retK (k09 (k07 H260 true 4 ⟨b1,0,none⟩) ((k09 (some nI) (some [])))) H260 R)
 (k02 (x9.1==52)
 (k00 PP fq229 #[(pq src),(.int .i64 x4.1),(.int .i32 x9.1),(.int .i64 x9.2)] H10 pTkE fun(x261:Int×Int×Int×BA) H262=>
 newB H262 (.cells #[(.int .i64 0),(.int .i64 0),(.int .i64 0),sE] tq85) fun b263 H264=>
 k08 H264 ⟨b263,0,none⟩ [(.int .i64 x261.1),(.int .i64 x261.2.1),(.int .i64 x261.2.2.1),(.string x261.2.2.2)] fun H265=>
 k01 H265 true 4 ⟨b263,0,none⟩ pTk fun(x266:Int×Int×Int×BA)=>
 k08 H265 ⟨b1,0,none⟩ [(.int .i64 x266.1),(.int .i64 x266.2.1),(.int .i64 x266.2.2.1),(.string x266.2.2.2)] fun H267=>
 retK (k09 (k07 H267 true 4 ⟨b1,0,none⟩) ((k09 (some nI) (some [])))) H267 R)
 (k02 (x9.1==53)
 (k00 PP fq229 #[(pq src),(.int .i64 x4.1),(.int .i32 x9.1),(.int .i64 x9.2)] H10 pTkE fun(x268:Int×Int×Int×BA) H269=>
 newB H269 (.cells #[(.int .i64 0),(.int .i64 0),(.int .i64 0),sE] tq85) fun b270 H271=>
 k08 H271 ⟨b270,0,none⟩ [(.int .i64 x268.1),(.int .i64 x268.2.1),(.int .i64 x268.2.2.1),(.string x268.2.2.2)] fun H272=>
 k01 H272 true 4 ⟨b270,0,none⟩ pTk fun(x273:Int×Int×Int×BA)=>
 k08 H272 ⟨b1,0,none⟩ [(.int .i64 x273.1),(.int .i64 x273.2.1),(.int .i64 x273.2.2.1),(.string x273.2.2.2)] fun H274=>
 retK (k09 (k07 H274 true 4 ⟨b1,0,none⟩) ((k09 (some nI) (some [])))) H274 R)
 (k02 (x9.1==54)
 (k00 PP fq229 #[(pq src),(.int .i64 x4.1),(.int .i32 x9.1),(.int .i64 x9.2)] H10 pTkE fun(x275:Int×Int×Int×BA) H276=>
 newB H276 (.cells #[(.int .i64 0),(.int .i64 0),(.int .i64 0),sE] tq85) fun b277 H278=>
 k08 H278 ⟨b277,0,none⟩ [(.int .i64 x275.1),(.int .i64 x275.2.1),(.int .i64 x275.2.2.1),(.string x275.2.2.2)] fun H279=>
 k01 H279 true 4 ⟨b277,0,none⟩ pTk fun(x280:Int×Int×Int×BA)=>
 k08 H279 ⟨b1,0,none⟩ [(.int .i64 x280.1),(.int .i64 x280.2.1),(.int .i64 x280.2.2.1),(.string x280.2.2.2)] fun H281=>
 retK (k09 (k07 H281 true 4 ⟨b1,0,none⟩) ((k09 (some nI) (some [])))) H281 R)
 (k02 (x9.1==55)
 (k00 PP fq229 #[(pq src),(.int .i64 x4.1),(.int .i32 x9.1),(.int .i64 x9.2)] H10 pTkE fun(x282:Int×Int×Int×BA) H283=>
 newB H283 (.cells #[(.int .i64 0),(.int .i64 0),(.int .i64 0),sE] tq85) fun b284 H285=>
 k08 H285 ⟨b284,0,none⟩ [(.int .i64 x282.1),(.int .i64 x282.2.1),(.int .i64 x282.2.2.1),(.string x282.2.2.2)] fun H286=>
 k01 H286 true 4 ⟨b284,0,none⟩ pTk fun(x287:Int×Int×Int×BA)=>
 k08 H286 ⟨b1,0,none⟩ [(.int .i64 x287.1),(.int .i64 x287.2.1),(.int .i64 x287.2.2.1),(.string x287.2.2.2)] fun H288=>
 retK (k09 (k07 H288 true 4 ⟨b1,0,none⟩) ((k09 (some nI) (some [])))) H288 R)
 (k02 (x9.1==56)
 (k00 PP fq229 #[(pq src),(.int .i64 x4.1),(.int .i32 x9.1),(.int .i64 x9.2)] H10 pTkE fun(x289:Int×Int×Int×BA) H290=>
 newB H290 (.cells #[(.int .i64 0),(.int .i64 0),(.int .i64 0),sE] tq85) fun b291 H292=>
 k08 H292 ⟨b291,0,none⟩ [(.int .i64 x289.1),(.int .i64 x289.2.1),(.int .i64 x289.2.2.1),(.string x289.2.2.2)] fun H293=>
 k01 H293 true 4 ⟨b291,0,none⟩ pTk fun(x294:Int×Int×Int×BA)=>
 k08 H293 ⟨b1,0,none⟩ [(.int .i64 x294.1),(.int .i64 x294.2.1),(.int .i64 x294.2.2.1),(.string x294.2.2.2)] fun H295=>
 retK (k09 (k07 H295 true 4 ⟨b1,0,none⟩) ((k09 (some nI) (some [])))) H295 R)
 (k02 (x9.1==57)
 (k00 PP fq229 #[(pq src),(.int .i64 x4.1),(.int .i32 x9.1),(.int .i64 x9.2)] H10 pTkE fun(x296:Int×Int×Int×BA) H297=>
 newB H297 (.cells #[(.int .i64 0),(.int .i64 0),(.int .i64 0),sE] tq85) fun b298 H299=>
 k08 H299 ⟨b298,0,none⟩ [(.int .i64 x296.1),(.int .i64 x296.2.1),(.int .i64 x296.2.2.1),(.string x296.2.2.2)] fun H300=>
 k01 H300 true 4 ⟨b298,0,none⟩ pTk fun(x301:Int×Int×Int×BA)=>
 k08 H300 ⟨b1,0,none⟩ [(.int .i64 x301.1),(.int .i64 x301.2.1),(.int .i64 x301.2.2.1),(.string x301.2.2.2)] fun H302=>
 retK (k09 (k07 H302 true 4 ⟨b1,0,none⟩) ((k09 (some nI) (some [])))) H302 R)
 (k02 (x9.1==34)
 (newB H10 (.cells #[(.int .i64 0),(.int .i64 0),(.int .i64 0),sE] tq85) fun b303 H304=>
 k00 PP fq227 #[(.slice (some ⟨x3.1,x3.2.1,none⟩) x3.2.2.1 x3.2.2.2),(.int .i64 (IntKind.i64.wrap (x4.1+1)))] H304 pRu fun(x305:Int×Int) H306=>
 k00 PP fq227 #[(.slice (some ⟨x3.1,x3.2.1,none⟩) x3.2.2.1 x3.2.2.2),(.int .i64 (IntKind.i64.wrap (x4.1+2)))] H306 pRu fun(x307:Int×Int) H308=>
 k0j (Bool×Unit) H308 (fun J309=>
 k02 (x305.1==34)
 (J309 ((x307.1==34),()) H308)
 (J309 (false,()) H308)) fun y310=>
 k0d (Value×Unit) (fun J311=>
 k02 y310.1
 (k00 PP fq230 #[(pq src),(.int .i64 x4.1)] H308 pTkE fun(x314:Int×Int×Int×BA) H315=>
 k08 H315 ⟨b303,0,none⟩ [(.int .i64 x314.1),(.int .i64 x314.2.1),(.int .i64 x314.2.2.1),(.string x314.2.2.2)] fun H316=>
 J311 (nI,()) H316)
 (k00 PP fq231 #[(pq src),(.int .i64 x4.1)] H308 pTkE fun(x317:Int×Int×Int×BA) H318=>
 k08 H318 ⟨b303,0,none⟩ [(.int .i64 x317.1),(.int .i64 x317.2.1),(.int .i64 x317.2.2.1),(.string x317.2.2.2)] fun H319=>
 J311 (nI,()) H319)) fun y312 H313=>
 k01 H313 true 4 ⟨b303,0,none⟩ pTk fun(x320:Int×Int×Int×BA)=>
 k08 H313 ⟨b1,0,none⟩ [(.int .i64 x320.1),(.int .i64 x320.2.1),(.int .i64 x320.2.2.1),(.string x320.2.2.2)] fun H321=>
 retK (k09 (k07 H321 true 4 ⟨b1,0,none⟩) ((k09 (some y312.1) (some [])))) H321 R)
 (J16 (()) H10)))))))))))))))))))))))))))))))))))))))))))))))))))))))))))))))))))))))))))))))) fun _y17 H18=>
 k00 PP fq198 #[(pq src),(.int .i64 x4.2),(.string (bs [85,110,101,120,112,101,99,116,101,100,32,99,104,97,114,97,99,116,101,114,32,37,118,46]))] H18 pBlk fun(x322:Nat) H323=>
 k08 H323 ⟨b1,0,none⟩ [(.int .i64 0),(.int .i64 0),(.int .i64 0),sE] fun H324=>
 retK (k09 (k07 H324 true 4 ⟨b1,0,none⟩) ((k09 (some (.iface tq328 (pq x322))) (some [])))) H324 R))
theorem readToken.enter (src:Nat) (from_:Int) (H:Heap) (R:RR) (h:readToken.W src from_ H R):Fn PP fq197 #[(pq src),(.int .i64 from_)] H R:=
 fnE Tryz.func197 ⟨patL [(28,pSl4),(34,pII),(42,pTk),(46,pRu),(66,pBlk),(74,pTk),(80,pTk),(86,pTk),(92,pTk),(98,pTk),(105,pRu),(112,pRu),(124,pTk),(130,pTk),(136,pTk),(142,pTk),(148,pTk),(154,pTk),(160,pTk),(166,pTk),(172,pTk),(203,pTk),(235,pTk),(253,pTkE),(260,pTk),(267,pRu),(274,pRu),(286,pTkE),(292,pTkE),(295,pTk),(301,pBlk)],k06 [],k03 [(282,[Slot.raw 19])],k03 [(0,[])],k05 [(7,[Slot.bool 62],true),(23,[Slot.bool 120],true),(116,[Slot.bool 282],true)]⟩ (by unfold readToken.W;kernel_rfl) h
def char2hex.W (a:Int) (H:Heap) (R:RR):Prop:=
 k02 (decide (a≥48))
 (k02 (decide (a≤57))
 (rk [(.int .i64 (IntKind.i64.wrap ((IntKind.i64.wrap a) -48)))] H R)
 (k02 (decide (a≥65))
 (k02 (decide (a≤70))
 (rk [(.int .i64 (IntKind.i64.wrap ((IntKind.i64.wrap a) -55)))] H R)
 (k02 (decide (a≥97))
 (k02 (decide (a≤102))
 (rk [(.int .i64 (IntKind.i64.wrap ((IntKind.i64.wrap a) -87)))] H R)
 (rk [(.int .i64 (-1))] H R))
 (rk [(.int .i64 (-1))] H R)))
 (k02 (decide (a≥97))
 (k02 (decide (a≤102))
 (rk [(.int .i64 (IntKind.i64.wrap ((IntKind.i64.wrap a) -87)))] H R)
 (rk [(.int .i64 (-1))] H R))
 (rk [(.int .i64 (-1))] H R))))
 (k02 (decide (a≥65))
 (k02 (decide (a≤70))
 (rk [(.int .i64 (IntKind.i64.wrap ((IntKind.i64.wrap a) -55)))] H R)
 (k02 (decide (a≥97))
 (k02 (decide (a≤102))
 (rk [(.int .i64 (IntKind.i64.wrap ((IntKind.i64.wrap a) -87)))] H R)
 (rk [(.int .i64 (-1))] H R))
 (rk [(.int .i64 (-1))] H R)))
 (k02 (decide (a≥97))
 (k02 (decide (a≤102))
 (rk [(.int .i64 (IntKind.i64.wrap ((IntKind.i64.wrap a) -87)))] H R)
 (rk [(.int .i64 (-1))] H R))
 (rk [(.int .i64 (-1))] H R)))
theorem char2hex.enter (a:Int) (H:Heap) (R:RR) (h:char2hex.W a H R):Fn PP fq261 #[(.int .i32 a)] H R:=
 fnE Tryz.func261 (hz []) (by unfold char2hex.W;kernel_rfl) h
def uniCharCode.W (a:Int) (b:Int) (c:Int) (d:Int) (H:Heap) (R:RR):Prop:=
 k00 PP fq261 #[(.int .i32 a)] H (pInt .i64) fun(x1:Int) H2=>
 k00 PP fq261 #[(.int .i32 b)] H2 (pInt .i64) fun(x3:Int) H4=>
 k00 PP fq261 #[(.int .i32 c)] H4 (pInt .i64) fun(x5:Int) H6=>
 k00 PP fq261 #[(.int .i32 d)] H6 (pInt .i64) fun(x7:Int) H8=>
 rk [(.int .i32 (IntKind.i32.wrap (IntKind.i64.wrap ((BitVec.ofInt 64 (IntKind.i64.wrap ((BitVec.ofInt 64 (IntKind.i64.wrap ((BitVec.ofInt 64 (IntKind.i64.wrap (x1*2^(min (12:Int).toNat 64)))|||BitVec.ofInt 64 (IntKind.i64.wrap (x3*2^(min (8:Int).toNat 64)))).toNat:Int))|||BitVec.ofInt 64 (IntKind.i64.wrap (x5*2^(min (4:Int).toNat 64)))).toNat:Int))|||BitVec.ofInt 64 x7).toNat:Int))))] H8 R
theorem uniCharCode.enter (a:Int) (b:Int) (c:Int) (d:Int) (H:Heap) (R:RR) (h:uniCharCode.W a b c d H R):Fn PP fq246 #[(.int .i32 a),(.int .i32 b),(.int .i32 c),(.int .i32 d)] H R:=
 fnE Tryz.func246 (hz [(10,(pInt .i64)),(13,(pInt .i64)),(17,(pInt .i64)),(21,(pInt .i64))]) (by unfold uniCharCode.W;kernel_rfl) h
def zzLines.W (s:BA) (H:Heap) (R:RR):Prop:=
 k0e (Sl×Int×Int×Unit) ((none,0,0),0,0,()) H fun z1 H2 next3=>
 k02 (decide (z1.2.2.1<((s.size:Nat):Int)))
 (k0j (Bool×Unit) H2 (fun J4=>
 ((0:Int)≤z1.2.2.1∧z1.2.2.1<((s.size:Nat):Int))∧
 k02 ((bt s z1.2.2.1) !=13)
 (((0:Int)≤z1.2.2.1∧z1.2.2.1<((s.size:Nat):Int))∧
 J4 (((bt s z1.2.2.1) !=10),()) H2)
 (J4 (false,()) H2)) fun y5=>
 k02 y5.1
 (next3 ((z1.1.1,z1.1.2.1,z1.1.2.2),z1.2.1,(IntKind.i64.wrap (z1.2.2.1+1)),()) H2)
 ((((0:Int)≤z1.2.2.1∧z1.2.2.1≤((s.size:Nat):Int))∧((0:Int)≤z1.2.1∧z1.2.1≤((z1.2.2.1.toNat:Nat):Int)))∧
 newB H2 (.cells #[(.string (s.extract z1.2.1.toNat z1.2.2.1.toNat))] tq9) fun b6 H7=>
 appK H7 tq9 1 16 z1.1.1 z1.1.2.1 z1.1.2.2 (some ⟨b6,0,none⟩) 1 fun a8 c9 H10=>
 k0j (Bool×Unit) H10 (fun J11=>
 ((0:Int)≤z1.2.2.1∧z1.2.2.1<((s.size:Nat):Int))∧
 k02 ((bt s z1.2.2.1)==13)
 (k02 (decide ((IntKind.i64.wrap (z1.2.2.1+1))<((s.size:Nat):Int)))
 (((0:Int)≤(IntKind.i64.wrap (z1.2.2.1+1))∧(IntKind.i64.wrap (z1.2.2.1+1))<((s.size:Nat):Int))∧
 J11 (((bt s (IntKind.i64.wrap (z1.2.2.1+1)))==10),()) H10)
 (J11 (false,()) H10))
 (J11 (false,()) H10)) fun y12=>
 k0d (Int×Unit) (fun J13=>
 k02 y12.1
 (J13 ((IntKind.i64.wrap (z1.2.2.1+1)),()) H10)
 (J13 (z1.2.2.1,()) H10)) fun y14 H15=>
 next3 ((a8,(z1.1.2.1+1),c9),(IntKind.i64.wrap (y14.1+1)),(IntKind.i64.wrap (y14.1+1)),()) H15))
 (((0:Int)≤z1.2.1∧z1.2.1≤((s.size:Nat):Int))∧
 newB H2 (.cells #[(.string (s.extract z1.2.1.toNat s.size))] tq9) fun b16 H17=>
 appK H17 tq9 1 16 z1.1.1 z1.1.2.1 z1.1.2.2 (some ⟨b16,0,none⟩) 1 fun a18 c19 H20=>
 rk [(.slice a18 (z1.1.2.1+1) c19)] H20 R)
theorem zzLines.enter (s:BA) (H:Heap) (R:RR) (h:zzLines.W s H R):Fn PP fq255 #[(.string s)] H R:=
 fnE Tryz.func255 ⟨patL [],k06 [(0,[Slot.slc 3,Slot.int .i64 4,Slot.int .i64 5])],k03 [(46,[Slot.int .i64 5])],k03 [],k05 [(6,[Slot.bool 21],true),(8,[Slot.bool 46],true)]⟩ (by unfold zzLines.W;kernel_rfl) h
def lineIsBlank.W (s:BA) (H:Heap) (R:RR):Prop:=
 k00 PP fq256 #[(.string s)] H (pInt .i64) fun(x1:Int) H2=>
 rk [(.bool (x1==((s.size:Nat):Int)))] H2 R
theorem lineIsBlank.enter (s:BA) (H:Heap) (R:RR) (h:lineIsBlank.W s H R):Fn PP fq257 #[(.string s)] H R:=
 fnE Tryz.func257 (hz [(4,(pInt .i64))]) (by unfold lineIsBlank.W;kernel_rfl) h
def k6d.W (s:BA) (H:Heap) (R:RR):Prop:=
 newB H (.stringIter s 0) fun b1 H2=>
 k0e (Int×Unit) (0,()) H2 fun z3 H4 next5=>
 kcd H4 b1 (fun(_p6:Nat) (c7:Int) H8=>
 k0j (Bool×Unit) H8 (fun J9=>
 k02 (c7==32)
 (J9 (true,()) H8)
 (J9 ((c7==9),()) H8)) fun y10=>
 k02 y10.1
 (next5 ((IntKind.i64.wrap (z3.1+1)),()) H8)
 (rk [(.int .i64 z3.1)] H8 R))
 (rk [(.int .i64 z3.1)] H4 R)
theorem k6d.enter (s:BA) (H:Heap) (R:RR) (h:k6d.W s H R):Fn PP fq256 #[(.string s)] H R:=
 fnE Tryz.func256 ⟨patL [],k06 [(0,[Slot.int .i64 2])],k03 [],k03 [],k05 [(4,[Slot.bool 15],true)]⟩ (by unfold k6d.W;kernel_rfl) h
def LexI.W (src:Nat) (H:Heap) (R:RR):Prop:=
 newB H (.cells #[(pq src)] tq88) fun b1 H2=>
 newB H2 (.cells #[(.int .i64 0)] tq3) fun b3 H4=>
 rk [(.func (.func fq196) #[] #[(pq b3),(pq b1)])] H4 R
theorem LexI.enter (src:Nat) (H:Heap) (R:RR) (h:LexI.W src H R):Fn PP fq136 #[(pq src)] H R:=
 fnE Tryz.func136 (hz []) (by unfold LexI.W;kernel_rfl) h
def k5i.W (reset:Int) (prev:Nat) (srcb:Nat) (H:Heap) (R:RR):Prop:=
 newB H (.cells #[(.int .i64 0),(.int .i64 0),(.int .i64 0),sE] tq85) fun b1 H2=>
 k02 (reset==0)
 (lw H2 prev 0 (pInt .i64) fun(x3:Int)=>
 lw H2 srcb 0 pBlk fun(x4:Nat)=>
 k00 PP fq197 #[(pq x4),(.int .i64 x3)] H2 pTkE fun(x5:Int×Int×Int×BA) H6=>
 newB H6 (.cells #[(.int .i64 0),(.int .i64 0),(.int .i64 0),sE] tq85) fun b7 H8=>
 k08 H8 ⟨b7,0,none⟩ [(.int .i64 x5.1),(.int .i64 x5.2.1),(.int .i64 x5.2.2.1),(.string x5.2.2.2)] fun H9=>
 lw H9 b7 2 (pInt .i64) fun(x10:Int)=>
 k08 H9 ⟨prev,0,none⟩ [(.int .i64 x10)] fun H11=>
 k01 H11 true 4 ⟨b7,0,none⟩ pTk fun(x12:Int×Int×Int×BA)=>
 k08 H11 ⟨b1,0,none⟩ [(.int .i64 x12.1),(.int .i64 x12.2.1),(.int .i64 x12.2.2.1),(.string x12.2.2.2)] fun H13=>
 retK (k09 (k07 H13 true 4 ⟨b1,0,none⟩) ((k09 (some nI) (some [])))) H13 R)
 (lw H2 srcb 0 pBlk fun(x14:Nat)=>
 k00 PP fq197 #[(pq x14),(.int .i64 reset)] H2 pTkE fun(x15:Int×Int×Int×BA) H16=>
 newB H16 (.cells #[(.int .i64 0),(.int .i64 0),(.int .i64 0),sE] tq85) fun b17 H18=>
 k08 H18 ⟨b17,0,none⟩ [(.int .i64 x15.1),(.int .i64 x15.2.1),(.int .i64 x15.2.2.1),(.string x15.2.2.2)] fun H19=>
 lw H19 b17 2 (pInt .i64) fun(x20:Int)=>
 k08 H19 ⟨prev,0,none⟩ [(.int .i64 x20)] fun H21=>
 k01 H21 true 4 ⟨b17,0,none⟩ pTk fun(x22:Int×Int×Int×BA)=>
 k08 H21 ⟨b1,0,none⟩ [(.int .i64 x22.1),(.int .i64 x22.2.1),(.int .i64 x22.2.2.1),(.string x22.2.2.2)] fun H23=>
 retK (k09 (k07 H23 true 4 ⟨b1,0,none⟩) ((k09 (some nI) (some [])))) H23 R)
theorem k5i.enter (reset:Int) (prev:Nat) (srcb:Nat) (H:Heap) (R:RR) (h:k5i.W reset prev srcb H R):Fn PP fq196 #[(.int .i64 reset),(pq prev),(pq srcb)] H R:=
 fnE Tryz.func196 (hz [(10,(pInt .i64)),(12,pBlk),(14,pTkE),(22,(pInt .i64)),(23,pTk)]) (by unfold k5i.W;kernel_rfl) h
def ReadPart.W (kind:Int) (text:BA) (H:Heap) (R:RR):Prop:=
 k00 PP fq33 #[(.int .i64 kind)] H pStr fun(x1:BA) H2=>
 k02 (x1.toList==(bs []).toList)
 (rk [(.slice none 0 0),(.int .i64 0),(.bool false)] H2 R)
 (k00 PP fq30 #[(.string x1),(.int .i64 kind),(.string text)] H2 pSIB fun(x3:Sl×Int×Bool) H4=>
 rk [(.slice x3.1.1 x3.1.2.1 x3.1.2.2),(.int .i64 x3.2.1),(.bool x3.2.2)] H4 R)
theorem ReadPart.enter (kind:Int) (text:BA) (H:Heap) (R:RR) (h:ReadPart.W kind text H R):Fn PP fq27 #[(.int .i64 kind),(.string text)] H R:=
 fnE Tryz.func27 (hz [(9,pStr),(15,pSIB)]) (by unfold ReadPart.W;kernel_rfl) h
def partName.W (kind:Int) (H:Heap) (R:RR):Prop:=
 k02 (kind==2)
 (rk [(.string (bs [111,112,101,114,97,116,105,111,110]))] H R)
 (k02 (kind==3)
 (rk [(.string (bs [102,114,97,103,109,101,110,116]))] H R)
 (k02 (kind==4)
 (rk [(.string (bs [118,97,114,105,97,98,108,101]))] H R)
 (k02 (kind==6)
 (rk [(.string (bs [102,105,101,108,100]))] H R)
 (k02 (kind==7)
 (rk [(.string (bs [115,112,114,101,97,100]))] H R)
 (k02 (kind==9)
 (rk [(.string (bs [97,114,103,117,109,101,110,116]))] H R)
 (k02 (kind==10)
 (rk [(.string (bs [100,105,114,101,99,116,105,118,101]))] H R)
 (k02 (kind==23)
 (rk [(.string (bs [100,101,115,99,114,105,112,116,105,111,110]))] H R)
 (k02 (kind==24)
 (rk [(.string (bs [115,99,104,101,109,97]))] H R)
 (k02 (kind==25)
 (rk [(.string (bs [111,112,101,114,97,116,105,111,110,32,116,121,112,101]))] H R)
 (k02 (kind==26)
 (rk [(.string (bs [115,99,97,108,97,114]))] H R)
 (k02 (kind==27)
 (rk [(.string (bs [116,121,112,101]))] H R)
 (k02 (kind==28)
 (rk [(.string (bs [105,109,112,108,101,109,101,110,116,115]))] H R)
 (k02 (kind==29)
 (rk [(.string (bs [102,105,101,108,100,32,100,101,102,105,110,105,116,105,111,110]))] H R)
 (k02 (kind==30)
 (rk [(.string (bs [105,110,112,117,116,32,118,97,108,117,101]))] H R)
 (k02 (kind==31)
 (rk [(.string (bs [105,110,116,101,114,102,97,99,101]))] H R)
 (k02 (kind==32)
 (rk [(.string (bs [117,110,105,111,110]))] H R)
 (k02 (kind==33)
 (rk [(.string (bs [109,101,109,98,101,114,115]))] H R)
 (k02 (kind==34)
 (rk [(.string (bs [101,110,117,109]))] H R)
 (k02 (kind==35)
 (rk [(.string (bs [101,110,117,109,32,118,97,108,117,101]))] H R)
 (k02 (kind==36)
 (rk [(.string (bs [105,110,112,117,116]))] H R)
 (k02 (kind==37)
 (rk [(.string (bs [100,105,114,101,99,116,105,118,101,32,100,101,102,105,110,105,116,105,111,110]))] H R)
 (k02 (kind==38)
 (rk [(.string (bs [108,111,99,97,116,105,111,110,115]))] H R)
 (k02 (kind==39)
 (rk [(.string (bs [101,120,116,101,110,100]))] H R)
 (rk [sE] H R))))))))))))))))))))))))
theorem partName.enter (kind:Int) (H:Heap) (R:RR) (h:partName.W kind H R):Fn PP fq33 #[(.int .i64 kind)] H R:=
 fnE Tryz.func33 (hz []) (by unfold partName.W;kernel_rfl) h
def k0m.W (text:BA) (H:Heap) (R:RR):Prop:=
 kbz tq5 text H fun c1 b2 H3=>
 newB H3 (.cells #[(.slice (some ⟨b2,0,none⟩) text.size c1),sE] tq145) fun b4 H5=>
 k00 PP fq86 #[(pq b4)] H5 pBlk fun(x6:Nat) H7=>
 k00 PP fq85 #[(pq x6),(.agg #[(.bool false),(.bool false)])] H7 pBlE fun(x8:Nat) H9=>
 rk [(pq x8),nI] H9 R
theorem k0m.enter (text:BA) (H:Heap) (R:RR) (h:k0m.W text H R):Fn PP fq61 #[(.string text)] H R:=
 fnE Tryz.func61 (hz [(8,pBlk),(10,pBlE)]) (by unfold k0m.W;kernel_rfl) h
def k5l.W (name:BA) (text:BA) (H:Heap) (R:RR):Prop:=
 k00 PP fq61 #[(.string text)] H pBlE fun(x1:Nat) H2=>
 k00 PP fq62 #[(pq x1),(.string name)] H2 pSlE fun(x3:Sl) H4=>
 lw H4 x1 6 (pInt .i64) fun(x5:Int)=>
 rk [(.slice x3.1 x3.2.1 x3.2.2),(.int .i64 x5),nI] H4 R
theorem k5l.enter (name:BA) (text:BA) (H:Heap) (R:RR) (h:k5l.W name text H R):Fn PP fq37 #[(.string name),(.string text)] H R:=
 fnE Tryz.func37 (hz [(12,pBlE),(21,pSlE),(29,(pInt .i64))]) (by unfold k5l.W;kernel_rfl) h
end Go.Vx
