/- A part of the proof of what the last text of this claim says: WB1. Conditions: none. -/
import Derived.Test.YtpkfgijailfkjaaGreatDoorZAb
namespace Go.Vx
open Go Go.Proofs
set_option maxRecDepth 100000
def runeAt.W (body bodyO bodyN bodyC:Nat) (position:Int) (H:Heap) (R:RR):Prop:=
 forkB (decide (((bodyN:Nat):Int)≤position))
 (retK (some [(.int .i32 (-1)),(.int .i64 65533)]) H R)
 ((IxOk (some ⟨body,bodyO,none⟩) position bodyN)∧
 loadW H false 1 ⟨body,(bodyO+position.toNat*1),none⟩ (pInt .u8) fun(x1:Int)=>
 forkB (decide (x1<128))
 (retK (some [(.int .i32 (IntKind.i32.wrap x1)),(.int .i64 1)]) H R)
 (((0:Int)≤position∧position≤((bodyN:Nat):Int))∧
 callW PP fq121 #[(.slice (some ⟨body,(slcO bodyO bodyC position.toNat 1),none⟩) (bodyN -position.toNat) (bodyC -position.toNat))] H pRu fun(x2:Int×Int) H3=>
 retK (some [(.int .i32 x2.1),(.int .i64 x2.2)]) H3 R))
theorem runeAt.enter (body bodyO bodyN bodyC:Nat) (position:Int) (H:Heap) (R:RR) (h:runeAt.W body bodyO bodyN bodyC position H R):Fn PP fq92 #[(.slice (some ⟨body,bodyO,none⟩) bodyN bodyC),(.int .i64 position)] H R:=
 fnS mixed Tryz.func92 (hz [(16,(pInt .u8)),(25,pRu)]) _ H R (Eq.mp (by unfold runeAt.W;kernel_rfl) h)
def makeToken.W (kind:Int) (st:Int) (en:Int) (value:ByteArray) (H:Heap) (R:RR):Prop:=
 newB H (.cells #[(.int .i64 0),(.int .i64 0),(.int .i64 0),(.string (bs []))] tq87) fun b1 H2=>
 storeW H2 ⟨b1,0,none⟩ [(.int .i64 kind),(.int .i64 st),(.int .i64 en),(.string value)] fun H3=>
 retK (consO (loadC H3 true 4 ⟨b1,0,none⟩) (some [])) H3 R
theorem makeToken.enter (kind:Int) (st:Int) (en:Int) (value:ByteArray) (H:Heap) (R:RR) (h:makeToken.W kind st en value H R):Fn PP fq91 #[(.int .i64 kind),(.int .i64 st),(.int .i64 en),(.string value)] H R:=
 fnS mixed Tryz.func91 (hz []) _ H R (Eq.mp (by unfold makeToken.W;kernel_rfl) h)
def posAfter.W (body bodyO bodyN bodyC:Nat) (st:Int) (H:Heap) (R:RR):Prop:=
 loopK (Int×Int×Unit) (st,st,()) H fun z1 H2 next3=>
 forkB (decide (z1.1<((bodyN:Nat):Int)))
 (callW PP fq92 #[(.slice (some ⟨body,bodyO,none⟩) bodyN bodyC),(.int .i64 z1.1)] H2 pRu fun(x4:Int×Int) H5=>
 joinPK (Bool×Unit) H5 (fun J6=>
 forkB (x4.1==65279)
 (J6 (true,()) H5)
 (forkB (x4.1==9)
 (J6 (true,()) H5)
 (forkB (x4.1==32)
 (J6 (true,()) H5)
 (forkB (x4.1==10)
 (J6 (true,()) H5)
 (forkB (x4.1==13)
 (J6 (true,()) H5)
 (J6 ((x4.1==44),()) H5)))))) fun y7=>
 joinK (Int×Int×Unit) (fun J8=>
 forkB y7.1
 (J8 ((IntKind.i64.wrap (z1.1+x4.2)),(IntKind.i64.wrap (z1.2.1+1)),()) H5)
 (forkB (x4.1==35)
 (loopK (Int×Int×Unit) ((IntKind.i64.wrap (z1.1+x4.2)),(IntKind.i64.wrap (z1.2.1+1)),()) H5 fun z11 H12 next13=>
 callW PP fq92 #[(.slice (some ⟨body,bodyO,none⟩) bodyN bodyC),(.int .i64 z11.1)] H12 pRu fun(x14:Int×Int) H15=>
 joinPK (Bool×Unit) H15 (fun J16=>
 forkB (decide (z11.1<((bodyN:Nat):Int)))
 (forkB (x14.1 !=0)
 (forkB (decide (x14.1>31))
 (forkB (x14.1 !=10)
 (J16 ((x14.1 !=13),()) H15)
 (J16 (false,()) H15))
 (forkB (x14.1==9)
 (forkB (x14.1 !=10)
 (J16 ((x14.1 !=13),()) H15)
 (J16 (false,()) H15))
 (J16 (false,()) H15)))
 (J16 (false,()) H15))
 (J16 (false,()) H15)) fun y17=>
 forkB y17.1
 (next13 ((IntKind.i64.wrap (z11.1+x14.2)),(IntKind.i64.wrap (z11.2.1+1)),()) H15)
 (J8 (z11.1,z11.2.1,()) H15))
 (retK (some [(.int .i64 z1.1),(.int .i64 z1.2.1)]) H5 R))) fun y9 H10=>
 next3 (y9.1,y9.2.1,()) H10)
 (retK (some [(.int .i64 z1.1),(.int .i64 z1.2.1)]) H2 R)
theorem posAfter.enter (body bodyO bodyN bodyC:Nat) (st:Int) (H:Heap) (R:RR) (h:posAfter.W body bodyO bodyN bodyC st H R):Fn PP fq90 #[(.slice (some ⟨body,bodyO,none⟩) bodyN bodyC),(.int .i64 st)] H R:=
 fnS mixed Tryz.func90 ⟨patL [(21,pRu),(61,pRu)],loopL [(0,[Slot.int .i64 4,Slot.int .i64 5]),(2,[Slot.int .i64 4,Slot.int .i64 5])],joinL [(45,[Slot.int .i64 4,Slot.int .i64 5])],joinL [],joinRL [(6,[Slot.bool 45],true),(13,[Slot.bool 86],true)]⟩ _ H R (Eq.mp (by unfold posAfter.W;kernel_rfl) h)
def readName.W (src:Nat) (position:Int) (runePos:Int) (H:Heap) (R:RR):Prop:=
 newB H (.cells #[(.int .i64 0),(.int .i64 0),(.int .i64 0),(.string (bs []))] tq87) fun b1 H2=>
 lw H2 src 0 pSl4 fun(x3:(Nat×Nat×Nat×Nat))=>
 loopK (Int×Int×Unit) ((IntKind.i64.wrap (position+1)),(IntKind.i64.wrap (runePos+1)),()) H2 fun z4 H5 next6=>
 callW PP fq92 #[(.slice (some ⟨x3.1,x3.2.1,none⟩) x3.2.2.1 x3.2.2.2),(.int .i64 z4.1)] H5 pRu fun(x7:Int×Int) H8=>
 joinPK (Bool×Unit) H8 (fun J9=>
 forkB (z4.1 !=((x3.2.2.1:Nat):Int))
 (forkB (x7.1==95)
 (J9 (true,()) H8)
 (forkB (decide (x7.1≥48))
 (forkB (decide (x7.1≤57))
 (J9 (true,()) H8)
 (forkB (decide (x7.1≥65))
 (forkB (decide (x7.1≤90))
 (J9 (true,()) H8)
 (forkB (decide (x7.1≥97))
 (J9 ((decide (x7.1≤122)),()) H8)
 (J9 (false,()) H8)))
 (forkB (decide (x7.1≥97))
 (J9 ((decide (x7.1≤122)),()) H8)
 (J9 (false,()) H8))))
 (forkB (decide (x7.1≥65))
 (forkB (decide (x7.1≤90))
 (J9 (true,()) H8)
 (forkB (decide (x7.1≥97))
 (J9 ((decide (x7.1≤122)),()) H8)
 (J9 (false,()) H8)))
 (forkB (decide (x7.1≥97))
 (J9 ((decide (x7.1≤122)),()) H8)
 (J9 (false,()) H8)))))
 (J9 (false,()) H8)) fun y10=>
 forkB y10.1
 (next6 ((IntKind.i64.wrap (z4.1+1)),(IntKind.i64.wrap (z4.2.1+1)),()) H8)
 ((((0:Int)≤z4.1∧z4.1≤((x3.2.2.2:Nat):Int))∧((0:Int)≤position∧position≤((z4.1.toNat:Nat):Int)))∧
 stringW H8 ⟨x3.1,(slcO x3.2.1 x3.2.2.2 position.toNat 1),none⟩ (z4.1.toNat -position.toNat) fun s11=>
 callW PP fq91 #[(.int .i64 15),(.int .i64 runePos),(.int .i64 z4.2.1),(.string s11)] H8 pTk fun(x12:Int×Int×Int×ByteArray) H13=>
 storeW H13 ⟨b1,0,none⟩ [(.int .i64 x12.1),(.int .i64 x12.2.1),(.int .i64 x12.2.2.1),(.string x12.2.2.2)] fun H14=>
 retK (consO (loadC H14 true 4 ⟨b1,0,none⟩) (some [])) H14 R)
theorem readName.enter (src:Nat) (position:Int) (runePos:Int) (H:Heap) (R:RR) (h:readName.W src position runePos H R):Fn PP fq93 #[(pq src),(.int .i64 position),(.int .i64 runePos)] H R:=
 fnS mixed Tryz.func93 ⟨patL [(16,pSl4),(26,pRu),(71,pTk)],loopL [(0,[Slot.int .i64 9,Slot.int .i64 10])],joinL [],joinL [],joinRL [(6,[Slot.bool 59],true)]⟩ _ H R (Eq.mp (by unfold readName.W;kernel_rfl) h)
def readDigits.W (src:Nat) (st:Int) (code:Int) (len_:Int) (H:Heap) (R:RR):Prop:=
 lw H src 0 pSl4 fun(x1:(Nat×Nat×Nat×Nat))=>
 joinPK (Bool×Unit) H (fun J2=>
 forkB (decide (code≥48))
 (J2 ((decide (code≤57)),()) H)
 (J2 (false,()) H)) fun y3=>
 forkB y3.1
 (loopK (Int×Int×Int×Unit) (len_,st,code,()) H fun z4 H5 next6=>
 joinPK (Bool×Unit) H5 (fun J7=>
 forkB (decide (z4.2.2.1≥48))
 (J7 ((decide (z4.2.2.1≤57)),()) H5)
 (J7 (false,()) H5)) fun y8=>
 forkB y8.1
 (callW PP fq92 #[(.slice (some ⟨x1.1,x1.2.1,none⟩) x1.2.2.1 x1.2.2.2),(.int .i64 (IntKind.i64.wrap (z4.2.1+z4.1)))] H5 pRu fun(x9:Int×Int) H10=>
 next6 (x9.2,(IntKind.i64.wrap (z4.2.1+z4.1)),x9.1,()) H10)
 (retK (some [(.int .i64 z4.2.1),.nilIface]) H5 R))
 (callW PP fq80 #[(pq src),(.int .i64 st),(.string (bs [73,110,118,97,108,105,100,32,110,117,109,98,101,114,44,32,101,120,112,101,99,116,101,100,32,100,105,103,105,116,32,98,117,116,32,103,111,116,58,32,37,118,46]))] H pBlk fun(x11:Nat) H12=>
 retK (some [(.int .i64 st),(.iface tq49 (pq x11))]) H12 R)
theorem readDigits.enter (src:Nat) (st:Int) (code:Int) (len_:Int) (H:Heap) (R:RR) (h:readDigits.W src st code len_ H R):Fn PP fq122 #[(pq src),(.int .i64 st),(.int .i32 code),(.int .i64 len_)] H R:=
 fnS mixed Tryz.func122 ⟨patL [(17,pSl4),(38,pRu),(46,pBlk)],loopL [(0,[Slot.int .i64 3,Slot.int .i64 11,Slot.int .i32 12])],joinL [],joinL [],joinRL [(4,[Slot.bool 25],true),(5,[Slot.bool 31],true)]⟩ _ H R (Eq.mp (by unfold readDigits.W;kernel_rfl) h)
def readNumber.W (src:Nat) (st:Int) (code:Int) (len_:Int) (H:Heap) (R:RR):Prop:=
 newB H (.cells #[(.int .i64 0),(.int .i64 0),(.int .i64 0),(.string (bs []))] tq87) fun b1 H2=>
 lw H2 src 0 pSl4 fun(x3:(Nat×Nat×Nat×Nat))=>
 joinK (Int×Int×Int×Unit) (fun J4=>
 forkB (code==45)
 (callW PP fq92 #[(.slice (some ⟨x3.1,x3.2.1,none⟩) x3.2.2.1 x3.2.2.2),(.int .i64 (IntKind.i64.wrap (st+len_)))] H2 pRu fun(x7:Int×Int) H8=>
 J4 (x7.2,x7.1,(IntKind.i64.wrap (st+len_)),()) H8)
 (J4 (len_,code,st,()) H2)) fun y5 H6=>
 joinK (Int×Int×Int×Unit) (fun J9=>
 forkB (y5.2.1==48)
 (callW PP fq92 #[(.slice (some ⟨x3.1,x3.2.1,none⟩) x3.2.2.1 x3.2.2.2),(.int .i64 (IntKind.i64.wrap (y5.2.2.1+y5.1)))] H6 pRu fun(x12:Int×Int) H13=>
 joinPK (Bool×Unit) H13 (fun J14=>
 forkB (decide (x12.1≥48))
 (J14 ((decide (x12.1≤57)),()) H13)
 (J14 (false,()) H13)) fun y15=>
 forkB y15.1
 (callW PP fq80 #[(pq src),(.int .i64 (IntKind.i64.wrap (y5.2.2.1+y5.1))),(.string (bs [73,110,118,97,108,105,100,32,110,117,109,98,101,114,44,32,117,110,101,120,112,101,99,116,101,100,32,100,105,103,105,116,32,97,102,116,101,114,32,48,58,32,37,118,46]))] H13 pBlk fun(x16:Nat) H17=>
 storeW H17 ⟨b1,0,none⟩ [(.int .i64 0),(.int .i64 0),(.int .i64 0),(.string (bs []))] fun H18=>
 retK (consO (loadC H18 true 4 ⟨b1,0,none⟩) ((consO (some (.iface tq49 (pq x16))) (some [])))) H18 R)
 (J9 (x12.2,x12.1,(IntKind.i64.wrap (y5.2.2.1+y5.1)),()) H13))
 (callW PP fq122 #[(pq src),(.int .i64 y5.2.2.1),(.int .i32 y5.2.1),(.int .i64 y5.1)] H6 pIE fun(x19:Int) H20=>
 callW PP fq92 #[(.slice (some ⟨x3.1,x3.2.1,none⟩) x3.2.2.1 x3.2.2.2),(.int .i64 x19)] H20 pRu fun(x21:Int×Int) H22=>
 J9 (x21.2,x21.1,x19,()) H22)) fun y10 H11=>
 joinK (Int×Int×Int×Bool×Unit) (fun J23=>
 forkB (y10.2.1==46)
 (callW PP fq92 #[(.slice (some ⟨x3.1,x3.2.1,none⟩) x3.2.2.1 x3.2.2.2),(.int .i64 (IntKind.i64.wrap (y10.2.2.1+y10.1)))] H11 pRu fun(x26:Int×Int) H27=>
 callW PP fq122 #[(pq src),(.int .i64 (IntKind.i64.wrap (y10.2.2.1+y10.1))),(.int .i32 x26.1),(.int .i64 x26.2)] H27 pIE fun(x28:Int) H29=>
 callW PP fq92 #[(.slice (some ⟨x3.1,x3.2.1,none⟩) x3.2.2.1 x3.2.2.2),(.int .i64 x28)] H29 pRu fun(x30:Int×Int) H31=>
 J23 (x30.2,x30.1,x28,true,()) H31)
 (J23 (y10.1,y10.2.1,y10.2.2.1,false,()) H11)) fun y24 H25=>
 joinPK (Bool×Unit) H25 (fun J32=>
 forkB (y24.2.1==69)
 (J32 (true,()) H25)
 (J32 ((y24.2.1==101),()) H25)) fun y33=>
 joinK (Int×Bool×Unit) (fun J34=>
 forkB y33.1
 (callW PP fq92 #[(.slice (some ⟨x3.1,x3.2.1,none⟩) x3.2.2.1 x3.2.2.2),(.int .i64 (IntKind.i64.wrap (y24.2.2.1+y24.1)))] H25 pRu fun(x37:Int×Int) H38=>
 joinPK (Bool×Unit) H38 (fun J39=>
 forkB (x37.1==43)
 (J39 (true,()) H38)
 (J39 ((x37.1==45),()) H38)) fun y40=>
 joinK (Int×Int×Int×Unit) (fun J41=>
 forkB y40.1
 (callW PP fq92 #[(.slice (some ⟨x3.1,x3.2.1,none⟩) x3.2.2.1 x3.2.2.2),(.int .i64 (IntKind.i64.wrap ((IntKind.i64.wrap (y24.2.2.1+y24.1))+x37.2)))] H38 pRu fun(x44:Int×Int) H45=>
 J41 (x44.2,x44.1,(IntKind.i64.wrap ((IntKind.i64.wrap (y24.2.2.1+y24.1))+x37.2)),()) H45)
 (J41 (x37.2,x37.1,(IntKind.i64.wrap (y24.2.2.1+y24.1)),()) H38)) fun y42 H43=>
 callW PP fq122 #[(pq src),(.int .i64 y42.2.2.1),(.int .i32 y42.2.1),(.int .i64 y42.1)] H43 pIE fun(x46:Int) H47=>
 J34 (x46,true,()) H47)
 (J34 (y24.2.2.1,y24.2.2.2.1,()) H25)) fun y35 H36=>
 joinK (Int×Unit) (fun J48=>
 forkB y35.2.1
 (J48 (17,()) H36)
 (J48 (16,()) H36)) fun y49 H50=>
 (((0:Int)≤y35.1∧y35.1≤((x3.2.2.2:Nat):Int))∧((0:Int)≤st∧st≤((y35.1.toNat:Nat):Int)))∧
 stringW H50 ⟨x3.1,(slcO x3.2.1 x3.2.2.2 st.toNat 1),none⟩ (y35.1.toNat -st.toNat) fun s51=>
 callW PP fq91 #[(.int .i64 y49.1),(.int .i64 st),(.int .i64 y35.1),(.string s51)] H50 pTk fun(x52:Int×Int×Int×ByteArray) H53=>
 storeW H53 ⟨b1,0,none⟩ [(.int .i64 x52.1),(.int .i64 x52.2.1),(.int .i64 x52.2.2.1),(.string x52.2.2.2)] fun H54=>
 retK (consO (loadC H54 true 4 ⟨b1,0,none⟩) ((consO (some .nilIface) (some [])))) H54 R
theorem readNumber.enter (src:Nat) (st:Int) (code:Int) (len_:Int) (H:Heap) (R:RR) (h:readNumber.W src st code len_ H R):Fn PP fq94 #[(pq src),(.int .i64 st),(.int .i32 code),(.int .i64 len_)] H R:=
 fnS mixed Tryz.func94 ⟨patL [(26,pSl4),(36,pRu),(47,pRu),(60,pBlk),(67,pIE),(78,pRu),(89,pRu),(97,pIE),(108,pRu),(123,pRu),(138,pRu),(146,pIE),(163,pTk)],loopL [],joinL [(29,[Slot.int .i64 3,Slot.int .i32 10,Slot.int .i64 12]),(40,[Slot.int .i64 3,Slot.int .i32 10,Slot.int .i64 12]),(82,[Slot.int .i64 3,Slot.int .i32 10,Slot.int .i64 12,Slot.bool 13]),(116,[Slot.int .i64 12,Slot.bool 13]),(131,[Slot.int .i64 3,Slot.int .i32 10,Slot.int .i64 12]),(154,[Slot.int .i64 21])],joinL [],joinRL [(11,[Slot.bool 55],true),(28,[Slot.bool 116],true),(32,[Slot.bool 131],true)]⟩ _ H R (Eq.mp (by unfold readNumber.W;kernel_rfl) h)
def readToken.W (src:Nat) (from_:Int) (H:Heap) (R:RR):Prop:=
 newB H (.cells #[(.int .i64 0),(.int .i64 0),(.int .i64 0),(.string (bs []))] tq87) fun b1 H2=>
 lw H2 src 0 pSl4 fun(x3:(Nat×Nat×Nat×Nat))=>
 callW PP fq90 #[(.slice (some ⟨x3.1,x3.2.1,none⟩) x3.2.2.1 x3.2.2.2),(.int .i64 from_)] H2 pII fun(x4:Int×Int) H5=>
 forkB (decide (x4.1≥((x3.2.2.1:Nat):Int)))
 (callW PP fq91 #[(.int .i64 1),(.int .i64 x4.1),(.int .i64 x4.1),(.string (bs []))] H5 pTk fun(x6:Int×Int×Int×ByteArray) H7=>
 storeW H7 ⟨b1,0,none⟩ [(.int .i64 x6.1),(.int .i64 x6.2.1),(.int .i64 x6.2.2.1),(.string x6.2.2.2)] fun H8=>
 retK (consO (loadC H8 true 4 ⟨b1,0,none⟩) ((consO (some .nilIface) (some [])))) H8 R)
 (callW PP fq92 #[(.slice (some ⟨x3.1,x3.2.1,none⟩) x3.2.2.1 x3.2.2.2),(.int .i64 x4.1)] H5 pRu fun(x9:Int×Int) H10=>
 joinPK (Bool×Unit) H10 (fun J11=>
 forkB (decide (x9.1<32))
 (forkB (x9.1 !=9)
 (forkB (x9.1 !=10)
 (J11 ((x9.1 !=13),()) H10)
 (J11 (false,()) H10))
 (J11 (false,()) H10))
 (J11 (false,()) H10)) fun y12=>
 forkB y12.1
 (callW PP fq80 #[(pq src),(.int .i64 x4.2),(.string (bs [73,110,118,97,108,105,100,32,99,104,97,114,97,99,116,101,114,32,37,118]))] H10 pBlk fun(x13:Nat) H14=>
 storeW H14 ⟨b1,0,none⟩ [(.int .i64 0),(.int .i64 0),(.int .i64 0),(.string (bs []))] fun H15=>
 retK (consO (loadC H15 true 4 ⟨b1,0,none⟩) ((consO (some (.iface tq49 (pq x13))) (some [])))) H15 R)
 (joinK (Unit) (fun J16=>
 forkB (x9.1==33)
 (callW PP fq91 #[(.int .i64 2),(.int .i64 x4.1),(.int .i64 (IntKind.i64.wrap (x4.1+1))),(.string (bs []))] H10 pTk fun(x19:Int×Int×Int×ByteArray) H20=>
 storeW H20 ⟨b1,0,none⟩ [(.int .i64 x19.1),(.int .i64 x19.2.1),(.int .i64 x19.2.2.1),(.string x19.2.2.2)] fun H21=>
 retK (consO (loadC H21 true 4 ⟨b1,0,none⟩) ((consO (some .nilIface) (some [])))) H21 R)
 (forkB (x9.1==36)
 (callW PP fq91 #[(.int .i64 3),(.int .i64 x4.1),(.int .i64 (IntKind.i64.wrap (x4.1+1))),(.string (bs []))] H10 pTk fun(x22:Int×Int×Int×ByteArray) H23=>
 storeW H23 ⟨b1,0,none⟩ [(.int .i64 x22.1),(.int .i64 x22.2.1),(.int .i64 x22.2.2.1),(.string x22.2.2.2)] fun H24=>
 retK (consO (loadC H24 true 4 ⟨b1,0,none⟩) ((consO (some .nilIface) (some [])))) H24 R)
 (forkB (x9.1==38)
 (callW PP fq91 #[(.int .i64 20),(.int .i64 x4.1),(.int .i64 (IntKind.i64.wrap (x4.1+1))),(.string (bs []))] H10 pTk fun(x25:Int×Int×Int×ByteArray) H26=>
 storeW H26 ⟨b1,0,none⟩ [(.int .i64 x25.1),(.int .i64 x25.2.1),(.int .i64 x25.2.2.1),(.string x25.2.2.2)] fun H27=>
 retK (consO (loadC H27 true 4 ⟨b1,0,none⟩) ((consO (some .nilIface) (some [])))) H27 R)
 (forkB (x9.1==40)
 (callW PP fq91 #[(.int .i64 4),(.int .i64 x4.1),(.int .i64 (IntKind.i64.wrap (x4.1+1))),(.string (bs []))] H10 pTk fun(x28:Int×Int×Int×ByteArray) H29=>
 storeW H29 ⟨b1,0,none⟩ [(.int .i64 x28.1),(.int .i64 x28.2.1),(.int .i64 x28.2.2.1),(.string x28.2.2.2)] fun H30=>
 retK (consO (loadC H30 true 4 ⟨b1,0,none⟩) ((consO (some .nilIface) (some [])))) H30 R)
 (forkB (x9.1==41)
 (callW PP fq91 #[(.int .i64 5),(.int .i64 x4.1),(.int .i64 (IntKind.i64.wrap (x4.1+1))),(.string (bs []))] H10 pTk fun(x31:Int×Int×Int×ByteArray) H32=>
 storeW H32 ⟨b1,0,none⟩ [(.int .i64 x31.1),(.int .i64 x31.2.1),(.int .i64 x31.2.2.1),(.string x31.2.2.2)] fun H33=>
 retK (consO (loadC H33 true 4 ⟨b1,0,none⟩) ((consO (some .nilIface) (some [])))) H33 R)
 (forkB (x9.1==46)
 (callW PP fq92 #[(.slice (some ⟨x3.1,x3.2.1,none⟩) x3.2.2.1 x3.2.2.2),(.int .i64 (IntKind.i64.wrap (x4.1+1)))] H10 pRu fun(x34:Int×Int) H35=>
 callW PP fq92 #[(.slice (some ⟨x3.1,x3.2.1,none⟩) x3.2.2.1 x3.2.2.2),(.int .i64 (IntKind.i64.wrap (x4.1+2)))] H35 pRu fun(x36:Int×Int) H37=>
 joinPK (Bool×Unit) H37 (fun J38=>
 forkB (x34.1==46)
 (J38 ((x36.1==46),()) H37)
 (J38 (false,()) H37)) fun y39=>
 forkB y39.1
 (callW PP fq91 #[(.int .i64 6),(.int .i64 x4.1),(.int .i64 (IntKind.i64.wrap (x4.1+3))),(.string (bs []))] H37 pTk fun(x40:Int×Int×Int×ByteArray) H41=>
 storeW H41 ⟨b1,0,none⟩ [(.int .i64 x40.1),(.int .i64 x40.2.1),(.int .i64 x40.2.2.1),(.string x40.2.2.2)] fun H42=>
 retK (consO (loadC H42 true 4 ⟨b1,0,none⟩) ((consO (some .nilIface) (some [])))) H42 R)
 (J16 (()) H37))
 (forkB (x9.1==58)
 (callW PP fq91 #[(.int .i64 7),(.int .i64 x4.1),(.int .i64 (IntKind.i64.wrap (x4.1+1))),(.string (bs []))] H10 pTk fun(x43:Int×Int×Int×ByteArray) H44=>
 storeW H44 ⟨b1,0,none⟩ [(.int .i64 x43.1),(.int .i64 x43.2.1),(.int .i64 x43.2.2.1),(.string x43.2.2.2)] fun H45=>
 retK (consO (loadC H45 true 4 ⟨b1,0,none⟩) ((consO (some .nilIface) (some [])))) H45 R)
 (forkB (x9.1==61)
 (callW PP fq91 #[(.int .i64 8),(.int .i64 x4.1),(.int .i64 (IntKind.i64.wrap (x4.1+1))),(.string (bs []))] H10 pTk fun(x46:Int×Int×Int×ByteArray) H47=>
 storeW H47 ⟨b1,0,none⟩ [(.int .i64 x46.1),(.int .i64 x46.2.1),(.int .i64 x46.2.2.1),(.string x46.2.2.2)] fun H48=>
 retK (consO (loadC H48 true 4 ⟨b1,0,none⟩) ((consO (some .nilIface) (some [])))) H48 R)
 (forkB (x9.1==64)
 (callW PP fq91 #[(.int .i64 9),(.int .i64 x4.1),(.int .i64 (IntKind.i64.wrap (x4.1+1))),(.string (bs []))] H10 pTk fun(x49:Int×Int×Int×ByteArray) H50=>
 storeW H50 ⟨b1,0,none⟩ [(.int .i64 x49.1),(.int .i64 x49.2.1),(.int .i64 x49.2.2.1),(.string x49.2.2.2)] fun H51=>
 retK (consO (loadC H51 true 4 ⟨b1,0,none⟩) ((consO (some .nilIface) (some [])))) H51 R)
 (forkB (x9.1==91)
 (callW PP fq91 #[(.int .i64 10),(.int .i64 x4.1),(.int .i64 (IntKind.i64.wrap (x4.1+1))),(.string (bs []))] H10 pTk fun(x52:Int×Int×Int×ByteArray) H53=>
 storeW H53 ⟨b1,0,none⟩ [(.int .i64 x52.1),(.int .i64 x52.2.1),(.int .i64 x52.2.2.1),(.string x52.2.2.2)] fun H54=>
 retK (consO (loadC H54 true 4 ⟨b1,0,none⟩) ((consO (some .nilIface) (some [])))) H54 R)
 (forkB (x9.1==93)
 (callW PP fq91 #[(.int .i64 11),(.int .i64 x4.1),(.int .i64 (IntKind.i64.wrap (x4.1+1))),(.string (bs []))] H10 pTk fun(x55:Int×Int×Int×ByteArray) H56=>
 storeW H56 ⟨b1,0,none⟩ [(.int .i64 x55.1),(.int .i64 x55.2.1),(.int .i64 x55.2.2.1),(.string x55.2.2.2)] fun H57=>
 retK (consO (loadC H57 true 4 ⟨b1,0,none⟩) ((consO (some .nilIface) (some [])))) H57 R)
 (forkB (x9.1==123)
 (callW PP fq91 #[(.int .i64 12),(.int .i64 x4.1),(.int .i64 (IntKind.i64.wrap (x4.1+1))),(.string (bs []))] H10 pTk fun(x58:Int×Int×Int×ByteArray) H59=>
 storeW H59 ⟨b1,0,none⟩ [(.int .i64 x58.1),(.int .i64 x58.2.1),(.int .i64 x58.2.2.1),(.string x58.2.2.2)] fun H60=>
 retK (consO (loadC H60 true 4 ⟨b1,0,none⟩) ((consO (some .nilIface) (some [])))) H60 R)
 (forkB (x9.1==124)
 (callW PP fq91 #[(.int .i64 13),(.int .i64 x4.1),(.int .i64 (IntKind.i64.wrap (x4.1+1))),(.string (bs []))] H10 pTk fun(x61:Int×Int×Int×ByteArray) H62=>
 storeW H62 ⟨b1,0,none⟩ [(.int .i64 x61.1),(.int .i64 x61.2.1),(.int .i64 x61.2.2.1),(.string x61.2.2.2)] fun H63=>
 retK (consO (loadC H63 true 4 ⟨b1,0,none⟩) ((consO (some .nilIface) (some [])))) H63 R)
 (forkB (x9.1==125)
 (callW PP fq91 #[(.int .i64 14),(.int .i64 x4.1),(.int .i64 (IntKind.i64.wrap (x4.1+1))),(.string (bs []))] H10 pTk fun(x64:Int×Int×Int×ByteArray) H65=>
 storeW H65 ⟨b1,0,none⟩ [(.int .i64 x64.1),(.int .i64 x64.2.1),(.int .i64 x64.2.2.1),(.string x64.2.2.2)] fun H66=>
 retK (consO (loadC H66 true 4 ⟨b1,0,none⟩) ((consO (some .nilIface) (some [])))) H66 R)
 (forkB (x9.1==65)
 (callW PP fq93 #[(pq src),(.int .i64 x4.1),(.int .i64 x4.2)] H10 pTk fun(x67:Int×Int×Int×ByteArray) H68=>
 storeW H68 ⟨b1,0,none⟩ [(.int .i64 x67.1),(.int .i64 x67.2.1),(.int .i64 x67.2.2.1),(.string x67.2.2.2)] fun H69=>
 retK (consO (loadC H69 true 4 ⟨b1,0,none⟩) ((consO (some .nilIface) (some [])))) H69 R)
 (forkB (x9.1==66)
 (callW PP fq93 #[(pq src),(.int .i64 x4.1),(.int .i64 x4.2)] H10 pTk fun(x70:Int×Int×Int×ByteArray) H71=>
 storeW H71 ⟨b1,0,none⟩ [(.int .i64 x70.1),(.int .i64 x70.2.1),(.int .i64 x70.2.2.1),(.string x70.2.2.2)] fun H72=>
 retK (consO (loadC H72 true 4 ⟨b1,0,none⟩) ((consO (some .nilIface) (some [])))) H72 R)
 (forkB (x9.1==67)
 (callW PP fq93 #[(pq src),(.int .i64 x4.1),(.int .i64 x4.2)] H10 pTk fun(x73:Int×Int×Int×ByteArray) H74=>
 storeW H74 ⟨b1,0,none⟩ [(.int .i64 x73.1),(.int .i64 x73.2.1),(.int .i64 x73.2.2.1),(.string x73.2.2.2)] fun H75=>
 retK (consO (loadC H75 true 4 ⟨b1,0,none⟩) ((consO (some .nilIface) (some [])))) H75 R)
 (forkB (x9.1==68)
 (callW PP fq93 #[(pq src),(.int .i64 x4.1),(.int .i64 x4.2)] H10 pTk fun(x76:Int×Int×Int×ByteArray) H77=>
 storeW H77 ⟨b1,0,none⟩ [(.int .i64 x76.1),(.int .i64 x76.2.1),(.int .i64 x76.2.2.1),(.string x76.2.2.2)] fun H78=>
 retK (consO (loadC H78 true 4 ⟨b1,0,none⟩) ((consO (some .nilIface) (some [])))) H78 R)
 (forkB (x9.1==69)
 (callW PP fq93 #[(pq src),(.int .i64 x4.1),(.int .i64 x4.2)] H10 pTk fun(x79:Int×Int×Int×ByteArray) H80=>
 storeW H80 ⟨b1,0,none⟩ [(.int .i64 x79.1),(.int .i64 x79.2.1),(.int .i64 x79.2.2.1),(.string x79.2.2.2)] fun H81=>
 retK (consO (loadC H81 true 4 ⟨b1,0,none⟩) ((consO (some .nilIface) (some [])))) H81 R)
 (forkB (x9.1==70)
 (callW PP fq93 #[(pq src),(.int .i64 x4.1),(.int .i64 x4.2)] H10 pTk fun(x82:Int×Int×Int×ByteArray) H83=>
 storeW H83 ⟨b1,0,none⟩ [(.int .i64 x82.1),(.int .i64 x82.2.1),(.int .i64 x82.2.2.1),(.string x82.2.2.2)] fun H84=>
 retK (consO (loadC H84 true 4 ⟨b1,0,none⟩) ((consO (some .nilIface) (some [])))) H84 R)
 (forkB (x9.1==71)
 (callW PP fq93 #[(pq src),(.int .i64 x4.1),(.int .i64 x4.2)] H10 pTk fun(x85:Int×Int×Int×ByteArray) H86=>
 storeW H86 ⟨b1,0,none⟩ [(.int .i64 x85.1),(.int .i64 x85.2.1),(.int .i64 x85.2.2.1),(.string x85.2.2.2)] fun H87=>
 retK (consO (loadC H87 true 4 ⟨b1,0,none⟩) ((consO (some .nilIface) (some [])))) H87 R)
 (forkB (x9.1==72)
 (callW PP fq93 #[(pq src),(.int .i64 x4.1),(.int .i64 x4.2)] H10 pTk fun(x88:Int×Int×Int×ByteArray) H89=>
 storeW H89 ⟨b1,0,none⟩ [(.int .i64 x88.1),(.int .i64 x88.2.1),(.int .i64 x88.2.2.1),(.string x88.2.2.2)] fun H90=>
 retK (consO (loadC H90 true 4 ⟨b1,0,none⟩) ((consO (some .nilIface) (some [])))) H90 R)
 (forkB (x9.1==73)
 (callW PP fq93 #[(pq src),(.int .i64 x4.1),(.int .i64 x4.2)] H10 pTk fun(x91:Int×Int×Int×ByteArray) H92=>
 storeW H92 ⟨b1,0,none⟩ [(.int .i64 x91.1),(.int .i64 x91.2.1),(.int .i64 x91.2.2.1),(.string x91.2.2.2)] fun H93=>
 retK (consO (loadC H93 true 4 ⟨b1,0,none⟩) ((consO (some .nilIface) (some [])))) H93 R)
 (forkB (x9.1==74)
 (callW PP fq93 #[(pq src),(.int .i64 x4.1),(.int .i64 x4.2)] H10 pTk fun(x94:Int×Int×Int×ByteArray) H95=>
 storeW H95 ⟨b1,0,none⟩ [(.int .i64 x94.1),(.int .i64 x94.2.1),(.int .i64 x94.2.2.1),(.string x94.2.2.2)] fun H96=>
 retK (consO (loadC H96 true 4 ⟨b1,0,none⟩) ((consO (some .nilIface) (some [])))) H96 R)
 (forkB (x9.1==75)
 (callW PP fq93 #[(pq src),(.int .i64 x4.1),(.int .i64 x4.2)] H10 pTk fun(x97:Int×Int×Int×ByteArray) H98=>
 storeW H98 ⟨b1,0,none⟩ [(.int .i64 x97.1),(.int .i64 x97.2.1),(.int .i64 x97.2.2.1),(.string x97.2.2.2)] fun H99=>
 retK (consO (loadC H99 true 4 ⟨b1,0,none⟩) ((consO (some .nilIface) (some [])))) H99 R)
 (forkB (x9.1==76)
 (callW PP fq93 #[(pq src),(.int .i64 x4.1),(.int .i64 x4.2)] H10 pTk fun(x100:Int×Int×Int×ByteArray) H101=>
 storeW H101 ⟨b1,0,none⟩ [(.int .i64 x100.1),(.int .i64 x100.2.1),(.int .i64 x100.2.2.1),(.string x100.2.2.2)] fun H102=>
 retK (consO (loadC H102 true 4 ⟨b1,0,none⟩) ((consO (some .nilIface) (some [])))) H102 R)
 (forkB (x9.1==77)
 (callW PP fq93 #[(pq src),(.int .i64 x4.1),(.int .i64 x4.2)] H10 pTk fun(x103:Int×Int×Int×ByteArray) H104=>
 storeW H104 ⟨b1,0,none⟩ [(.int .i64 x103.1),(.int .i64 x103.2.1),(.int .i64 x103.2.2.1),(.string x103.2.2.2)] fun H105=>
 retK (consO (loadC H105 true 4 ⟨b1,0,none⟩) ((consO (some .nilIface) (some [])))) H105 R)
 (forkB (x9.1==78)
 (callW PP fq93 #[(pq src),(.int .i64 x4.1),(.int .i64 x4.2)] H10 pTk fun(x106:Int×Int×Int×ByteArray) H107=>
 storeW H107 ⟨b1,0,none⟩ [(.int .i64 x106.1),(.int .i64 x106.2.1),(.int .i64 x106.2.2.1),(.string x106.2.2.2)] fun H108=>
 retK (consO (loadC H108 true 4 ⟨b1,0,none⟩) ((consO (some .nilIface) (some [])))) H108 R)
 (forkB (x9.1==79)
 (callW PP fq93 #[(pq src),(.int .i64 x4.1),(.int .i64 x4.2)] H10 pTk fun(x109:Int×Int×Int×ByteArray) H110=>
 storeW H110 ⟨b1,0,none⟩ [(.int .i64 x109.1),(.int .i64 x109.2.1),(.int .i64 x109.2.2.1),(.string x109.2.2.2)] fun H111=>
 retK (consO (loadC H111 true 4 ⟨b1,0,none⟩) ((consO (some .nilIface) (some [])))) H111 R)
 (forkB (x9.1==80)
 (callW PP fq93 #[(pq src),(.int .i64 x4.1),(.int .i64 x4.2)] H10 pTk fun(x112:Int×Int×Int×ByteArray) H113=>
 storeW H113 ⟨b1,0,none⟩ [(.int .i64 x112.1),(.int .i64 x112.2.1),(.int .i64 x112.2.2.1),(.string x112.2.2.2)] fun H114=>
 retK (consO (loadC H114 true 4 ⟨b1,0,none⟩) ((consO (some .nilIface) (some [])))) H114 R)
 (forkB (x9.1==81)
 (callW PP fq93 #[(pq src),(.int .i64 x4.1),(.int .i64 x4.2)] H10 pTk fun(x115:Int×Int×Int×ByteArray) H116=>
 storeW H116 ⟨b1,0,none⟩ [(.int .i64 x115.1),(.int .i64 x115.2.1),(.int .i64 x115.2.2.1),(.string x115.2.2.2)] fun H117=>
 retK (consO (loadC H117 true 4 ⟨b1,0,none⟩) ((consO (some .nilIface) (some [])))) H117 R)
 (forkB (x9.1==82)
 (callW PP fq93 #[(pq src),(.int .i64 x4.1),(.int .i64 x4.2)] H10 pTk fun(x118:Int×Int×Int×ByteArray) H119=>
 storeW H119 ⟨b1,0,none⟩ [(.int .i64 x118.1),(.int .i64 x118.2.1),(.int .i64 x118.2.2.1),(.string x118.2.2.2)] fun H120=>
 retK (consO (loadC H120 true 4 ⟨b1,0,none⟩) ((consO (some .nilIface) (some [])))) H120 R)
 (forkB (x9.1==83)
 (callW PP fq93 #[(pq src),(.int .i64 x4.1),(.int .i64 x4.2)] H10 pTk fun(x121:Int×Int×Int×ByteArray) H122=>
 storeW H122 ⟨b1,0,none⟩ [(.int .i64 x121.1),(.int .i64 x121.2.1),(.int .i64 x121.2.2.1),(.string x121.2.2.2)] fun H123=>
 retK (consO (loadC H123 true 4 ⟨b1,0,none⟩) ((consO (some .nilIface) (some [])))) H123 R)
 (forkB (x9.1==84)
 (callW PP fq93 #[(pq src),(.int .i64 x4.1),(.int .i64 x4.2)] H10 pTk fun(x124:Int×Int×Int×ByteArray) H125=>
 storeW H125 ⟨b1,0,none⟩ [(.int .i64 x124.1),(.int .i64 x124.2.1),(.int .i64 x124.2.2.1),(.string x124.2.2.2)] fun H126=>
 retK (consO (loadC H126 true 4 ⟨b1,0,none⟩) ((consO (some .nilIface) (some [])))) H126 R)
 (forkB (x9.1==85)
 (callW PP fq93 #[(pq src),(.int .i64 x4.1),(.int .i64 x4.2)] H10 pTk fun(x127:Int×Int×Int×ByteArray) H128=>
 storeW H128 ⟨b1,0,none⟩ [(.int .i64 x127.1),(.int .i64 x127.2.1),(.int .i64 x127.2.2.1),(.string x127.2.2.2)] fun H129=>
 retK (consO (loadC H129 true 4 ⟨b1,0,none⟩) ((consO (some .nilIface) (some [])))) H129 R)
 (forkB (x9.1==86)
 (callW PP fq93 #[(pq src),(.int .i64 x4.1),(.int .i64 x4.2)] H10 pTk fun(x130:Int×Int×Int×ByteArray) H131=>
 storeW H131 ⟨b1,0,none⟩ [(.int .i64 x130.1),(.int .i64 x130.2.1),(.int .i64 x130.2.2.1),(.string x130.2.2.2)] fun H132=>
 retK (consO (loadC H132 true 4 ⟨b1,0,none⟩) ((consO (some .nilIface) (some [])))) H132 R)
 (forkB (x9.1==87)
 (callW PP fq93 #[(pq src),(.int .i64 x4.1),(.int .i64 x4.2)] H10 pTk fun(x133:Int×Int×Int×ByteArray) H134=>
 storeW H134 ⟨b1,0,none⟩ [(.int .i64 x133.1),(.int .i64 x133.2.1),(.int .i64 x133.2.2.1),(.string x133.2.2.2)] fun H135=>
 retK (consO (loadC H135 true 4 ⟨b1,0,none⟩) ((consO (some .nilIface) (some [])))) H135 R)
 (forkB (x9.1==88)
 (callW PP fq93 #[(pq src),(.int .i64 x4.1),(.int .i64 x4.2)] H10 pTk fun(x136:Int×Int×Int×ByteArray) H137=>
 storeW H137 ⟨b1,0,none⟩ [(.int .i64 x136.1),(.int .i64 x136.2.1),(.int .i64 x136.2.2.1),(.string x136.2.2.2)] fun H138=>
 retK (consO (loadC H138 true 4 ⟨b1,0,none⟩) ((consO (some .nilIface) (some [])))) H138 R)
 (forkB (x9.1==89)
 (callW PP fq93 #[(pq src),(.int .i64 x4.1),(.int .i64 x4.2)] H10 pTk fun(x139:Int×Int×Int×ByteArray) H140=>
 storeW H140 ⟨b1,0,none⟩ [(.int .i64 x139.1),(.int .i64 x139.2.1),(.int .i64 x139.2.2.1),(.string x139.2.2.2)] fun H141=>
 retK (consO (loadC H141 true 4 ⟨b1,0,none⟩) ((consO (some .nilIface) (some [])))) H141 R)
 (forkB (x9.1==90)
 (callW PP fq93 #[(pq src),(.int .i64 x4.1),(.int .i64 x4.2)] H10 pTk fun(x142:Int×Int×Int×ByteArray) H143=>
 storeW H143 ⟨b1,0,none⟩ [(.int .i64 x142.1),(.int .i64 x142.2.1),(.int .i64 x142.2.2.1),(.string x142.2.2.2)] fun H144=>
 retK (consO (loadC H144 true 4 ⟨b1,0,none⟩) ((consO (some .nilIface) (some [])))) H144 R)
 (forkB (x9.1==95)
 (callW PP fq93 #[(pq src),(.int .i64 x4.1),(.int .i64 x4.2)] H10 pTk fun(x145:Int×Int×Int×ByteArray) H146=>
 storeW H146 ⟨b1,0,none⟩ [(.int .i64 x145.1),(.int .i64 x145.2.1),(.int .i64 x145.2.2.1),(.string x145.2.2.2)] fun H147=>
 retK (consO (loadC H147 true 4 ⟨b1,0,none⟩) ((consO (some .nilIface) (some [])))) H147 R)
 (forkB (x9.1==97)
 (callW PP fq93 #[(pq src),(.int .i64 x4.1),(.int .i64 x4.2)] H10 pTk fun(x148:Int×Int×Int×ByteArray) H149=>
 storeW H149 ⟨b1,0,none⟩ [(.int .i64 x148.1),(.int .i64 x148.2.1),(.int .i64 x148.2.2.1),(.string x148.2.2.2)] fun H150=>
 retK (consO (loadC H150 true 4 ⟨b1,0,none⟩) ((consO (some .nilIface) (some [])))) H150 R)
 (forkB (x9.1==98)
 (callW PP fq93 #[(pq src),(.int .i64 x4.1),(.int .i64 x4.2)] H10 pTk fun(x151:Int×Int×Int×ByteArray) H152=>
 storeW H152 ⟨b1,0,none⟩ [(.int .i64 x151.1),(.int .i64 x151.2.1),(.int .i64 x151.2.2.1),(.string x151.2.2.2)] fun H153=>
 retK (consO (loadC H153 true 4 ⟨b1,0,none⟩) ((consO (some .nilIface) (some [])))) H153 R)
 (forkB (x9.1==99)
 (callW PP fq93 #[(pq src),(.int .i64 x4.1),(.int .i64 x4.2)] H10 pTk fun(x154:Int×Int×Int×ByteArray) H155=>
 storeW H155 ⟨b1,0,none⟩ [(.int .i64 x154.1),(.int .i64 x154.2.1),(.int .i64 x154.2.2.1),(.string x154.2.2.2)] fun H156=>
 retK (consO (loadC H156 true 4 ⟨b1,0,none⟩) ((consO (some .nilIface) (some [])))) H156 R)
 (forkB (x9.1==100)
 (callW PP fq93 #[(pq src),(.int .i64 x4.1),(.int .i64 x4.2)] H10 pTk fun(x157:Int×Int×Int×ByteArray) H158=>
 storeW H158 ⟨b1,0,none⟩ [(.int .i64 x157.1),(.int .i64 x157.2.1),(.int .i64 x157.2.2.1),(.string x157.2.2.2)] fun H159=>
 retK (consO (loadC H159 true 4 ⟨b1,0,none⟩) ((consO (some .nilIface) (some [])))) H159 R)
 (forkB (x9.1==101)
 (callW PP fq93 #[(pq src),(.int .i64 x4.1),(.int .i64 x4.2)] H10 pTk fun(x160:Int×Int×Int×ByteArray) H161=>
 storeW H161 ⟨b1,0,none⟩ [(.int .i64 x160.1),(.int .i64 x160.2.1),(.int .i64 x160.2.2.1),(.string x160.2.2.2)] fun H162=>
 retK (consO (loadC H162 true 4 ⟨b1,0,none⟩) ((consO (some .nilIface) (some [])))) H162 R)
 (forkB (x9.1==102)
 (callW PP fq93 #[(pq src),(.int .i64 x4.1),(.int .i64 x4.2)] H10 pTk fun(x163:Int×Int×Int×ByteArray) H164=>
 storeW H164 ⟨b1,0,none⟩ [(.int .i64 x163.1),(.int .i64 x163.2.1),(.int .i64 x163.2.2.1),(.string x163.2.2.2)] fun H165=>
 retK (consO (loadC H165 true 4 ⟨b1,0,none⟩) ((consO (some .nilIface) (some [])))) H165 R)
 (forkB (x9.1==103)
 (callW PP fq93 #[(pq src),(.int .i64 x4.1),(.int .i64 x4.2)] H10 pTk fun(x166:Int×Int×Int×ByteArray) H167=>
 storeW H167 ⟨b1,0,none⟩ [(.int .i64 x166.1),(.int .i64 x166.2.1),(.int .i64 x166.2.2.1),(.string x166.2.2.2)] fun H168=>
 retK (consO (loadC H168 true 4 ⟨b1,0,none⟩) ((consO (some .nilIface) (some [])))) H168 R)
 (forkB (x9.1==104)
 (callW PP fq93 #[(pq src),(.int .i64 x4.1),(.int .i64 x4.2)] H10 pTk fun(x169:Int×Int×Int×ByteArray) H170=>
 storeW H170 ⟨b1,0,none⟩ [(.int .i64 x169.1),(.int .i64 x169.2.1),(.int .i64 x169.2.2.1),(.string x169.2.2.2)] fun H171=>
 retK (consO (loadC H171 true 4 ⟨b1,0,none⟩) ((consO (some .nilIface) (some [])))) H171 R)
 (forkB (x9.1==105)
 (callW PP fq93 #[(pq src),(.int .i64 x4.1),(.int .i64 x4.2)] H10 pTk fun(x172:Int×Int×Int×ByteArray) H173=>
 storeW H173 ⟨b1,0,none⟩ [(.int .i64 x172.1),(.int .i64 x172.2.1),(.int .i64 x172.2.2.1),(.string x172.2.2.2)] fun H174=>
 retK (consO (loadC H174 true 4 ⟨b1,0,none⟩) ((consO (some .nilIface) (some [])))) H174 R)
 (forkB (x9.1==106)
 (callW PP fq93 #[(pq src),(.int .i64 x4.1),(.int .i64 x4.2)] H10 pTk fun(x175:Int×Int×Int×ByteArray) H176=>
 storeW H176 ⟨b1,0,none⟩ [(.int .i64 x175.1),(.int .i64 x175.2.1),(.int .i64 x175.2.2.1),(.string x175.2.2.2)] fun H177=>
 retK (consO (loadC H177 true 4 ⟨b1,0,none⟩) ((consO (some .nilIface) (some [])))) H177 R)
 (forkB (x9.1==107)
 (callW PP fq93 #[(pq src),(.int .i64 x4.1),(.int .i64 x4.2)] H10 pTk fun(x178:Int×Int×Int×ByteArray) H179=>
 storeW H179 ⟨b1,0,none⟩ [(.int .i64 x178.1),(.int .i64 x178.2.1),(.int .i64 x178.2.2.1),(.string x178.2.2.2)] fun H180=>
 retK (consO (loadC H180 true 4 ⟨b1,0,none⟩) ((consO (some .nilIface) (some [])))) H180 R)
 (forkB (x9.1==108)
 (callW PP fq93 #[(pq src),(.int .i64 x4.1),(.int .i64 x4.2)] H10 pTk fun(x181:Int×Int×Int×ByteArray) H182=>
 storeW H182 ⟨b1,0,none⟩ [(.int .i64 x181.1),(.int .i64 x181.2.1),(.int .i64 x181.2.2.1),(.string x181.2.2.2)] fun H183=>
 retK (consO (loadC H183 true 4 ⟨b1,0,none⟩) ((consO (some .nilIface) (some [])))) H183 R)
 (forkB (x9.1==109)
 (callW PP fq93 #[(pq src),(.int .i64 x4.1),(.int .i64 x4.2)] H10 pTk fun(x184:Int×Int×Int×ByteArray) H185=>
 storeW H185 ⟨b1,0,none⟩ [(.int .i64 x184.1),(.int .i64 x184.2.1),(.int .i64 x184.2.2.1),(.string x184.2.2.2)] fun H186=>
 retK (consO (loadC H186 true 4 ⟨b1,0,none⟩) ((consO (some .nilIface) (some [])))) H186 R)
 (forkB (x9.1==110)
 (callW PP fq93 #[(pq src),(.int .i64 x4.1),(.int .i64 x4.2)] H10 pTk fun(x187:Int×Int×Int×ByteArray) H188=>
 storeW H188 ⟨b1,0,none⟩ [(.int .i64 x187.1),(.int .i64 x187.2.1),(.int .i64 x187.2.2.1),(.string x187.2.2.2)] fun H189=>
 retK (consO (loadC H189 true 4 ⟨b1,0,none⟩) ((consO (some .nilIface) (some [])))) H189 R)
 (forkB (x9.1==111)
 (callW PP fq93 #[(pq src),(.int .i64 x4.1),(.int .i64 x4.2)] H10 pTk fun(x190:Int×Int×Int×ByteArray) H191=>
 storeW H191 ⟨b1,0,none⟩ [(.int .i64 x190.1),(.int .i64 x190.2.1),(.int .i64 x190.2.2.1),(.string x190.2.2.2)] fun H192=>
 retK (consO (loadC H192 true 4 ⟨b1,0,none⟩) ((consO (some .nilIface) (some [])))) H192 R)
 (forkB (x9.1==112)
 (callW PP fq93 #[(pq src),(.int .i64 x4.1),(.int .i64 x4.2)] H10 pTk fun(x193:Int×Int×Int×ByteArray) H194=>
 storeW H194 ⟨b1,0,none⟩ [(.int .i64 x193.1),(.int .i64 x193.2.1),(.int .i64 x193.2.2.1),(.string x193.2.2.2)] fun H195=>
 retK (consO (loadC H195 true 4 ⟨b1,0,none⟩) ((consO (some .nilIface) (some [])))) H195 R)
 (forkB (x9.1==113)
 (callW PP fq93 #[(pq src),(.int .i64 x4.1),(.int .i64 x4.2)] H10 pTk fun(x196:Int×Int×Int×ByteArray) H197=>
 storeW H197 ⟨b1,0,none⟩ [(.int .i64 x196.1),(.int .i64 x196.2.1),(.int .i64 x196.2.2.1),(.string x196.2.2.2)] fun H198=>
 retK (consO (loadC H198 true 4 ⟨b1,0,none⟩) ((consO (some .nilIface) (some [])))) H198 R)
 (forkB (x9.1==114)
 (callW PP fq93 #[(pq src),(.int .i64 x4.1),(.int .i64 x4.2)] H10 pTk fun(x199:Int×Int×Int×ByteArray) H200=>
 storeW H200 ⟨b1,0,none⟩ [(.int .i64 x199.1),(.int .i64 x199.2.1),(.int .i64 x199.2.2.1),(.string x199.2.2.2)] fun H201=>
 retK (consO (loadC H201 true 4 ⟨b1,0,none⟩) ((consO (some .nilIface) (some [])))) H201 R)
 (forkB (x9.1==115)
 (callW PP fq93 #[(pq src),(.int .i64 x4.1),(.int .i64 x4.2)] H10 pTk fun(x202:Int×Int×Int×ByteArray) H203=>
 storeW H203 ⟨b1,0,none⟩ [(.int .i64 x202.1),(.int .i64 x202.2.1),(.int .i64 x202.2.2.1),(.string x202.2.2.2)] fun H204=>
 retK (consO (loadC H204 true 4 ⟨b1,0,none⟩) ((consO (some .nilIface) (some [])))) H204 R)
 (forkB (x9.1==116)
 (callW PP fq93 #[(pq src),(.int .i64 x4.1),(.int .i64 x4.2)] H10 pTk fun(x205:Int×Int×Int×ByteArray) H206=>
 storeW H206 ⟨b1,0,none⟩ [(.int .i64 x205.1),(.int .i64 x205.2.1),(.int .i64 x205.2.2.1),(.string x205.2.2.2)] fun H207=>
 retK (consO (loadC H207 true 4 ⟨b1,0,none⟩) ((consO (some .nilIface) (some [])))) H207 R)
 (forkB (x9.1==117)
 (callW PP fq93 #[(pq src),(.int .i64 x4.1),(.int .i64 x4.2)] H10 pTk fun(x208:Int×Int×Int×ByteArray) H209=>
 storeW H209 ⟨b1,0,none⟩ [(.int .i64 x208.1),(.int .i64 x208.2.1),(.int .i64 x208.2.2.1),(.string x208.2.2.2)] fun H210=>
 retK (consO (loadC H210 true 4 ⟨b1,0,none⟩) ((consO (some .nilIface) (some [])))) H210 R)
 (forkB (x9.1==118)
 (callW PP fq93 #[(pq src),(.int .i64 x4.1),(.int .i64 x4.2)] H10 pTk fun(x211:Int×Int×Int×ByteArray) H212=>
 storeW H212 ⟨b1,0,none⟩ [(.int .i64 x211.1),(.int .i64 x211.2.1),(.int .i64 x211.2.2.1),(.string x211.2.2.2)] fun H213=>
 retK (consO (loadC H213 true 4 ⟨b1,0,none⟩) ((consO (some .nilIface) (some [])))) H213 R)
 (forkB (x9.1==119)
 (callW PP fq93 #[(pq src),(.int .i64 x4.1),(.int .i64 x4.2)] H10 pTk fun(x214:Int×Int×Int×ByteArray) H215=>
 storeW H215 ⟨b1,0,none⟩ [(.int .i64 x214.1),(.int .i64 x214.2.1),(.int .i64 x214.2.2.1),(.string x214.2.2.2)] fun H216=>
 retK (consO (loadC H216 true 4 ⟨b1,0,none⟩) ((consO (some .nilIface) (some [])))) H216 R)
 (forkB (x9.1==120)
 (callW PP fq93 #[(pq src),(.int .i64 x4.1),(.int .i64 x4.2)] H10 pTk fun(x217:Int×Int×Int×ByteArray) H218=>
 storeW H218 ⟨b1,0,none⟩ [(.int .i64 x217.1),(.int .i64 x217.2.1),(.int .i64 x217.2.2.1),(.string x217.2.2.2)] fun H219=>
 retK (consO (loadC H219 true 4 ⟨b1,0,none⟩) ((consO (some .nilIface) (some [])))) H219 R)
 (forkB (x9.1==121)
 (callW PP fq93 #[(pq src),(.int .i64 x4.1),(.int .i64 x4.2)] H10 pTk fun(x220:Int×Int×Int×ByteArray) H221=>
 storeW H221 ⟨b1,0,none⟩ [(.int .i64 x220.1),(.int .i64 x220.2.1),(.int .i64 x220.2.2.1),(.string x220.2.2.2)] fun H222=>
 retK (consO (loadC H222 true 4 ⟨b1,0,none⟩) ((consO (some .nilIface) (some [])))) H222 R)
 (forkB (x9.1==122)
 (callW PP fq93 #[(pq src),(.int .i64 x4.1),(.int .i64 x4.2)] H10 pTk fun(x223:Int×Int×Int×ByteArray) H224=>
 storeW H224 ⟨b1,0,none⟩ [(.int .i64 x223.1),(.int .i64 x223.2.1),(.int .i64 x223.2.2.1),(.string x223.2.2.2)] fun H225=>
 retK (consO (loadC H225 true 4 ⟨b1,0,none⟩) ((consO (some .nilIface) (some [])))) H225 R)
 (forkB (x9.1==45)
 (callW PP fq94 #[(pq src),(.int .i64 x4.1),(.int .i32 x9.1),(.int .i64 x9.2)] H10 pTkE fun(x226:Int×Int×Int×ByteArray) H227=>
 newB H227 (.cells #[(.int .i64 0),(.int .i64 0),(.int .i64 0),(.string (bs []))] tq87) fun b228 H229=>
 storeW H229 ⟨b228,0,none⟩ [(.int .i64 x226.1),(.int .i64 x226.2.1),(.int .i64 x226.2.2.1),(.string x226.2.2.2)] fun H230=>
 loadW H230 true 4 ⟨b228,0,none⟩ pTk fun(x231:Int×Int×Int×ByteArray)=>
 storeW H230 ⟨b1,0,none⟩ [(.int .i64 x231.1),(.int .i64 x231.2.1),(.int .i64 x231.2.2.1),(.string x231.2.2.2)] fun H232=>
 retK (consO (loadC H232 true 4 ⟨b1,0,none⟩) ((consO (some .nilIface) (some [])))) H232 R)
 (forkB (x9.1==48)
 (callW PP fq94 #[(pq src),(.int .i64 x4.1),(.int .i32 x9.1),(.int .i64 x9.2)] H10 pTkE fun(x233:Int×Int×Int×ByteArray) H234=>
 newB H234 (.cells #[(.int .i64 0),(.int .i64 0),(.int .i64 0),(.string (bs []))] tq87) fun b235 H236=>
 storeW H236 ⟨b235,0,none⟩ [(.int .i64 x233.1),(.int .i64 x233.2.1),(.int .i64 x233.2.2.1),(.string x233.2.2.2)] fun H237=>
 loadW H237 true 4 ⟨b235,0,none⟩ pTk fun(x238:Int×Int×Int×ByteArray)=>
 storeW H237 ⟨b1,0,none⟩ [(.int .i64 x238.1),(.int .i64 x238.2.1),(.int .i64 x238.2.2.1),(.string x238.2.2.2)] fun H239=>
 retK (consO (loadC H239 true 4 ⟨b1,0,none⟩) ((consO (some .nilIface) (some [])))) H239 R)
 (forkB (x9.1==49)
 (callW PP fq94 #[(pq src),(.int .i64 x4.1),(.int .i32 x9.1),(.int .i64 x9.2)] H10 pTkE fun(x240:Int×Int×Int×ByteArray) H241=>
 newB H241 (.cells #[(.int .i64 0),(.int .i64 0),(.int .i64 0),(.string (bs []))] tq87) fun b242 H243=>
 storeW H243 ⟨b242,0,none⟩ [(.int .i64 x240.1),(.int .i64 x240.2.1),(.int .i64 x240.2.2.1),(.string x240.2.2.2)] fun H244=>
 loadW H244 true 4 ⟨b242,0,none⟩ pTk fun(x245:Int×Int×Int×ByteArray)=>
 storeW H244 ⟨b1,0,none⟩ [(.int .i64 x245.1),(.int .i64 x245.2.1),(.int .i64 x245.2.2.1),(.string x245.2.2.2)] fun H246=>
 retK (consO (loadC H246 true 4 ⟨b1,0,none⟩) ((consO (some .nilIface) (some [])))) H246 R)
 (forkB (x9.1==50)
 (callW PP fq94 #[(pq src),(.int .i64 x4.1),(.int .i32 x9.1),(.int .i64 x9.2)] H10 pTkE fun(x247:Int×Int×Int×ByteArray) H248=>
 newB H248 (.cells #[(.int .i64 0),(.int .i64 0),(.int .i64 0),(.string (bs []))] tq87) fun b249 H250=>
 storeW H250 ⟨b249,0,none⟩ [(.int .i64 x247.1),(.int .i64 x247.2.1),(.int .i64 x247.2.2.1),(.string x247.2.2.2)] fun H251=>
 loadW H251 true 4 ⟨b249,0,none⟩ pTk fun(x252:Int×Int×Int×ByteArray)=>
 storeW H251 ⟨b1,0,none⟩ [(.int .i64 x252.1),(.int .i64 x252.2.1),(.int .i64 x252.2.2.1),(.string x252.2.2.2)] fun H253=>
 retK (consO (loadC H253 true 4 ⟨b1,0,none⟩) ((consO (some .nilIface) (some [])))) H253 R)
 (forkB (x9.1==51)
 (callW PP fq94 #[(pq src),(.int .i64 x4.1),(.int .i32 x9.1),(.int .i64 x9.2)] H10 pTkE fun(x254:Int×Int×Int×ByteArray) H255=>
 newB H255 (.cells #[(.int .i64 0),(.int .i64 0),(.int .i64 0),(.string (bs []))] tq87) fun b256 H257=>
 storeW H257 ⟨b256,0,none⟩ [(.int .i64 x254.1),(.int .i64 x254.2.1),(.int .i64 x254.2.2.1),(.string x254.2.2.2)] fun H258=>
 loadW H258 true 4 ⟨b256,0,none⟩ pTk fun(x259:Int×Int×Int×ByteArray)=>
 storeW H258 ⟨b1,0,none⟩ [(.int .i64 x259.1),(.int .i64 x259.2.1),(.int .i64 x259.2.2.1),(.string x259.2.2.2)] fun H260=>
 retK (consO (loadC H260 true 4 ⟨b1,0,none⟩) ((consO (some .nilIface) (some [])))) H260 R)
 (forkB (x9.1==52)
 (callW PP fq94 #[(pq src),(.int .i64 x4.1),(.int .i32 x9.1),(.int .i64 x9.2)] H10 pTkE fun(x261:Int×Int×Int×ByteArray) H262=>
 newB H262 (.cells #[(.int .i64 0),(.int .i64 0),(.int .i64 0),(.string (bs []))] tq87) fun b263 H264=>
 storeW H264 ⟨b263,0,none⟩ [(.int .i64 x261.1),(.int .i64 x261.2.1),(.int .i64 x261.2.2.1),(.string x261.2.2.2)] fun H265=>
 loadW H265 true 4 ⟨b263,0,none⟩ pTk fun(x266:Int×Int×Int×ByteArray)=>
 storeW H265 ⟨b1,0,none⟩ [(.int .i64 x266.1),(.int .i64 x266.2.1),(.int .i64 x266.2.2.1),(.string x266.2.2.2)] fun H267=>
 retK (consO (loadC H267 true 4 ⟨b1,0,none⟩) ((consO (some .nilIface) (some [])))) H267 R)
 (forkB (x9.1==53)
 (callW PP fq94 #[(pq src),(.int .i64 x4.1),(.int .i32 x9.1),(.int .i64 x9.2)] H10 pTkE fun(x268:Int×Int×Int×ByteArray) H269=>
 newB H269 (.cells #[(.int .i64 0),(.int .i64 0),(.int .i64 0),(.string (bs []))] tq87) fun b270 H271=>
 storeW H271 ⟨b270,0,none⟩ [(.int .i64 x268.1),(.int .i64 x268.2.1),(.int .i64 x268.2.2.1),(.string x268.2.2.2)] fun H272=>
 loadW H272 true 4 ⟨b270,0,none⟩ pTk fun(x273:Int×Int×Int×ByteArray)=>
 storeW H272 ⟨b1,0,none⟩ [(.int .i64 x273.1),(.int .i64 x273.2.1),(.int .i64 x273.2.2.1),(.string x273.2.2.2)] fun H274=>
 retK (consO (loadC H274 true 4 ⟨b1,0,none⟩) ((consO (some .nilIface) (some [])))) H274 R)
 (forkB (x9.1==54)
 (callW PP fq94 #[(pq src),(.int .i64 x4.1),(.int .i32 x9.1),(.int .i64 x9.2)] H10 pTkE fun(x275:Int×Int×Int×ByteArray) H276=>
 newB H276 (.cells #[(.int .i64 0),(.int .i64 0),(.int .i64 0),(.string (bs []))] tq87) fun b277 H278=>
 storeW H278 ⟨b277,0,none⟩ [(.int .i64 x275.1),(.int .i64 x275.2.1),(.int .i64 x275.2.2.1),(.string x275.2.2.2)] fun H279=>
 loadW H279 true 4 ⟨b277,0,none⟩ pTk fun(x280:Int×Int×Int×ByteArray)=>
 storeW H279 ⟨b1,0,none⟩ [(.int .i64 x280.1),(.int .i64 x280.2.1),(.int .i64 x280.2.2.1),(.string x280.2.2.2)] fun H281=>
 retK (consO (loadC H281 true 4 ⟨b1,0,none⟩) ((consO (some .nilIface) (some [])))) H281 R)
 (forkB (x9.1==55)
 (callW PP fq94 #[(pq src),(.int .i64 x4.1),(.int .i32 x9.1),(.int .i64 x9.2)] H10 pTkE fun(x282:Int×Int×Int×ByteArray) H283=>
 newB H283 (.cells #[(.int .i64 0),(.int .i64 0),(.int .i64 0),(.string (bs []))] tq87) fun b284 H285=>
 storeW H285 ⟨b284,0,none⟩ [(.int .i64 x282.1),(.int .i64 x282.2.1),(.int .i64 x282.2.2.1),(.string x282.2.2.2)] fun H286=>
 loadW H286 true 4 ⟨b284,0,none⟩ pTk fun(x287:Int×Int×Int×ByteArray)=>
 storeW H286 ⟨b1,0,none⟩ [(.int .i64 x287.1),(.int .i64 x287.2.1),(.int .i64 x287.2.2.1),(.string x287.2.2.2)] fun H288=>
 retK (consO (loadC H288 true 4 ⟨b1,0,none⟩) ((consO (some .nilIface) (some [])))) H288 R)
 (forkB (x9.1==56)
 (callW PP fq94 #[(pq src),(.int .i64 x4.1),(.int .i32 x9.1),(.int .i64 x9.2)] H10 pTkE fun(x289:Int×Int×Int×ByteArray) H290=>
 newB H290 (.cells #[(.int .i64 0),(.int .i64 0),(.int .i64 0),(.string (bs []))] tq87) fun b291 H292=>
 storeW H292 ⟨b291,0,none⟩ [(.int .i64 x289.1),(.int .i64 x289.2.1),(.int .i64 x289.2.2.1),(.string x289.2.2.2)] fun H293=>
 loadW H293 true 4 ⟨b291,0,none⟩ pTk fun(x294:Int×Int×Int×ByteArray)=>
 storeW H293 ⟨b1,0,none⟩ [(.int .i64 x294.1),(.int .i64 x294.2.1),(.int .i64 x294.2.2.1),(.string x294.2.2.2)] fun H295=>
 retK (consO (loadC H295 true 4 ⟨b1,0,none⟩) ((consO (some .nilIface) (some [])))) H295 R)
 (forkB (x9.1==57)
 (callW PP fq94 #[(pq src),(.int .i64 x4.1),(.int .i32 x9.1),(.int .i64 x9.2)] H10 pTkE fun(x296:Int×Int×Int×ByteArray) H297=>
 newB H297 (.cells #[(.int .i64 0),(.int .i64 0),(.int .i64 0),(.string (bs []))] tq87) fun b298 H299=>
 storeW H299 ⟨b298,0,none⟩ [(.int .i64 x296.1),(.int .i64 x296.2.1),(.int .i64 x296.2.2.1),(.string x296.2.2.2)] fun H300=>
 loadW H300 true 4 ⟨b298,0,none⟩ pTk fun(x301:Int×Int×Int×ByteArray)=>
 storeW H300 ⟨b1,0,none⟩ [(.int .i64 x301.1),(.int .i64 x301.2.1),(.int .i64 x301.2.2.1),(.string x301.2.2.2)] fun H302=>
 retK (consO (loadC H302 true 4 ⟨b1,0,none⟩) ((consO (some .nilIface) (some [])))) H302 R)
 (forkB (x9.1==34)
 (newB H10 (.cells #[(.int .i64 0),(.int .i64 0),(.int .i64 0),(.string (bs []))] tq87) fun b303 H304=>
 callW PP fq92 #[(.slice (some ⟨x3.1,x3.2.1,none⟩) x3.2.2.1 x3.2.2.2),(.int .i64 (IntKind.i64.wrap (x4.1+1)))] H304 pRu fun(x305:Int×Int) H306=>
 callW PP fq92 #[(.slice (some ⟨x3.1,x3.2.1,none⟩) x3.2.2.1 x3.2.2.2),(.int .i64 (IntKind.i64.wrap (x4.1+2)))] H306 pRu fun(x307:Int×Int) H308=>
 joinPK (Bool×Unit) H308 (fun J309=>
 forkB (x305.1==34)
 (J309 ((x307.1==34),()) H308)
 (J309 (false,()) H308)) fun y310=>
 joinK (Value×Unit) (fun J311=>
 forkB y310.1
 (callW PP fq95 #[(pq src),(.int .i64 x4.1)] H308 pTkE fun(x314:Int×Int×Int×ByteArray) H315=>
 storeW H315 ⟨b303,0,none⟩ [(.int .i64 x314.1),(.int .i64 x314.2.1),(.int .i64 x314.2.2.1),(.string x314.2.2.2)] fun H316=>
 J311 (.nilIface,()) H316)
 (callW PP fq96 #[(pq src),(.int .i64 x4.1)] H308 pTkE fun(x317:Int×Int×Int×ByteArray) H318=>
 storeW H318 ⟨b303,0,none⟩ [(.int .i64 x317.1),(.int .i64 x317.2.1),(.int .i64 x317.2.2.1),(.string x317.2.2.2)] fun H319=>
 J311 (.nilIface,()) H319)) fun y312 H313=>
 loadW H313 true 4 ⟨b303,0,none⟩ pTk fun(x320:Int×Int×Int×ByteArray)=>
 storeW H313 ⟨b1,0,none⟩ [(.int .i64 x320.1),(.int .i64 x320.2.1),(.int .i64 x320.2.2.1),(.string x320.2.2.2)] fun H321=>
 retK (consO (loadC H321 true 4 ⟨b1,0,none⟩) ((consO (some y312.1) (some [])))) H321 R)
 (J16 (()) H10)))))))))))))))))))))))))))))))))))))))))))))))))))))))))))))))))))))))))))))))) fun _y17 H18=>
 callW PP fq80 #[(pq src),(.int .i64 x4.2),(.string (bs [85,110,101,120,112,101,99,116,101,100,32,99,104,97,114,97,99,116,101,114,32,37,118,46]))] H18 pBlk fun(x322:Nat) H323=>
 storeW H323 ⟨b1,0,none⟩ [(.int .i64 0),(.int .i64 0),(.int .i64 0),(.string (bs []))] fun H324=>
 retK (consO (loadC H324 true 4 ⟨b1,0,none⟩) ((consO (some (.iface tq49 (pq x322))) (some [])))) H324 R))
theorem readToken.enter (src:Nat) (from_:Int) (H:Heap) (R:RR) (h:readToken.W src from_ H R):Fn PP fq68 #[(pq src),(.int .i64 from_)] H R:=
 fnS mixed Tryz.func68 ⟨patL [(28,pSl4),(34,pII),(42,pTk),(46,pRu),(66,pBlk),(74,pTk),(80,pTk),(86,pTk),(92,pTk),(98,pTk),(105,pRu),(112,pRu),(124,pTk),(130,pTk),(136,pTk),(142,pTk),(148,pTk),(154,pTk),(160,pTk),(166,pTk),(172,pTk),(203,pTk),(235,pTk),(253,pTkE),(260,pTk),(267,pRu),(274,pRu),(286,pTkE),(292,pTkE),(295,pTk),(301,pBlk)],loopL [],joinL [(282,[Slot.raw 19])],joinL [(0,[])],joinRL [(7,[Slot.bool 62],true),(23,[Slot.bool 120],true),(116,[Slot.bool 282],true)]⟩ _ H R (Eq.mp (by unfold readToken.W;kernel_rfl) h)
def char2hex.W (a:Int) (H:Heap) (R:RR):Prop:=
 forkB (decide (a≥48))
 (forkB (decide (a≤57))
 (retK (some [(.int .i64 (IntKind.i64.wrap ((IntKind.i64.wrap a) -48)))]) H R)
 (forkB (decide (a≥65))
 (forkB (decide (a≤70))
 (retK (some [(.int .i64 (IntKind.i64.wrap ((IntKind.i64.wrap a) -55)))]) H R)
 (forkB (decide (a≥97))
 (forkB (decide (a≤102))
 (retK (some [(.int .i64 (IntKind.i64.wrap ((IntKind.i64.wrap a) -87)))]) H R)
 (retK (some [(.int .i64 (-1))]) H R))
 (retK (some [(.int .i64 (-1))]) H R)))
 (forkB (decide (a≥97))
 (forkB (decide (a≤102))
 (retK (some [(.int .i64 (IntKind.i64.wrap ((IntKind.i64.wrap a) -87)))]) H R)
 (retK (some [(.int .i64 (-1))]) H R))
 (retK (some [(.int .i64 (-1))]) H R))))
 (forkB (decide (a≥65))
 (forkB (decide (a≤70))
 (retK (some [(.int .i64 (IntKind.i64.wrap ((IntKind.i64.wrap a) -55)))]) H R)
 (forkB (decide (a≥97))
 (forkB (decide (a≤102))
 (retK (some [(.int .i64 (IntKind.i64.wrap ((IntKind.i64.wrap a) -87)))]) H R)
 (retK (some [(.int .i64 (-1))]) H R))
 (retK (some [(.int .i64 (-1))]) H R)))
 (forkB (decide (a≥97))
 (forkB (decide (a≤102))
 (retK (some [(.int .i64 (IntKind.i64.wrap ((IntKind.i64.wrap a) -87)))]) H R)
 (retK (some [(.int .i64 (-1))]) H R))
 (retK (some [(.int .i64 (-1))]) H R)))
theorem char2hex.enter (a:Int) (H:Heap) (R:RR) (h:char2hex.W a H R):Fn PP fq169 #[(.int .i32 a)] H R:=
 fnS mixed Tryz.func169 (hz []) _ H R (Eq.mp (by unfold char2hex.W;kernel_rfl) h)
def uniCharCode.W (a:Int) (b:Int) (c:Int) (d:Int) (H:Heap) (R:RR):Prop:=
 callW PP fq169 #[(.int .i32 a)] H (pInt .i64) fun(x1:Int) H2=>
 callW PP fq169 #[(.int .i32 b)] H2 (pInt .i64) fun(x3:Int) H4=>
 callW PP fq169 #[(.int .i32 c)] H4 (pInt .i64) fun(x5:Int) H6=>
 callW PP fq169 #[(.int .i32 d)] H6 (pInt .i64) fun(x7:Int) H8=>
 retK (some [(.int .i32 (IntKind.i32.wrap (IntKind.i64.wrap ((BitVec.ofInt 64 (IntKind.i64.wrap ((BitVec.ofInt 64 (IntKind.i64.wrap ((BitVec.ofInt 64 (IntKind.i64.wrap (x1*2^(min (12:Int).toNat 64)))|||BitVec.ofInt 64 (IntKind.i64.wrap (x3*2^(min (8:Int).toNat 64)))).toNat:Int))|||BitVec.ofInt 64 (IntKind.i64.wrap (x5*2^(min (4:Int).toNat 64)))).toNat:Int))|||BitVec.ofInt 64 x7).toNat:Int))))]) H8 R
theorem uniCharCode.enter (a:Int) (b:Int) (c:Int) (d:Int) (H:Heap) (R:RR) (h:uniCharCode.W a b c d H R):Fn PP fq127 #[(.int .i32 a),(.int .i32 b),(.int .i32 c),(.int .i32 d)] H R:=
 fnS mixed Tryz.func127 (hz [(10,(pInt .i64)),(13,(pInt .i64)),(17,(pInt .i64)),(21,(pInt .i64))]) _ H R (Eq.mp (by unfold uniCharCode.W;kernel_rfl) h)
def zzLines.W (s:ByteArray) (H:Heap) (R:RR):Prop:=
 loopK (Sl×Int×Int×Unit) ((none,0,0),0,0,()) H fun z1 H2 next3=>
 forkB (decide (z1.2.2.1<((s.size:Nat):Int)))
 (joinPK (Bool×Unit) H2 (fun J4=>
 ((0:Int)≤z1.2.2.1∧z1.2.2.1<((s.size:Nat):Int))∧
 forkB ((bt s z1.2.2.1) !=13)
 (((0:Int)≤z1.2.2.1∧z1.2.2.1<((s.size:Nat):Int))∧
 J4 (((bt s z1.2.2.1) !=10),()) H2)
 (J4 (false,()) H2)) fun y5=>
 forkB y5.1
 (next3 ((z1.1.1,z1.1.2.1,z1.1.2.2),z1.2.1,(IntKind.i64.wrap (z1.2.2.1+1)),()) H2)
 ((((0:Int)≤z1.2.2.1∧z1.2.2.1≤((s.size:Nat):Int))∧((0:Int)≤z1.2.1∧z1.2.1≤((z1.2.2.1.toNat:Nat):Int)))∧
 newB H2 (.cells #[(.string (s.extract z1.2.1.toNat z1.2.2.1.toNat))] tq9) fun b6 H7=>
 appK H7 tq9 1 16 z1.1.1 z1.1.2.1 z1.1.2.2 (some ⟨b6,0,none⟩) 1 fun a8 c9 H10=>
 joinPK (Bool×Unit) H10 (fun J11=>
 ((0:Int)≤z1.2.2.1∧z1.2.2.1<((s.size:Nat):Int))∧
 forkB ((bt s z1.2.2.1)==13)
 (forkB (decide ((IntKind.i64.wrap (z1.2.2.1+1))<((s.size:Nat):Int)))
 (((0:Int)≤(IntKind.i64.wrap (z1.2.2.1+1))∧(IntKind.i64.wrap (z1.2.2.1+1))<((s.size:Nat):Int))∧
 J11 (((bt s (IntKind.i64.wrap (z1.2.2.1+1)))==10),()) H10)
 (J11 (false,()) H10))
 (J11 (false,()) H10)) fun y12=>
 joinK (Int×Unit) (fun J13=>
 forkB y12.1
 (J13 ((IntKind.i64.wrap (z1.2.2.1+1)),()) H10)
 (J13 (z1.2.2.1,()) H10)) fun y14 H15=>
 next3 ((a8,(z1.1.2.1+1),c9),(IntKind.i64.wrap (y14.1+1)),(IntKind.i64.wrap (y14.1+1)),()) H15))
 (((0:Int)≤z1.2.1∧z1.2.1≤((s.size:Nat):Int))∧
 newB H2 (.cells #[(.string (s.extract z1.2.1.toNat s.size))] tq9) fun b16 H17=>
 appK H17 tq9 1 16 z1.1.1 z1.1.2.1 z1.1.2.2 (some ⟨b16,0,none⟩) 1 fun a18 c19 H20=>
 retK (some [(.slice a18 (z1.1.2.1+1) c19)]) H20 R)
theorem zzLines.enter (s:ByteArray) (H:Heap) (R:RR) (h:zzLines.W s H R):Fn PP fq163 #[(.string s)] H R:=
 fnS mixed Tryz.func163 ⟨patL [],loopL [(0,[Slot.slc 3,Slot.int .i64 4,Slot.int .i64 5])],joinL [(46,[Slot.int .i64 5])],joinL [],joinRL [(6,[Slot.bool 21],true),(8,[Slot.bool 46],true)]⟩ _ H R (Eq.mp (by unfold zzLines.W;kernel_rfl) h)
def lineIsBlank.W (s:ByteArray) (H:Heap) (R:RR):Prop:=
 callW PP fq164 #[(.string s)] H (pInt .i64) fun(x1:Int) H2=>
 retK (some [(.bool (x1==((s.size:Nat):Int)))]) H2 R
theorem lineIsBlank.enter (s:ByteArray) (H:Heap) (R:RR) (h:lineIsBlank.W s H R):Fn PP fq165 #[(.string s)] H R:=
 fnS mixed Tryz.func165 (hz [(4,(pInt .i64))]) _ H R (Eq.mp (by unfold lineIsBlank.W;kernel_rfl) h)
def leadWs.W (s:ByteArray) (H:Heap) (R:RR):Prop:=
 newB H (.stringIter s 0) fun b1 H2=>
 loopK (Int×Unit) (0,()) H2 fun z3 H4 next5=>
 iterW H4 b1 (fun(_p6:Nat) (c7:Int) H8=>
 joinPK (Bool×Unit) H8 (fun J9=>
 forkB (c7==32)
 (J9 (true,()) H8)
 (J9 ((c7==9),()) H8)) fun y10=>
 forkB y10.1
 (next5 ((IntKind.i64.wrap (z3.1+1)),()) H8)
 (retK (some [(.int .i64 z3.1)]) H8 R))
 (retK (some [(.int .i64 z3.1)]) H4 R)
theorem leadWs.enter (s:ByteArray) (H:Heap) (R:RR) (h:leadWs.W s H R):Fn PP fq164 #[(.string s)] H R:=
 fnS mixed Tryz.func164 ⟨patL [],loopL [(0,[Slot.int .i64 2])],joinL [],joinL [],joinRL [(4,[Slot.bool 15],true)]⟩ _ H R (Eq.mp (by unfold leadWs.W;kernel_rfl) h)
def LexI.W (src:Nat) (H:Heap) (R:RR):Prop:=
 newB H (.cells #[(pq src)] tq52) fun b1 H2=>
 newB H2 (.cells #[(.int .i64 0)] tq3) fun b3 H4=>
 retK (some [(.func (.func fq67) #[] #[(pq b3),(pq b1)])]) H4 R
theorem LexI.enter (src:Nat) (H:Heap) (R:RR) (h:LexI.W src H R):Fn PP fq34 #[(pq src)] H R:=
 fnS mixed Tryz.func34 (hz []) _ H R (Eq.mp (by unfold LexI.W;kernel_rfl) h)
def LexI1.W (reset:Int) (prev:Nat) (srcb:Nat) (H:Heap) (R:RR):Prop:=
 newB H (.cells #[(.int .i64 0),(.int .i64 0),(.int .i64 0),(.string (bs []))] tq87) fun b1 H2=>
 forkB (reset==0)
 (lw H2 prev 0 (pInt .i64) fun(x3:Int)=>
 lw H2 srcb 0 pBlk fun(x4:Nat)=>
 callW PP fq68 #[(pq x4),(.int .i64 x3)] H2 pTkE fun(x5:Int×Int×Int×ByteArray) H6=>
 newB H6 (.cells #[(.int .i64 0),(.int .i64 0),(.int .i64 0),(.string (bs []))] tq87) fun b7 H8=>
 storeW H8 ⟨b7,0,none⟩ [(.int .i64 x5.1),(.int .i64 x5.2.1),(.int .i64 x5.2.2.1),(.string x5.2.2.2)] fun H9=>
 lw H9 b7 2 (pInt .i64) fun(x10:Int)=>
 storeW H9 ⟨prev,0,none⟩ [(.int .i64 x10)] fun H11=>
 loadW H11 true 4 ⟨b7,0,none⟩ pTk fun(x12:Int×Int×Int×ByteArray)=>
 storeW H11 ⟨b1,0,none⟩ [(.int .i64 x12.1),(.int .i64 x12.2.1),(.int .i64 x12.2.2.1),(.string x12.2.2.2)] fun H13=>
 retK (consO (loadC H13 true 4 ⟨b1,0,none⟩) ((consO (some .nilIface) (some [])))) H13 R)
 (lw H2 srcb 0 pBlk fun(x14:Nat)=>
 callW PP fq68 #[(pq x14),(.int .i64 reset)] H2 pTkE fun(x15:Int×Int×Int×ByteArray) H16=>
 newB H16 (.cells #[(.int .i64 0),(.int .i64 0),(.int .i64 0),(.string (bs []))] tq87) fun b17 H18=>
 storeW H18 ⟨b17,0,none⟩ [(.int .i64 x15.1),(.int .i64 x15.2.1),(.int .i64 x15.2.2.1),(.string x15.2.2.2)] fun H19=>
 lw H19 b17 2 (pInt .i64) fun(x20:Int)=>
 storeW H19 ⟨prev,0,none⟩ [(.int .i64 x20)] fun H21=>
 loadW H21 true 4 ⟨b17,0,none⟩ pTk fun(x22:Int×Int×Int×ByteArray)=>
 storeW H21 ⟨b1,0,none⟩ [(.int .i64 x22.1),(.int .i64 x22.2.1),(.int .i64 x22.2.2.1),(.string x22.2.2.2)] fun H23=>
 retK (consO (loadC H23 true 4 ⟨b1,0,none⟩) ((consO (some .nilIface) (some [])))) H23 R)
theorem LexI1.enter (reset:Int) (prev:Nat) (srcb:Nat) (H:Heap) (R:RR) (h:LexI1.W reset prev srcb H R):Fn PP fq67 #[(.int .i64 reset),(pq prev),(pq srcb)] H R:=
 fnS mixed Tryz.func67 (hz [(10,(pInt .i64)),(12,pBlk),(14,pTkE),(22,(pInt .i64)),(23,pTk)]) _ H R (Eq.mp (by unfold LexI1.W;kernel_rfl) h)
end Go.Vx
