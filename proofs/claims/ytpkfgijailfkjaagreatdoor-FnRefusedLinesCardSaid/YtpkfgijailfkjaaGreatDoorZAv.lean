/- A part of the proof of what the last text of this claim says: WE1. Conditions: none. -/
import Derived.Test.YtpkfgijailfkjaaGreatDoorZAb
namespace Go.Vx
open Go Go.Proofs
set_option maxRecDepth 100000
def zzLineEnds.W (body:Option Addr) (bodyN _bodyC:Nat) (H:Heap) (R:RR):Prop:=
 loopK (Sl×Int×Unit) ((none,0,0),0,()) H fun z1 H2 next3=>
 forkB (decide (z1.2.1<((bodyN:Nat):Int)))
 (joinPK (Bool×Unit) H2 (fun J4=>
 (IxOk body z1.2.1 bodyN)∧
 loadW H2 false 1 ⟨(blkOf body),(offOf body+z1.2.1.toNat*1),none⟩ (pInt .u8) fun(x6:Int)=>
 forkB (x6==13)
 (forkB (decide ((IntKind.i64.wrap (z1.2.1+1))<((bodyN:Nat):Int)))
 ((IxOk body (IntKind.i64.wrap (z1.2.1+1)) bodyN)∧
 loadW H2 false 1 ⟨(blkOf body),(offOf body+(IntKind.i64.wrap (z1.2.1+1)).toNat*1),none⟩ (pInt .u8) fun(x7:Int)=>
 J4 ((x7==10),()) H2)
 (J4 (false,()) H2))
 (J4 (false,()) H2)) fun y5=>
 forkB y5.1
 (newB H2 (.cells #[(.int .i64 z1.2.1),(.int .i64 (IntKind.i64.wrap (z1.2.1+2)))] tq3) fun b8 H9=>
 newB H9 (.cells #[(.slice (some ⟨b8,0,none⟩) 2 2)] tq53) fun b10 H11=>
 appK H11 tq53 1 24 z1.1.1 z1.1.2.1 z1.1.2.2 (some ⟨b10,0,none⟩) 1 fun a12 c13 H14=>
 next3 ((a12,(z1.1.2.1+1),c13),(IntKind.i64.wrap ((IntKind.i64.wrap (z1.2.1+1))+1)),()) H14)
 (joinPK (Bool×Unit) H2 (fun J15=>
 (IxOk body z1.2.1 bodyN)∧
 loadW H2 false 1 ⟨(blkOf body),(offOf body+z1.2.1.toNat*1),none⟩ (pInt .u8) fun(x17:Int)=>
 forkB (x17==13)
 (J15 (true,()) H2)
 ((IxOk body z1.2.1 bodyN)∧
 loadW H2 false 1 ⟨(blkOf body),(offOf body+z1.2.1.toNat*1),none⟩ (pInt .u8) fun(x18:Int)=>
 J15 ((x18==10),()) H2)) fun y16=>
 forkB y16.1
 (newB H2 (.cells #[(.int .i64 z1.2.1),(.int .i64 (IntKind.i64.wrap (z1.2.1+1)))] tq3) fun b19 H20=>
 newB H20 (.cells #[(.slice (some ⟨b19,0,none⟩) 2 2)] tq53) fun b21 H22=>
 appK H22 tq53 1 24 z1.1.1 z1.1.2.1 z1.1.2.2 (some ⟨b21,0,none⟩) 1 fun a23 c24 H25=>
 next3 ((a23,(z1.1.2.1+1),c24),(IntKind.i64.wrap (z1.2.1+1)),()) H25)
 (next3 ((z1.1.1,z1.1.2.1,z1.1.2.2),(IntKind.i64.wrap (z1.2.1+1)),()) H2)))
 (retK (some [(.slice z1.1.1 z1.1.2.1 z1.1.2.2)]) H2 R)
theorem zzLineEnds.enter (body:Option Addr) (bodyN bodyC:Nat) (H:Heap) (R:RR) (h:zzLineEnds.W body bodyN bodyC H R):Fn PP fq205 #[(.slice body bodyN bodyC)] H R:=
 fnS mixed Tryz.func205 ⟨patL [(15,(pInt .u8)),(29,(pInt .u8)),(45,(pInt .u8)),(51,(pInt .u8))],loopL [(0,[Slot.slc 3,Slot.int .i64 4])],joinL [],joinL [],joinRL [(5,[Slot.bool 11],true),(8,[Slot.bool 41],true)]⟩ _ H R (Eq.mp (by unfold zzLineEnds.W;kernel_rfl) h)
def GetLocation.W (s:Nat) (position:Int) (H:Heap) (R:RR):Prop:=
 newB H (.cells #[(.int .i64 0),(.int .i64 0)] tq59) fun b1 H2=>
 newB H2 (.cells #[] tq5) fun _b3 H4=>
 lw H4 s 0 pSlc fun(x5:Sl)=>
 callW PP fq205 #[(.slice x5.1 x5.2.1 x5.2.2)] H4 pSlc fun(x6:Sl) H7=>
 loopK (Int×Int×Int×Unit) (1,(IntKind.i64.wrap (position+1)),0,()) H7 fun z8 H9 next10=>
 forkB (decide (z8.2.2.1<((x6.2.1:Nat):Int)))
 ((IxOk x6.1 z8.2.2.1 x6.2.1)∧
 loadW H9 false 1 ⟨(blkOf x6.1),(offOf x6.1+z8.2.2.1.toNat*1),none⟩ pSlc fun(x11:Sl)=>
 (IxOk x11.1 0 x11.2.1)∧
 loadW H9 false 1 ⟨(blkOf x11.1),(offOf x11.1+(0:Int).toNat*1),none⟩ (pInt .i64) fun(x12:Int)=>
 forkB (decide (x12<position))
 (lw H9 s 0 pSlc fun(x13:Sl)=>
 (IxOk x11.1 0 x11.2.1)∧
 loadW H9 false 1 ⟨(blkOf x11.1),(offOf x11.1+(0:Int).toNat*1),none⟩ (pInt .i64) fun(x14:Int)=>
 (IxOk x11.1 1 x11.2.1)∧
 loadW H9 false 1 ⟨(blkOf x11.1),(offOf x11.1+(1:Int).toNat*1),none⟩ (pInt .i64) fun(x15:Int)=>
 (((0:Int)≤x15∧x15≤((x13.2.2:Nat):Int))∧((0:Int)≤x14∧x14≤((x15.toNat:Nat):Int)))∧
 next10 ((IntKind.i64.wrap (z8.1+1)),(IntKind.i64.wrap ((IntKind.i64.wrap (position+1)) -(IntKind.i64.wrap (x12+(((x15.toNat -x14.toNat):Nat):Int))))),(IntKind.i64.wrap (z8.2.2.1+1)),()) H9)
 (storeW H9 ⟨b1,0,none⟩ [(.int .i64 z8.1),(.int .i64 z8.2.1)] fun H16=>
 retK (consO (loadC H16 true 2 ⟨b1,0,none⟩) (some [])) H16 R))
 (storeW H9 ⟨b1,0,none⟩ [(.int .i64 z8.1),(.int .i64 z8.2.1)] fun H17=>
 retK (consO (loadC H17 true 2 ⟨b1,0,none⟩) (some [])) H17 R)
theorem GetLocation.enter (s:Nat) (position:Int) (H:Heap) (R:RR) (h:GetLocation.W s position H R):Fn PP fq191 #[(pq s),(.int .i64 position)] H R:=
 fnS mixed Tryz.func191 ⟨patL [(19,pSlc),(23,pSlc),(29,pSlc),(32,(pInt .i64)),(41,pSlc),(44,(pInt .i64)),(47,(pInt .i64))],loopL [(0,[Slot.int .i64 6,Slot.int .i64 7,Slot.int .i64 26])],joinL [],joinL [],joinRL []⟩ _ H R (Eq.mp (by unfold GetLocation.W;kernel_rfl) h)
def newErrorS.W (message:ByteArray) (nodes:Option Addr) (nodesN nodesC:Nat) (stack:ByteArray) (source:Nat) (positions:Option Addr) (positionsN positionsC:Nat) (H:Heap) (R:RR):Prop:=
 joinPK (Bool×Unit) H (fun J1=>
 forkB (stack.toList==(bs []).toList)
 (J1 ((!(message.toList==(bs []).toList)),()) H)
 (J1 (false,()) H)) fun y2=>
 forkB y2.1
 (joinPK (Bool×Unit) H (fun J3=>
 forkB (((positionsN:Nat):Int)==0)
 (J3 ((decide (((nodesN:Nat):Int)>0)),()) H)
 (J3 (false,()) H)) fun y4=>
 forkB y4.1
 (loopK (Sl×Int×Unit) ((positions,positionsN,positionsC),0,()) H fun z5 H6 next7=>
 forkB (decide (z5.2.1<((nodesN:Nat):Int)))
 ((IxOk nodes z5.2.1 nodesN)∧
 loadW H6 false 1 ⟨(blkOf nodes),(offOf nodes+z5.2.1.toNat*1),none⟩ ⟨Nat,fun x=>(.iface tq192 (pq x))⟩ fun(x8:Nat)=>
 joinK (Bool×Unit) (fun J9=>
 callW PP fq190 #[(.iface tq192 (pq x8))] H6 pBool fun(x12:Bool) H13=>
 J9 (x12,()) H13) fun y10 H11=>
 forkB y10.1
 (next7 ((z5.1.1,z5.1.2.1,z5.1.2.2),(IntKind.i64.wrap (z5.2.1+1)),()) H11)
 (callW PP fq242 #[(pq x8)] H11 pBlk fun(_x14:Nat) H15=>
 callW PP fq242 #[(pq x8)] H15 pBlk fun(x16:Nat) H17=>
 lw H17 x16 0 (pInt .i64) fun(x18:Int)=>
 newB H17 (.cells #[(.int .i64 x18)] tq3) fun b19 H20=>
 appK H20 tq3 1 8 z5.1.1 z5.1.2.1 z5.1.2.2 (some ⟨b19,0,none⟩) 1 fun a21 c22 H23=>
 next7 ((a21,(z5.1.2.1+1),c22),(IntKind.i64.wrap (z5.2.1+1)),()) H23))
 (newB H6 (.cells #[] tq59) fun b24 H25=>
 loopK (Sl×Int×Unit) (((some ⟨b24,0,none⟩),0,0),0,()) H25 fun z26 H27 next28=>
 forkB (decide (z26.2.1<((z5.1.2.1:Nat):Int)))
 ((IxOk z5.1.1 z26.2.1 z5.1.2.1)∧
 loadW H27 false 1 ⟨(blkOf z5.1.1),(offOf z5.1.1+z26.2.1.toNat*1),none⟩ (pInt .i64) fun(x29:Int)=>
 callW PP fq191 #[(pq source),(.int .i64 x29)] H27 ⟨Int×Int,fun x=>(.agg #[(.int .i64 x.1),(.int .i64 x.2)])⟩ fun(x30:Int×Int) H31=>
 newB H31 (.cells #[(.int .i64 0),(.int .i64 0)] tq59) fun b32 H33=>
 storeW H33 ⟨b32,0,none⟩ [(.int .i64 x30.1),(.int .i64 x30.2)] fun H34=>
 loadW H34 true 2 ⟨b32,0,none⟩ ⟨Int×Int,fun x=>(.agg #[(.int .i64 x.1),(.int .i64 x.2)])⟩ fun(x35:Int×Int)=>
 newB H34 (.cells #[(.int .i64 x35.1),(.int .i64 x35.2)] tq59) fun b36 H37=>
 appK H37 tq59 2 16 z26.1.1 z26.1.2.1 z26.1.2.2 (some ⟨b36,0,none⟩) 1 fun a38 c39 H40=>
 next28 ((a38,(z26.1.2.1+1),c39),(IntKind.i64.wrap (z26.2.1+1)),()) H40)
 (newB H27 (.cells #[(.string message),(.string message),(.slice nodes nodesN nodesC),(pq source),(.slice z5.1.1 z5.1.2.1 z5.1.2.2),(.slice z26.1.1 z26.1.2.1 z26.1.2.2),.nilIface,(.slice none 0 0)] tq57) fun b41 H42=>
 retK (some [(pq b41)]) H42 R)))
 (newB H (.cells #[] tq59) fun b43 H44=>
 loopK (Sl×Int×Unit) (((some ⟨b43,0,none⟩),0,0),0,()) H44 fun z45 H46 next47=>
 forkB (decide (z45.2.1<((positionsN:Nat):Int)))
 ((IxOk positions z45.2.1 positionsN)∧
 loadW H46 false 1 ⟨(blkOf positions),(offOf positions+z45.2.1.toNat*1),none⟩ (pInt .i64) fun(x48:Int)=>
 callW PP fq191 #[(pq source),(.int .i64 x48)] H46 ⟨Int×Int,fun x=>(.agg #[(.int .i64 x.1),(.int .i64 x.2)])⟩ fun(x49:Int×Int) H50=>
 newB H50 (.cells #[(.int .i64 0),(.int .i64 0)] tq59) fun b51 H52=>
 storeW H52 ⟨b51,0,none⟩ [(.int .i64 x49.1),(.int .i64 x49.2)] fun H53=>
 loadW H53 true 2 ⟨b51,0,none⟩ ⟨Int×Int,fun x=>(.agg #[(.int .i64 x.1),(.int .i64 x.2)])⟩ fun(x54:Int×Int)=>
 newB H53 (.cells #[(.int .i64 x54.1),(.int .i64 x54.2)] tq59) fun b55 H56=>
 appK H56 tq59 2 16 z45.1.1 z45.1.2.1 z45.1.2.2 (some ⟨b55,0,none⟩) 1 fun a57 c58 H59=>
 next47 ((a57,(z45.1.2.1+1),c58),(IntKind.i64.wrap (z45.2.1+1)),()) H59)
 (newB H46 (.cells #[(.string message),(.string message),(.slice nodes nodesN nodesC),(pq source),(.slice positions positionsN positionsC),(.slice z45.1.1 z45.1.2.1 z45.1.2.2),.nilIface,(.slice none 0 0)] tq57) fun b60 H61=>
 retK (some [(pq b60)]) H61 R)))
 (joinPK (Bool×Unit) H (fun J62=>
 forkB (((positionsN:Nat):Int)==0)
 (J62 ((decide (((nodesN:Nat):Int)>0)),()) H)
 (J62 (false,()) H)) fun y63=>
 forkB y63.1
 (loopK (Sl×Int×Unit) ((positions,positionsN,positionsC),0,()) H fun z64 H65 next66=>
 forkB (decide (z64.2.1<((nodesN:Nat):Int)))
 ((IxOk nodes z64.2.1 nodesN)∧
 loadW H65 false 1 ⟨(blkOf nodes),(offOf nodes+z64.2.1.toNat*1),none⟩ ⟨Nat,fun x=>(.iface tq192 (pq x))⟩ fun(x67:Nat)=>
 joinK (Bool×Unit) (fun J68=>
 callW PP fq190 #[(.iface tq192 (pq x67))] H65 pBool fun(x71:Bool) H72=>
 J68 (x71,()) H72) fun y69 H70=>
 forkB y69.1
 (next66 ((z64.1.1,z64.1.2.1,z64.1.2.2),(IntKind.i64.wrap (z64.2.1+1)),()) H70)
 (callW PP fq242 #[(pq x67)] H70 pBlk fun(_x73:Nat) H74=>
 callW PP fq242 #[(pq x67)] H74 pBlk fun(x75:Nat) H76=>
 lw H76 x75 0 (pInt .i64) fun(x77:Int)=>
 newB H76 (.cells #[(.int .i64 x77)] tq3) fun b78 H79=>
 appK H79 tq3 1 8 z64.1.1 z64.1.2.1 z64.1.2.2 (some ⟨b78,0,none⟩) 1 fun a80 c81 H82=>
 next66 ((a80,(z64.1.2.1+1),c81),(IntKind.i64.wrap (z64.2.1+1)),()) H82))
 (newB H65 (.cells #[] tq59) fun b83 H84=>
 loopK (Sl×Int×Unit) (((some ⟨b83,0,none⟩),0,0),0,()) H84 fun z85 H86 next87=>
 forkB (decide (z85.2.1<((z64.1.2.1:Nat):Int)))
 ((IxOk z64.1.1 z85.2.1 z64.1.2.1)∧
 loadW H86 false 1 ⟨(blkOf z64.1.1),(offOf z64.1.1+z85.2.1.toNat*1),none⟩ (pInt .i64) fun(x88:Int)=>
 callW PP fq191 #[(pq source),(.int .i64 x88)] H86 ⟨Int×Int,fun x=>(.agg #[(.int .i64 x.1),(.int .i64 x.2)])⟩ fun(x89:Int×Int) H90=>
 newB H90 (.cells #[(.int .i64 0),(.int .i64 0)] tq59) fun b91 H92=>
 storeW H92 ⟨b91,0,none⟩ [(.int .i64 x89.1),(.int .i64 x89.2)] fun H93=>
 loadW H93 true 2 ⟨b91,0,none⟩ ⟨Int×Int,fun x=>(.agg #[(.int .i64 x.1),(.int .i64 x.2)])⟩ fun(x94:Int×Int)=>
 newB H93 (.cells #[(.int .i64 x94.1),(.int .i64 x94.2)] tq59) fun b95 H96=>
 appK H96 tq59 2 16 z85.1.1 z85.1.2.1 z85.1.2.2 (some ⟨b95,0,none⟩) 1 fun a97 c98 H99=>
 next87 ((a97,(z85.1.2.1+1),c98),(IntKind.i64.wrap (z85.2.1+1)),()) H99)
 (newB H86 (.cells #[(.string message),(.string stack),(.slice nodes nodesN nodesC),(pq source),(.slice z64.1.1 z64.1.2.1 z64.1.2.2),(.slice z85.1.1 z85.1.2.1 z85.1.2.2),.nilIface,(.slice none 0 0)] tq57) fun b100 H101=>
 retK (some [(pq b100)]) H101 R)))
 (newB H (.cells #[] tq59) fun b102 H103=>
 loopK (Sl×Int×Unit) (((some ⟨b102,0,none⟩),0,0),0,()) H103 fun z104 H105 next106=>
 forkB (decide (z104.2.1<((positionsN:Nat):Int)))
 ((IxOk positions z104.2.1 positionsN)∧
 loadW H105 false 1 ⟨(blkOf positions),(offOf positions+z104.2.1.toNat*1),none⟩ (pInt .i64) fun(x107:Int)=>
 callW PP fq191 #[(pq source),(.int .i64 x107)] H105 ⟨Int×Int,fun x=>(.agg #[(.int .i64 x.1),(.int .i64 x.2)])⟩ fun(x108:Int×Int) H109=>
 newB H109 (.cells #[(.int .i64 0),(.int .i64 0)] tq59) fun b110 H111=>
 storeW H111 ⟨b110,0,none⟩ [(.int .i64 x108.1),(.int .i64 x108.2)] fun H112=>
 loadW H112 true 2 ⟨b110,0,none⟩ ⟨Int×Int,fun x=>(.agg #[(.int .i64 x.1),(.int .i64 x.2)])⟩ fun(x113:Int×Int)=>
 newB H112 (.cells #[(.int .i64 x113.1),(.int .i64 x113.2)] tq59) fun b114 H115=>
 appK H115 tq59 2 16 z104.1.1 z104.1.2.1 z104.1.2.2 (some ⟨b114,0,none⟩) 1 fun a116 c117 H118=>
 next106 ((a116,(z104.1.2.1+1),c117),(IntKind.i64.wrap (z104.2.1+1)),()) H118)
 (newB H105 (.cells #[(.string message),(.string stack),(.slice nodes nodesN nodesC),(pq source),(.slice positions positionsN positionsC),(.slice z104.1.1 z104.1.2.1 z104.1.2.2),.nilIface,(.slice none 0 0)] tq57) fun b119 H120=>
 retK (some [(pq b119)]) H120 R)))
theorem newErrorS.enter (message:ByteArray) (nodes:Option Addr) (nodesN nodesC:Nat) (stack:ByteArray) (source:Nat) (positions:Option Addr) (positionsN positionsC:Nat) (H:Heap) (R:RR) (h:newErrorS.W message nodes nodesN nodesC stack source positions positionsN positionsC H R):Fn PP fq159 #[(.string message),(.slice nodes nodesN nodesC),(.string stack),(pq source),(.slice positions positionsN positionsC),(.slice none 0 0),.nilIface] H R:=
 fnS mixed Tryz.func159 ⟨patL [(66,⟨Nat,fun x=>(.iface tq192 (pq x))⟩),(71,pBool),(74,pBlk),(78,pBlk),(81,(pInt .i64)),(91,(pInt .i64)),(94,⟨Int×Int,fun x=>(.agg #[(.int .i64 x.1),(.int .i64 x.2)])⟩),(96,⟨Int×Int,fun x=>(.agg #[(.int .i64 x.1),(.int .i64 x.2)])⟩)],loopL [(2,[Slot.slc 4,Slot.int .i64 63]),(4,[Slot.slc 19,Slot.int .i64 88])],joinL [],joinL [],joinRL [(1,[Slot.bool 28],true),(11,[Slot.bool 60],true),(15,[Slot.bool 72],false)]⟩ _ H R (Eq.mp (by unfold newErrorS.W;kernel_rfl) h)
def NewErrorS.W (message:ByteArray) (nodes:Option Addr) (nodesN nodesC:Nat) (stack:ByteArray) (source:Nat) (positions:Option Addr) (positionsN positionsC:Nat) (H:Heap) (R:RR):Prop:=
 callW PP fq159 #[(.string message),(.slice nodes nodesN nodesC),(.string stack),(pq source),(.slice positions positionsN positionsC),(.slice none 0 0),.nilIface] H pBlk fun(x1:Nat) H2=>
 retK (some [(pq x1)]) H2 R
theorem NewErrorS.enter (message:ByteArray) (nodes:Option Addr) (nodesN nodesC:Nat) (stack:ByteArray) (source:Nat) (positions:Option Addr) (positionsN positionsC:Nat) (H:Heap) (R:RR) (h:NewErrorS.W message nodes nodesN nodesC stack source positions positionsN positionsC H R):Fn PP fq114 #[(.string message),(.slice nodes nodesN nodesC),(.string stack),(pq source),(.slice positions positionsN positionsC),.nilIface] H R:=
 fnS mixed Tryz.func114 (hz [(19,pBlk)]) _ H R (Eq.mp (by unfold NewErrorS.W;kernel_rfl) h)
def NewSyntaxError.W (s:Nat) (position:Int) (_description:ByteArray) (H:Heap) (R:RR):Prop:=
 newB H (.cells #[] tq92) fun b1 H2=>
 newB H2 (.cells #[(.int .i64 position)] tq3) fun b3 H4=>
 callW PP fq114 #[(.string (bs [83,121,110,116,97,120,32,69,114,114,111,114])),(.slice (some ⟨b1,0,none⟩) 0 0),(.string (bs [])),(pq s),(.slice (some ⟨b3,0,none⟩) 1 1),.nilIface] H4 pBlk fun(x5:Nat) H6=>
 retK (some [(pq x5)]) H6 R
theorem NewSyntaxError.enter (s:Nat) (position:Int) (description:ByteArray) (H:Heap) (R:RR) (h:NewSyntaxError.W s position description H R):Fn PP fq80 #[(pq s),(.int .i64 position),(.string description)] H R:=
 fnS mixed Tryz.func80 (hz [(11,pBlk)]) _ H R (Eq.mp (by unfold NewSyntaxError.W;kernel_rfl) h)
end Go.Vx
