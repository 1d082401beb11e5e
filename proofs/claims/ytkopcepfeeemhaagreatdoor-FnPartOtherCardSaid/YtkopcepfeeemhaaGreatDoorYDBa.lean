/- A part of the proof of what the last text of this claim says: WE1. Conditions: none. -/
import Derived.Test.YtkopcepfeeemhaaGreatDoorYDAc
namespace Go.Vx
open Go Go.Proofs
set_option maxRecDepth 100000
def zzLineEnds.W (body:OA) (bodyN _bodyC:Nat) (H:Heap) (R:RR):Prop:=
 k0e (Sl×Int×Unit) ((none,0,0),0,()) H fun z1 H2 next3=>
 k02 (decide (z1.2.1<((bodyN:Nat):Int)))
 (k0j (Bool×Unit) H2 (fun J4=>
 (IxOk body z1.2.1 bodyN)∧
 k01 H2 false 1 ⟨(k0c body),(k0b body+z1.2.1.toNat*1),none⟩ (pInt .u8) fun(x6:Int)=>
 k02 (x6==13)
 (k02 (decide ((IntKind.i64.wrap (z1.2.1+1))<((bodyN:Nat):Int)))
 ((IxOk body (IntKind.i64.wrap (z1.2.1+1)) bodyN)∧
 k01 H2 false 1 ⟨(k0c body),(k0b body+(IntKind.i64.wrap (z1.2.1+1)).toNat*1),none⟩ (pInt .u8) fun(x7:Int)=>
 J4 ((x7==10),()) H2)
 (J4 (false,()) H2))
 (J4 (false,()) H2)) fun y5=>
 k02 y5.1
 (newB H2 (.cells #[(.int .i64 z1.2.1),(.int .i64 (IntKind.i64.wrap (z1.2.1+2)))] tq3) fun b8 H9=>
 newB H9 (.cells #[(.slice (some ⟨b8,0,none⟩) 2 2)] tq30) fun b10 H11=>
 appK H11 tq30 1 24 z1.1.1 z1.1.2.1 z1.1.2.2 (some ⟨b10,0,none⟩) 1 fun a12 c13 H14=>
 next3 ((a12,(z1.1.2.1+1),c13),(IntKind.i64.wrap ((IntKind.i64.wrap (z1.2.1+1))+1)),()) H14)
 (k0j (Bool×Unit) H2 (fun J15=>
 (IxOk body z1.2.1 bodyN)∧
 k01 H2 false 1 ⟨(k0c body),(k0b body+z1.2.1.toNat*1),none⟩ (pInt .u8) fun(x17:Int)=>
 k02 (x17==13)
 (J15 (true,()) H2)
 ((IxOk body z1.2.1 bodyN)∧
 k01 H2 false 1 ⟨(k0c body),(k0b body+z1.2.1.toNat*1),none⟩ (pInt .u8) fun(x18:Int)=>
 J15 ((x18==10),()) H2)) fun y16=>
 k02 y16.1
 (newB H2 (.cells #[(.int .i64 z1.2.1),(.int .i64 (IntKind.i64.wrap (z1.2.1+1)))] tq3) fun b19 H20=>
 newB H20 (.cells #[(.slice (some ⟨b19,0,none⟩) 2 2)] tq30) fun b21 H22=>
 appK H22 tq30 1 24 z1.1.1 z1.1.2.1 z1.1.2.2 (some ⟨b21,0,none⟩) 1 fun a23 c24 H25=>
 next3 ((a23,(z1.1.2.1+1),c24),(IntKind.i64.wrap (z1.2.1+1)),()) H25)
 (next3 ((z1.1.1,z1.1.2.1,z1.1.2.2),(IntKind.i64.wrap (z1.2.1+1)),()) H2)))
 (rk [(.slice z1.1.1 z1.1.2.1 z1.1.2.2)] H2 R)
theorem zzLineEnds.enter (body:OA) (bodyN bodyC:Nat) (H:Heap) (R:RR) (h:zzLineEnds.W body bodyN bodyC H R):Fn PP fq271 #[(.slice body bodyN bodyC)] H R:=
 fnE Tryz.func271 ⟨patL [(15,(pInt .u8)),(29,(pInt .u8)),(45,(pInt .u8)),(51,(pInt .u8))],k06 [(0,[Slot.slc 3,Slot.int .i64 4])],k03 [],k03 [],k05 [(5,[Slot.bool 11],true),(8,[Slot.bool 41],true)]⟩ (by unfold zzLineEnds.W;kernel_rfl) h
def GetLocation.W (s:Nat) (position:Int) (H:Heap) (R:RR):Prop:=
 newB H (.cells #[(.int .i64 0),(.int .i64 0)] tq394) fun b1 H2=>
 newB H2 (.cells #[] tq5) fun _b3 H4=>
 lw H4 s 0 pSlc fun(x5:Sl)=>
 k00 PP fq271 #[(.slice x5.1 x5.2.1 x5.2.2)] H4 pSlc fun(x6:Sl) H7=>
 k0e (Int×Int×Int×Unit) (1,(IntKind.i64.wrap (position+1)),0,()) H7 fun z8 H9 next10=>
 k02 (decide (z8.2.2.1<((x6.2.1:Nat):Int)))
 ((IxOk x6.1 z8.2.2.1 x6.2.1)∧
 k01 H9 false 1 ⟨(k0c x6.1),(k0b x6.1+z8.2.2.1.toNat*1),none⟩ pSlc fun(x11:Sl)=>
 (IxOk x11.1 0 x11.2.1)∧
 k01 H9 false 1 ⟨(k0c x11.1),(k0b x11.1+(0:Int).toNat*1),none⟩ (pInt .i64) fun(x12:Int)=>
 k02 (decide (x12<position))
 (lw H9 s 0 pSlc fun(x13:Sl)=>
 (IxOk x11.1 0 x11.2.1)∧
 k01 H9 false 1 ⟨(k0c x11.1),(k0b x11.1+(0:Int).toNat*1),none⟩ (pInt .i64) fun(x14:Int)=>
 (IxOk x11.1 1 x11.2.1)∧
 k01 H9 false 1 ⟨(k0c x11.1),(k0b x11.1+(1:Int).toNat*1),none⟩ (pInt .i64) fun(x15:Int)=>
 (((0:Int)≤x15∧x15≤((x13.2.2:Nat):Int))∧((0:Int)≤x14∧x14≤((x15.toNat:Nat):Int)))∧
 next10 ((IntKind.i64.wrap (z8.1+1)),(IntKind.i64.wrap ((IntKind.i64.wrap (position+1)) -(IntKind.i64.wrap (x12+(((x15.toNat -x14.toNat):Nat):Int))))),(IntKind.i64.wrap (z8.2.2.1+1)),()) H9)
 (k08 H9 ⟨b1,0,none⟩ [(.int .i64 z8.1),(.int .i64 z8.2.1)] fun H16=>
 retK (k09 (k07 H16 true 2 ⟨b1,0,none⟩) (some [])) H16 R))
 (k08 H9 ⟨b1,0,none⟩ [(.int .i64 z8.1),(.int .i64 z8.2.1)] fun H17=>
 retK (k09 (k07 H17 true 2 ⟨b1,0,none⟩) (some [])) H17 R)
theorem GetLocation.enter (s:Nat) (position:Int) (H:Heap) (R:RR) (h:GetLocation.W s position H R):Fn PP fq263 #[(pq s),(.int .i64 position)] H R:=
 fnE Tryz.func263 ⟨patL [(19,pSlc),(23,pSlc),(29,pSlc),(32,(pInt .i64)),(41,pSlc),(44,(pInt .i64)),(47,(pInt .i64))],k06 [(0,[Slot.int .i64 6,Slot.int .i64 7,Slot.int .i64 26])],k03 [],k03 [],k05 []⟩ (by unfold GetLocation.W;kernel_rfl) h
def k4l.W (message:BA) (nodes:OA) (nodesN nodesC:Nat) (stack:BA) (source:Nat) (positions:OA) (positionsN positionsC:Nat) (H:Heap) (R:RR):Prop:=
 k0j (Bool×Unit) H (fun J1=>
 k02 (stack.toList==(bs []).toList)
 (J1 ((!(message.toList==(bs []).toList)),()) H)
 (J1 (false,()) H)) fun y2=>
 k02 y2.1
 (k0j (Bool×Unit) H (fun J3=>
 k02 (((positionsN:Nat):Int)==0)
 (J3 ((decide (((nodesN:Nat):Int)>0)),()) H)
 (J3 (false,()) H)) fun y4=>
 k02 y4.1
 (k0e (Sl×Int×Unit) ((positions,positionsN,positionsC),0,()) H fun z5 H6 next7=>
 k02 (decide (z5.2.1<((nodesN:Nat):Int)))
 ((IxOk nodes z5.2.1 nodesN)∧
 k01 H6 false 1 ⟨(k0c nodes),(k0b nodes+z5.2.1.toNat*1),none⟩ ⟨Nat,fun x=>(.iface tq126 (pq x))⟩ fun(x8:Nat)=>
 k0d (Bool×Unit) (fun J9=>
 k00 PP fq262 #[(.iface tq126 (pq x8))] H6 k04 fun(x12:Bool) H13=>
 J9 (x12,()) H13) fun y10 H11=>
 k02 y10.1
 (next7 ((z5.1.1,z5.1.2.1,z5.1.2.2),(IntKind.i64.wrap (z5.2.1+1)),()) H11)
 (k00 PP fq315 #[(pq x8)] H11 pBlk fun(_x14:Nat) H15=>
 k00 PP fq315 #[(pq x8)] H15 pBlk fun(x16:Nat) H17=>
 lw H17 x16 0 (pInt .i64) fun(x18:Int)=>
 newB H17 (.cells #[(.int .i64 x18)] tq3) fun b19 H20=>
 appK H20 tq3 1 8 z5.1.1 z5.1.2.1 z5.1.2.2 (some ⟨b19,0,none⟩) 1 fun a21 c22 H23=>
 next7 ((a21,(z5.1.2.1+1),c22),(IntKind.i64.wrap (z5.2.1+1)),()) H23))
 (newB H6 (.cells #[] tq394) fun b24 H25=>
 k0e (Sl×Int×Unit) (((some ⟨b24,0,none⟩),0,0),0,()) H25 fun z26 H27 next28=>
 k02 (decide (z26.2.1<((z5.1.2.1:Nat):Int)))
 ((IxOk z5.1.1 z26.2.1 z5.1.2.1)∧
 k01 H27 false 1 ⟨(k0c z5.1.1),(k0b z5.1.1+z26.2.1.toNat*1),none⟩ (pInt .i64) fun(x29:Int)=>
 k00 PP fq263 #[(pq source),(.int .i64 x29)] H27 ⟨Int×Int,fun x=>(.agg #[(.int .i64 x.1),(.int .i64 x.2)])⟩ fun(x30:Int×Int) H31=>
 newB H31 (.cells #[(.int .i64 0),(.int .i64 0)] tq394) fun b32 H33=>
 k08 H33 ⟨b32,0,none⟩ [(.int .i64 x30.1),(.int .i64 x30.2)] fun H34=>
 k01 H34 true 2 ⟨b32,0,none⟩ ⟨Int×Int,fun x=>(.agg #[(.int .i64 x.1),(.int .i64 x.2)])⟩ fun(x35:Int×Int)=>
 newB H34 (.cells #[(.int .i64 x35.1),(.int .i64 x35.2)] tq394) fun b36 H37=>
 appK H37 tq394 2 16 z26.1.1 z26.1.2.1 z26.1.2.2 (some ⟨b36,0,none⟩) 1 fun a38 c39 H40=>
 next28 ((a38,(z26.1.2.1+1),c39),(IntKind.i64.wrap (z26.2.1+1)),()) H40)
 (newB H27 (.cells #[(.string message),(.string message),(.slice nodes nodesN nodesC),(pq source),(.slice z5.1.1 z5.1.2.1 z5.1.2.2),(.slice z26.1.1 z26.1.2.1 z26.1.2.2),nI,(.slice none 0 0)] tq397) fun b41 H42=>
 rk [(pq b41)] H42 R)))
 (newB H (.cells #[] tq394) fun b43 H44=>
 k0e (Sl×Int×Unit) (((some ⟨b43,0,none⟩),0,0),0,()) H44 fun z45 H46 next47=>
 k02 (decide (z45.2.1<((positionsN:Nat):Int)))
 ((IxOk positions z45.2.1 positionsN)∧
 k01 H46 false 1 ⟨(k0c positions),(k0b positions+z45.2.1.toNat*1),none⟩ (pInt .i64) fun(x48:Int)=>
 k00 PP fq263 #[(pq source),(.int .i64 x48)] H46 ⟨Int×Int,fun x=>(.agg #[(.int .i64 x.1),(.int .i64 x.2)])⟩ fun(x49:Int×Int) H50=>
 newB H50 (.cells #[(.int .i64 0),(.int .i64 0)] tq394) fun b51 H52=>
 k08 H52 ⟨b51,0,none⟩ [(.int .i64 x49.1),(.int .i64 x49.2)] fun H53=>
 k01 H53 true 2 ⟨b51,0,none⟩ ⟨Int×Int,fun x=>(.agg #[(.int .i64 x.1),(.int .i64 x.2)])⟩ fun(x54:Int×Int)=>
 newB H53 (.cells #[(.int .i64 x54.1),(.int .i64 x54.2)] tq394) fun b55 H56=>
 appK H56 tq394 2 16 z45.1.1 z45.1.2.1 z45.1.2.2 (some ⟨b55,0,none⟩) 1 fun a57 c58 H59=>
 next47 ((a57,(z45.1.2.1+1),c58),(IntKind.i64.wrap (z45.2.1+1)),()) H59)
 (newB H46 (.cells #[(.string message),(.string message),(.slice nodes nodesN nodesC),(pq source),(.slice positions positionsN positionsC),(.slice z45.1.1 z45.1.2.1 z45.1.2.2),nI,(.slice none 0 0)] tq397) fun b60 H61=>
 rk [(pq b60)] H61 R)))
 (k0j (Bool×Unit) H (fun J62=>
 k02 (((positionsN:Nat):Int)==0)
 (J62 ((decide (((nodesN:Nat):Int)>0)),()) H)
 (J62 (false,()) H)) fun y63=>
 k02 y63.1
 (k0e (Sl×Int×Unit) ((positions,positionsN,positionsC),0,()) H fun z64 H65 next66=>
 k02 (decide (z64.2.1<((nodesN:Nat):Int)))
 ((IxOk nodes z64.2.1 nodesN)∧
 k01 H65 false 1 ⟨(k0c nodes),(k0b nodes+z64.2.1.toNat*1),none⟩ ⟨Nat,fun x=>(.iface tq126 (pq x))⟩ fun(x67:Nat)=>
 k0d (Bool×Unit) (fun J68=>
 k00 PP fq262 #[(.iface tq126 (pq x67))] H65 k04 fun(x71:Bool) H72=>
 J68 (x71,()) H72) fun y69 H70=>
 k02 y69.1
 (next66 ((z64.1.1,z64.1.2.1,z64.1.2.2),(IntKind.i64.wrap (z64.2.1+1)),()) H70)
 (k00 PP fq315 #[(pq x67)] H70 pBlk fun(_x73:Nat) H74=>
 k00 PP fq315 #[(pq x67)] H74 pBlk fun(x75:Nat) H76=>
 lw H76 x75 0 (pInt .i64) fun(x77:Int)=>
 newB H76 (.cells #[(.int .i64 x77)] tq3) fun b78 H79=>
 appK H79 tq3 1 8 z64.1.1 z64.1.2.1 z64.1.2.2 (some ⟨b78,0,none⟩) 1 fun a80 c81 H82=>
 next66 ((a80,(z64.1.2.1+1),c81),(IntKind.i64.wrap (z64.2.1+1)),()) H82))
 (newB H65 (.cells #[] tq394) fun b83 H84=>
 k0e (Sl×Int×Unit) (((some ⟨b83,0,none⟩),0,0),0,()) H84 fun z85 H86 next87=>
 k02 (decide (z85.2.1<((z64.1.2.1:Nat):Int)))
 ((IxOk z64.1.1 z85.2.1 z64.1.2.1)∧
 k01 H86 false 1 ⟨(k0c z64.1.1),(k0b z64.1.1+z85.2.1.toNat*1),none⟩ (pInt .i64) fun(x88:Int)=>
 k00 PP fq263 #[(pq source),(.int .i64 x88)] H86 ⟨Int×Int,fun x=>(.agg #[(.int .i64 x.1),(.int .i64 x.2)])⟩ fun(x89:Int×Int) H90=>
 newB H90 (.cells #[(.int .i64 0),(.int .i64 0)] tq394) fun b91 H92=>
 k08 H92 ⟨b91,0,none⟩ [(.int .i64 x89.1),(.int .i64 x89.2)] fun H93=>
 k01 H93 true 2 ⟨b91,0,none⟩ ⟨Int×Int,fun x=>(.agg #[(.int .i64 x.1),(.int .i64 x.2)])⟩ fun(x94:Int×Int)=>
 newB H93 (.cells #[(.int .i64 x94.1),(.int .i64 x94.2)] tq394) fun b95 H96=>
 appK H96 tq394 2 16 z85.1.1 z85.1.2.1 z85.1.2.2 (some ⟨b95,0,none⟩) 1 fun a97 c98 H99=>
 next87 ((a97,(z85.1.2.1+1),c98),(IntKind.i64.wrap (z85.2.1+1)),()) H99)
 (newB H86 (.cells #[(.string message),(.string stack),(.slice nodes nodesN nodesC),(pq source),(.slice z64.1.1 z64.1.2.1 z64.1.2.2),(.slice z85.1.1 z85.1.2.1 z85.1.2.2),nI,(.slice none 0 0)] tq397) fun b100 H101=>
 rk [(pq b100)] H101 R)))
 (newB H (.cells #[] tq394) fun b102 H103=>
 k0e (Sl×Int×Unit) (((some ⟨b102,0,none⟩),0,0),0,()) H103 fun z104 H105 next106=>
 k02 (decide (z104.2.1<((positionsN:Nat):Int)))
 ((IxOk positions z104.2.1 positionsN)∧
 k01 H105 false 1 ⟨(k0c positions),(k0b positions+z104.2.1.toNat*1),none⟩ (pInt .i64) fun(x107:Int)=>
 k00 PP fq263 #[(pq source),(.int .i64 x107)] H105 ⟨Int×Int,fun x=>(.agg #[(.int .i64 x.1),(.int .i64 x.2)])⟩ fun(x108:Int×Int) H109=>
 newB H109 (.cells #[(.int .i64 0),(.int .i64 0)] tq394) fun b110 H111=>
 k08 H111 ⟨b110,0,none⟩ [(.int .i64 x108.1),(.int .i64 x108.2)] fun H112=>
 k01 H112 true 2 ⟨b110,0,none⟩ ⟨Int×Int,fun x=>(.agg #[(.int .i64 x.1),(.int .i64 x.2)])⟩ fun(x113:Int×Int)=>
 newB H112 (.cells #[(.int .i64 x113.1),(.int .i64 x113.2)] tq394) fun b114 H115=>
 appK H115 tq394 2 16 z104.1.1 z104.1.2.1 z104.1.2.2 (some ⟨b114,0,none⟩) 1 fun a116 c117 H118=>
 next106 ((a116,(z104.1.2.1+1),c117),(IntKind.i64.wrap (z104.2.1+1)),()) H118)
 (newB H105 (.cells #[(.string message),(.string stack),(.slice nodes nodesN nodesC),(pq source),(.slice positions positionsN positionsC),(.slice z104.1.1 z104.1.2.1 z104.1.2.2),nI,(.slice none 0 0)] tq397) fun b119 H120=>
 rk [(pq b119)] H120 R)))
theorem k4l.enter (message:BA) (nodes:OA) (nodesN nodesC:Nat) (stack:BA) (source:Nat) (positions:OA) (positionsN positionsC:Nat) (H:Heap) (R:RR) (h:k4l.W message nodes nodesN nodesC stack source positions positionsN positionsC H R):Fn PP fq247 #[(.string message),(.slice nodes nodesN nodesC),(.string stack),(pq source),(.slice positions positionsN positionsC),(.slice none 0 0),nI] H R:=
 fnE Tryz.func247 ⟨patL [(66,⟨Nat,fun x=>(.iface tq126 (pq x))⟩),(71,k04),(74,pBlk),(78,pBlk),(81,(pInt .i64)),(91,(pInt .i64)),(94,⟨Int×Int,fun x=>(.agg #[(.int .i64 x.1),(.int .i64 x.2)])⟩),(96,⟨Int×Int,fun x=>(.agg #[(.int .i64 x.1),(.int .i64 x.2)])⟩)],k06 [(2,[Slot.slc 4,Slot.int .i64 63]),(4,[Slot.slc 19,Slot.int .i64 88])],k03 [],k03 [],k05 [(1,[Slot.bool 28],true),(11,[Slot.bool 60],true),(15,[Slot.bool 72],false)]⟩ (by unfold k4l.W;kernel_rfl) h
def k3X.W (message:BA) (nodes:OA) (nodesN nodesC:Nat) (stack:BA) (source:Nat) (positions:OA) (positionsN positionsC:Nat) (H:Heap) (R:RR):Prop:=
 k00 PP fq247 #[(.string message),(.slice nodes nodesN nodesC),(.string stack),(pq source),(.slice positions positionsN positionsC),(.slice none 0 0),nI] H pBlk fun(x1:Nat) H2=>
 rk [(pq x1)] H2 R
theorem k3X.enter (message:BA) (nodes:OA) (nodesN nodesC:Nat) (stack:BA) (source:Nat) (positions:OA) (positionsN positionsC:Nat) (H:Heap) (R:RR) (h:k3X.W message nodes nodesN nodesC stack source positions positionsN positionsC H R):Fn PP fq232 #[(.string message),(.slice nodes nodesN nodesC),(.string stack),(pq source),(.slice positions positionsN positionsC),nI] H R:=
 fnE Tryz.func232 (hz [(19,pBlk)]) (by unfold k3X.W;kernel_rfl) h
def NewSyntaxError.W (s:Nat) (position:Int) (_description:BA) (H:Heap) (R:RR):Prop:=
 newB H (.cells #[] tq131) fun b1 H2=>
 newB H2 (.cells #[(.int .i64 position)] tq3) fun b3 H4=>
 k00 PP fq232 #[(.string (bs [83,121,110,116,97,120,32,69,114,114,111,114])),(.slice (some ⟨b1,0,none⟩) 0 0),sE,(pq s),(.slice (some ⟨b3,0,none⟩) 1 1),nI] H4 pBlk fun(x5:Nat) H6=>
 rk [(pq x5)] H6 R
theorem NewSyntaxError.enter (s:Nat) (position:Int) (description:BA) (H:Heap) (R:RR) (h:NewSyntaxError.W s position description H R):Fn PP fq198 #[(pq s),(.int .i64 position),(.string description)] H R:=
 fnE Tryz.func198 (hz [(11,pBlk)]) (by unfold NewSyntaxError.W;kernel_rfl) h
end Go.Vx
