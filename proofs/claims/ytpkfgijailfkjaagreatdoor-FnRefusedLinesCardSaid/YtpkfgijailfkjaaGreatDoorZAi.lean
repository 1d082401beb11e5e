/- A part of the proof of what the last text of this claim says: WB6, Lay5. Conditions: none. -/
import Derived.Shelf.Lays7
import Derived.Shelf.LaysM
import Derived.Shelf.Lays
import Derived.Shelf.Wr.Lays
import Derived.Shelf.Strings.BuilderX
import Derived.Test.YtpkfgijailfkjaaGreatDoorProg
import Derived.KernelRfl
import Derived.Test.YtpkfgijailfkjaaGreatDoorZAb
namespace Go.Vx
open Go Go.Proofs
set_option maxRecDepth 100000
def readString.W (src:Nat) (st:Int) (H:Heap) (R:Value→Heap→Prop):Prop:=
 newB H (.cells #[(.int .i64 0),(.int .i64 0),(.int .i64 0),(.string (bs []))] tq87) fun b1 H2=>
 loadW H2 false 1 ⟨src,0,none⟩ ⟨(Nat×Nat×Nat×Nat),fun x=>(.slice (some ⟨x.1,x.2.1,none⟩) x.2.2.1 x.2.2.2)⟩ fun(x3:(Nat×Nat×Nat×Nat))=>
 newB H2 (.cells #[(.slice none 0 0),(.int .i64 0),(.int .i8 0)] tq185) fun b4 H5=>
 loopK (Int×Int×Int×Unit) ((IntKind.i64.wrap (st+1)),(IntKind.i64.wrap (st+1)),(IntKind.i64.wrap (st+1)),()) H5 fun z6 H7 next8=>
 callW PP fq92 #[(.slice (some ⟨x3.1,x3.2.1,none⟩) x3.2.2.1 x3.2.2.2),(.int .i64 z6.1)] H7 ⟨Int×Int,fun x=>(.tuple #[(.int .i32 x.1),(.int .i64 x.2)])⟩ fun(x9:Int×Int) H10=>
 joinPK (Bool×Unit) H10 (fun J11=>
 forkB (decide (z6.1<((x3.2.2.1:Nat):Int)))
 (forkB (x9.1 !=10)
 (forkB (x9.1 !=13)
 (J11 ((x9.1 !=34),()) H10)
 (J11 (false,()) H10))
 (J11 (false,()) H10))
 (J11 (false,()) H10)) fun y12=>
 forkB y12.1
 (joinPK (Bool×Unit) H10 (fun J13=>
 forkB (decide (x9.1<32))
 (J13 ((x9.1 !=9),()) H10)
 (J13 (false,()) H10)) fun y14=>
 forkB y14.1
 (callW PP fq80 #[(.pointer (some ⟨src,0,none⟩)),(.int .i64 z6.2.1),(.string (bs [73,110,118,97,108,105,100,32,99,104,97,114,97,99,116,101,114,32,119,105,116,104,105,110,32,83,116,114,105,110,103,58,32,37,118,46]))] H10 pBlk fun(x15:Nat) H16=>
 storeW H16 ⟨b1,0,none⟩ [(.int .i64 0),(.int .i64 0),(.int .i64 0),(.string (bs []))] fun H17=>
 retK (consO (loadC H17 true 4 ⟨b1,0,none⟩) ((consO (some (.iface tq49 (.pointer (some ⟨x15,0,none⟩)))) (some [])))) H17 R)
 (joinK (Int×Int×Int×Unit) (fun J18=>
 forkB (x9.1==92)
 ((((0:Int)≤(IntKind.i64.wrap ((IntKind.i64.wrap (z6.1+x9.2)) -1))∧(IntKind.i64.wrap ((IntKind.i64.wrap (z6.1+x9.2)) -1))≤((x3.2.2.2:Nat):Int))∧((0:Int)≤z6.2.2.1∧z6.2.2.1≤(((IntKind.i64.wrap ((IntKind.i64.wrap (z6.1+x9.2)) -1)).toNat:Nat):Int)))∧
 callW PP fq123 #[(.pointer (some ⟨b4,0,none⟩)),(.slice (some ⟨x3.1,(slcO x3.2.1 x3.2.2.2 z6.2.2.1.toNat 1),none⟩) ((IntKind.i64.wrap ((IntKind.i64.wrap (z6.1+x9.2)) -1)).toNat -z6.2.2.1.toNat) (x3.2.2.2 -z6.2.2.1.toNat))] H10 ⟨Int,fun x=>(.tuple #[(.int .i64 x),.nilIface])⟩ fun(_x21:Int) H22=>
 callW PP fq92 #[(.slice (some ⟨x3.1,x3.2.1,none⟩) x3.2.2.1 x3.2.2.2),(.int .i64 (IntKind.i64.wrap (z6.1+x9.2)))] H22 ⟨Int×Int,fun x=>(.tuple #[(.int .i32 x.1),(.int .i64 x.2)])⟩ fun(x23:Int×Int) H24=>
 joinK (Int×Int×Unit) (fun J25=>
 forkB (x23.1==34)
 (callW PP fq126 #[(.pointer (some ⟨b4,0,none⟩)),(.int .i32 34)] H24 ⟨Int,fun x=>(.tuple #[(.int .i64 x),.nilIface])⟩ fun(_x28:Int) H29=>
 J25 ((IntKind.i64.wrap (z6.1+x9.2)),(IntKind.i64.wrap (z6.2.1+1)),()) H29)
 (forkB (x23.1==47)
 (callW PP fq126 #[(.pointer (some ⟨b4,0,none⟩)),(.int .i32 47)] H24 ⟨Int,fun x=>(.tuple #[(.int .i64 x),.nilIface])⟩ fun(_x30:Int) H31=>
 J25 ((IntKind.i64.wrap (z6.1+x9.2)),(IntKind.i64.wrap (z6.2.1+1)),()) H31)
 (forkB (x23.1==92)
 (callW PP fq126 #[(.pointer (some ⟨b4,0,none⟩)),(.int .i32 92)] H24 ⟨Int,fun x=>(.tuple #[(.int .i64 x),.nilIface])⟩ fun(_x32:Int) H33=>
 J25 ((IntKind.i64.wrap (z6.1+x9.2)),(IntKind.i64.wrap (z6.2.1+1)),()) H33)
 (forkB (x23.1==98)
 (callW PP fq126 #[(.pointer (some ⟨b4,0,none⟩)),(.int .i32 8)] H24 ⟨Int,fun x=>(.tuple #[(.int .i64 x),.nilIface])⟩ fun(_x34:Int) H35=>
 J25 ((IntKind.i64.wrap (z6.1+x9.2)),(IntKind.i64.wrap (z6.2.1+1)),()) H35)
 (forkB (x23.1==102)
 (callW PP fq126 #[(.pointer (some ⟨b4,0,none⟩)),(.int .i32 12)] H24 ⟨Int,fun x=>(.tuple #[(.int .i64 x),.nilIface])⟩ fun(_x36:Int) H37=>
 J25 ((IntKind.i64.wrap (z6.1+x9.2)),(IntKind.i64.wrap (z6.2.1+1)),()) H37)
 (forkB (x23.1==110)
 (callW PP fq126 #[(.pointer (some ⟨b4,0,none⟩)),(.int .i32 10)] H24 ⟨Int,fun x=>(.tuple #[(.int .i64 x),.nilIface])⟩ fun(_x38:Int) H39=>
 J25 ((IntKind.i64.wrap (z6.1+x9.2)),(IntKind.i64.wrap (z6.2.1+1)),()) H39)
 (forkB (x23.1==114)
 (callW PP fq126 #[(.pointer (some ⟨b4,0,none⟩)),(.int .i32 13)] H24 ⟨Int,fun x=>(.tuple #[(.int .i64 x),.nilIface])⟩ fun(_x40:Int) H41=>
 J25 ((IntKind.i64.wrap (z6.1+x9.2)),(IntKind.i64.wrap (z6.2.1+1)),()) H41)
 (forkB (x23.1==116)
 (callW PP fq126 #[(.pointer (some ⟨b4,0,none⟩)),(.int .i32 9)] H24 ⟨Int,fun x=>(.tuple #[(.int .i64 x),.nilIface])⟩ fun(_x42:Int) H43=>
 J25 ((IntKind.i64.wrap (z6.1+x9.2)),(IntKind.i64.wrap (z6.2.1+1)),()) H43)
 (forkB (x23.1==117)
 (forkB (decide (((x3.2.2.1:Nat):Int)≤(IntKind.i64.wrap ((IntKind.i64.wrap (z6.1+x9.2))+4))))
 (callW PP fq80 #[(.pointer (some ⟨src,0,none⟩)),(.int .i64 (IntKind.i64.wrap (z6.2.1+1))),(.string (bs [73,110,118,97,108,105,100,32,99,104,97,114,97,99,116,101,114,32,101,115,99,97,112,101,32,115,101,113,117,101,110,99,101,58,32,92,117,37,118]))] H24 pBlk fun(x44:Nat) H45=>
 storeW H45 ⟨b1,0,none⟩ [(.int .i64 0),(.int .i64 0),(.int .i64 0),(.string (bs []))] fun H46=>
 retK (consO (loadC H46 true 4 ⟨b1,0,none⟩) ((consO (some (.iface tq49 (.pointer (some ⟨x44,0,none⟩)))) (some [])))) H46 R)
 ((IxOk (some ⟨x3.1,x3.2.1,none⟩) (IntKind.i64.wrap ((IntKind.i64.wrap (z6.1+x9.2))+1)) x3.2.2.1)∧
 loadW H24 false 1 ⟨x3.1,(x3.2.1+(IntKind.i64.wrap ((IntKind.i64.wrap (z6.1+x9.2))+1)).toNat*1),none⟩ (pInt .u8) fun(x47:Int)=>
 (IxOk (some ⟨x3.1,x3.2.1,none⟩) (IntKind.i64.wrap ((IntKind.i64.wrap (z6.1+x9.2))+2)) x3.2.2.1)∧
 loadW H24 false 1 ⟨x3.1,(x3.2.1+(IntKind.i64.wrap ((IntKind.i64.wrap (z6.1+x9.2))+2)).toNat*1),none⟩ (pInt .u8) fun(x48:Int)=>
 (IxOk (some ⟨x3.1,x3.2.1,none⟩) (IntKind.i64.wrap ((IntKind.i64.wrap (z6.1+x9.2))+3)) x3.2.2.1)∧
 loadW H24 false 1 ⟨x3.1,(x3.2.1+(IntKind.i64.wrap ((IntKind.i64.wrap (z6.1+x9.2))+3)).toNat*1),none⟩ (pInt .u8) fun(x49:Int)=>
 (IxOk (some ⟨x3.1,x3.2.1,none⟩) (IntKind.i64.wrap ((IntKind.i64.wrap (z6.1+x9.2))+4)) x3.2.2.1)∧
 loadW H24 false 1 ⟨x3.1,(x3.2.1+(IntKind.i64.wrap ((IntKind.i64.wrap (z6.1+x9.2))+4)).toNat*1),none⟩ (pInt .u8) fun(x50:Int)=>
 callW PP fq127 #[(.int .i32 (IntKind.i32.wrap x47)),(.int .i32 (IntKind.i32.wrap x48)),(.int .i32 (IntKind.i32.wrap x49)),(.int .i32 (IntKind.i32.wrap x50))] H24 (pInt .i32) fun(x51:Int) H52=>
 forkB (decide (x51<0))
 (callW PP fq80 #[(.pointer (some ⟨src,0,none⟩)),(.int .i64 (IntKind.i64.wrap (z6.2.1+1))),(.string (bs [73,110,118,97,108,105,100,32,99,104,97,114,97,99,116,101,114,32,101,115,99,97,112,101,32,115,101,113,117,101,110,99,101,58,32,92,117,37,118]))] H52 pBlk fun(x53:Nat) H54=>
 storeW H54 ⟨b1,0,none⟩ [(.int .i64 0),(.int .i64 0),(.int .i64 0),(.string (bs []))] fun H55=>
 retK (consO (loadC H55 true 4 ⟨b1,0,none⟩) ((consO (some (.iface tq49 (.pointer (some ⟨x53,0,none⟩)))) (some [])))) H55 R)
 (callW PP fq126 #[(.pointer (some ⟨b4,0,none⟩)),(.int .i32 x51)] H52 ⟨Int,fun x=>(.tuple #[(.int .i64 x),.nilIface])⟩ fun(_x56:Int) H57=>
 J25 ((IntKind.i64.wrap ((IntKind.i64.wrap (z6.1+x9.2))+4)),(IntKind.i64.wrap ((IntKind.i64.wrap (z6.2.1+1))+4)),()) H57)))
 (callW PP fq80 #[(.pointer (some ⟨src,0,none⟩)),(.int .i64 (IntKind.i64.wrap (z6.2.1+1))),(.string (bs [73,110,118,97,108,105,100,32,99,104,97,114,97,99,116,101,114,32,101,115,99,97,112,101,32,115,101,113,117,101,110,99,101,58,32,92,92,37,99,46]))] H24 pBlk fun(x58:Nat) H59=>
 storeW H59 ⟨b1,0,none⟩ [(.int .i64 0),(.int .i64 0),(.int .i64 0),(.string (bs []))] fun H60=>
 retK (consO (loadC H60 true 4 ⟨b1,0,none⟩) ((consO (some (.iface tq49 (.pointer (some ⟨x58,0,none⟩)))) (some [])))) H60 R)))))))))) fun y26 H27=>
 J18 ((IntKind.i64.wrap (y26.1+x23.2)),(IntKind.i64.wrap (y26.2.1+1)),(IntKind.i64.wrap (y26.1+x23.2)),()) H27)
 (J18 ((IntKind.i64.wrap (z6.1+x9.2)),(IntKind.i64.wrap (z6.2.1+1)),z6.2.2.1,()) H10)) fun y19 H20=>
 next8 (y19.1,y19.2.1,y19.2.2.1,()) H20))
 (forkB (x9.1 !=34)
 (callW PP fq80 #[(.pointer (some ⟨src,0,none⟩)),(.int .i64 z6.2.1),(.string (bs [85,110,116,101,114,109,105,110,97,116,101,100,32,115,116,114,105,110,103,46]))] H10 pBlk fun(x61:Nat) H62=>
 storeW H62 ⟨b1,0,none⟩ [(.int .i64 0),(.int .i64 0),(.int .i64 0),(.string (bs []))] fun H63=>
 retK (consO (loadC H63 true 4 ⟨b1,0,none⟩) ((consO (some (.iface tq49 (.pointer (some ⟨x61,0,none⟩)))) (some [])))) H63 R)
 ((((0:Int)≤z6.1∧z6.1≤((x3.2.2.2:Nat):Int))∧((0:Int)≤z6.2.2.1∧z6.2.2.1≤((z6.1.toNat:Nat):Int)))∧
 callW PP fq123 #[(.pointer (some ⟨b4,0,none⟩)),(.slice (some ⟨x3.1,(slcO x3.2.1 x3.2.2.2 z6.2.2.1.toNat 1),none⟩) (z6.1.toNat -z6.2.2.1.toNat) (x3.2.2.2 -z6.2.2.1.toNat))] H10 ⟨Int,fun x=>(.tuple #[(.int .i64 x),.nilIface])⟩ fun(_x64:Int) H65=>
 callW PP fq125 #[(.pointer (some ⟨b4,0,none⟩))] H65 pStr fun(x66:ByteArray) H67=>
 callW PP fq91 #[(.int .i64 18),(.int .i64 st),(.int .i64 (IntKind.i64.wrap (z6.1+1))),(.string x66)] H67 ⟨Int×Int×Int×ByteArray,fun x=>(.agg #[(.int .i64 x.1),(.int .i64 x.2.1),(.int .i64 x.2.2.1),(.string x.2.2.2)])⟩ fun(x68:Int×Int×Int×ByteArray) H69=>
 storeW H69 ⟨b1,0,none⟩ [(.int .i64 x68.1),(.int .i64 x68.2.1),(.int .i64 x68.2.2.1),(.string x68.2.2.2)] fun H70=>
 retK (consO (loadC H70 true 4 ⟨b1,0,none⟩) ((consO (some .nilIface) (some [])))) H70 R))
theorem readString.enter (src:Nat) (st:Int) (H:Heap) (R:Value→Heap→Prop) (h:readString.W src st H R):Fn PP fq96 #[(.pointer (some ⟨src,0,none⟩)),(.int .i64 st)] H R:=
 fnS mixed Tryz.func96 ⟨patL [(19,⟨(Nat×Nat×Nat×Nat),fun x=>(.slice (some ⟨x.1,x.2.1,none⟩) x.2.2.1 x.2.2.2)⟩),(28,⟨Int×Int,fun x=>(.tuple #[(.int .i32 x.1),(.int .i64 x.2)])⟩),(56,pBlk),(70,⟨Int,fun x=>(.tuple #[(.int .i64 x),.nilIface])⟩),(74,⟨Int×Int,fun x=>(.tuple #[(.int .i32 x.1),(.int .i64 x.2)])⟩),(81,pBlk),(85,⟨Int,fun x=>(.tuple #[(.int .i64 x),.nilIface])⟩),(88,⟨Int,fun x=>(.tuple #[(.int .i64 x),.nilIface])⟩),(91,⟨Int,fun x=>(.tuple #[(.int .i64 x),.nilIface])⟩),(94,⟨Int,fun x=>(.tuple #[(.int .i64 x),.nilIface])⟩),(97,⟨Int,fun x=>(.tuple #[(.int .i64 x),.nilIface])⟩),(100,⟨Int,fun x=>(.tuple #[(.int .i64 x),.nilIface])⟩),(103,⟨Int,fun x=>(.tuple #[(.int .i64 x),.nilIface])⟩),(106,⟨Int,fun x=>(.tuple #[(.int .i64 x),.nilIface])⟩),(117,pBlk),(123,(pInt .u8)),(129,(pInt .u8)),(135,(pInt .u8)),(141,(pInt .u8)),(143,(pInt .i32)),(149,pBlk),(152,⟨Int,fun x=>(.tuple #[(.int .i64 x),.nilIface])⟩),(168,pBlk),(175,⟨Int,fun x=>(.tuple #[(.int .i64 x),.nilIface])⟩),(176,pStr),(181,⟨Int×Int×Int×ByteArray,fun x=>(.agg #[(.int .i64 x.1),(.int .i64 x.2.1),(.int .i64 x.2.2.1),(.string x.2.2.2)])⟩)],loopL [(0,[Slot.int .i64 7,Slot.int .i64 8,Slot.int .i64 9])],joinL [(64,[Slot.int .i64 7,Slot.int .i64 8,Slot.int .i64 9])],joinL [(2,[Slot.int .i64 7,Slot.int .i64 8])],joinRL [(9,[Slot.bool 46],true),(10,[Slot.bool 52],true)]⟩ [(.pointer (some ⟨src,0,none⟩)),(.int .i64 st)] H R (Eq.mp (by unfold readString.W;kernel_rfl) h)
def readBlock.W (src:Nat) (st:Int) (H:Heap) (R:Value→Heap→Prop):Prop:=
 newB H (.cells #[(.int .i64 0),(.int .i64 0),(.int .i64 0),(.string (bs []))] tq87) fun b1 H2=>
 loadW H2 false 1 ⟨src,0,none⟩ ⟨(Nat×Nat×Nat×Nat),fun x=>(.slice (some ⟨x.1,x.2.1,none⟩) x.2.2.1 x.2.2.2)⟩ fun(x3:(Nat×Nat×Nat×Nat))=>
 newB H2 (.cells #[(.slice none 0 0),(.int .i64 0),(.int .i8 0)] tq185) fun b4 H5=>
 loopK (Int×Int×Int×Unit) ((IntKind.i64.wrap (st+3)),(IntKind.i64.wrap (st+3)),(IntKind.i64.wrap (st+3)),()) H5 fun z6 H7 next8=>
 forkB (decide (z6.1≥((x3.2.2.1:Nat):Int)))
 (callW PP fq80 #[(.pointer (some ⟨src,0,none⟩)),(.int .i64 z6.2.1),(.string (bs [85,110,116,101,114,109,105,110,97,116,101,100,32,115,116,114,105,110,103,46]))] H7 pBlk fun(x9:Nat) H10=>
 storeW H10 ⟨b1,0,none⟩ [(.int .i64 0),(.int .i64 0),(.int .i64 0),(.string (bs []))] fun H11=>
 retK (consO (loadC H11 true 4 ⟨b1,0,none⟩) ((consO (some (.iface tq49 (.pointer (some ⟨x9,0,none⟩)))) (some [])))) H11 R)
 (callW PP fq92 #[(.slice (some ⟨x3.1,x3.2.1,none⟩) x3.2.2.1 x3.2.2.2),(.int .i64 z6.1)] H7 ⟨Int×Int,fun x=>(.tuple #[(.int .i32 x.1),(.int .i64 x.2)])⟩ fun(x12:Int×Int) H13=>
 joinK (Unit) (fun J14=>
 forkB (x12.1==34)
 (callW PP fq92 #[(.slice (some ⟨x3.1,x3.2.1,none⟩) x3.2.2.1 x3.2.2.2),(.int .i64 (IntKind.i64.wrap (z6.1+1)))] H13 ⟨Int×Int,fun x=>(.tuple #[(.int .i32 x.1),(.int .i64 x.2)])⟩ fun(x17:Int×Int) H18=>
 callW PP fq92 #[(.slice (some ⟨x3.1,x3.2.1,none⟩) x3.2.2.1 x3.2.2.2),(.int .i64 (IntKind.i64.wrap (z6.1+2)))] H18 ⟨Int×Int,fun x=>(.tuple #[(.int .i32 x.1),(.int .i64 x.2)])⟩ fun(x19:Int×Int) H20=>
 joinPK (Bool×Unit) H20 (fun J21=>
 forkB (x17.1==34)
 (J21 ((x19.1==34),()) H20)
 (J21 (false,()) H20)) fun y22=>
 forkB y22.1
 ((((0:Int)≤z6.1∧z6.1≤((x3.2.2.2:Nat):Int))∧((0:Int)≤z6.2.2.1∧z6.2.2.1≤((z6.1.toNat:Nat):Int)))∧
 callW PP fq123 #[(.pointer (some ⟨b4,0,none⟩)),(.slice (some ⟨x3.1,(slcO x3.2.1 x3.2.2.2 z6.2.2.1.toNat 1),none⟩) (z6.1.toNat -z6.2.2.1.toNat) (x3.2.2.2 -z6.2.2.1.toNat))] H20 ⟨Int,fun x=>(.tuple #[(.int .i64 x),.nilIface])⟩ fun(_x23:Int) H24=>
 callW PP fq125 #[(.pointer (some ⟨b4,0,none⟩))] H24 pStr fun(x25:ByteArray) H26=>
 callW PP fq124 #[(.string x25)] H26 pStr fun(x27:ByteArray) H28=>
 callW PP fq91 #[(.int .i64 19),(.int .i64 st),(.int .i64 (IntKind.i64.wrap (z6.1+3))),(.string x27)] H28 ⟨Int×Int×Int×ByteArray,fun x=>(.agg #[(.int .i64 x.1),(.int .i64 x.2.1),(.int .i64 x.2.2.1),(.string x.2.2.2)])⟩ fun(x29:Int×Int×Int×ByteArray) H30=>
 storeW H30 ⟨b1,0,none⟩ [(.int .i64 x29.1),(.int .i64 x29.2.1),(.int .i64 x29.2.2.1),(.string x29.2.2.2)] fun H31=>
 retK (consO (loadC H31 true 4 ⟨b1,0,none⟩) ((consO (some .nilIface) (some [])))) H31 R)
 (J14 (()) H20))
 (J14 (()) H13)) fun _y15 H16=>
 joinPK (Bool×Unit) H16 (fun J32=>
 forkB (decide (x12.1<32))
 (forkB (x12.1 !=9)
 (forkB (x12.1 !=10)
 (J32 ((x12.1 !=13),()) H16)
 (J32 (false,()) H16))
 (J32 (false,()) H16))
 (J32 (false,()) H16)) fun y33=>
 forkB y33.1
 (callW PP fq80 #[(.pointer (some ⟨src,0,none⟩)),(.int .i64 z6.2.1),(.string (bs [73,110,118,97,108,105,100,32,99,104,97,114,97,99,116,101,114,32,119,105,116,104,105,110,32,83,116,114,105,110,103,58,32,37,118,46]))] H16 pBlk fun(x34:Nat) H35=>
 storeW H35 ⟨b1,0,none⟩ [(.int .i64 0),(.int .i64 0),(.int .i64 0),(.string (bs []))] fun H36=>
 retK (consO (loadC H36 true 4 ⟨b1,0,none⟩) ((consO (some (.iface tq49 (.pointer (some ⟨x34,0,none⟩)))) (some [])))) H36 R)
 (joinK (Int×Int×Int×Unit) (fun J37=>
 forkB (x12.1==92)
 (callW PP fq92 #[(.slice (some ⟨x3.1,x3.2.1,none⟩) x3.2.2.1 x3.2.2.2),(.int .i64 (IntKind.i64.wrap (z6.1+1)))] H16 ⟨Int×Int,fun x=>(.tuple #[(.int .i32 x.1),(.int .i64 x.2)])⟩ fun(x40:Int×Int) H41=>
 callW PP fq92 #[(.slice (some ⟨x3.1,x3.2.1,none⟩) x3.2.2.1 x3.2.2.2),(.int .i64 (IntKind.i64.wrap (z6.1+2)))] H41 ⟨Int×Int,fun x=>(.tuple #[(.int .i32 x.1),(.int .i64 x.2)])⟩ fun(x42:Int×Int) H43=>
 callW PP fq92 #[(.slice (some ⟨x3.1,x3.2.1,none⟩) x3.2.2.1 x3.2.2.2),(.int .i64 (IntKind.i64.wrap (z6.1+3)))] H43 ⟨Int×Int,fun x=>(.tuple #[(.int .i32 x.1),(.int .i64 x.2)])⟩ fun(x44:Int×Int) H45=>
 joinPK (Bool×Unit) H45 (fun J46=>
 forkB (x40.1==34)
 (forkB (x42.1==34)
 (J46 ((x44.1==34),()) H45)
 (J46 (false,()) H45))
 (J46 (false,()) H45)) fun y47=>
 forkB y47.1
 ((((0:Int)≤z6.1∧z6.1≤((x3.2.2.2:Nat):Int))∧((0:Int)≤z6.2.2.1∧z6.2.2.1≤((z6.1.toNat:Nat):Int)))∧
 newB H45 (.cells #[(.int .u8 34),(.int .u8 34),(.int .u8 34)] tq5) fun _b48 _H49=>
 False)
 (J37 (z6.1,z6.2.1,z6.2.2.1,()) H45))
 (J37 (z6.1,z6.2.1,z6.2.2.1,()) H16)) fun y38 H39=>
 next8 ((IntKind.i64.wrap (y38.1+x12.2)),(IntKind.i64.wrap (y38.2.1+1)),y38.2.2.1,()) H39))
theorem readBlock.enter (src:Nat) (st:Int) (H:Heap) (R:Value→Heap→Prop) (h:readBlock.W src st H R):Fn PP fq95 #[(.pointer (some ⟨src,0,none⟩)),(.int .i64 st)] H R:=
 fnS mixed Tryz.func95 ⟨patL [(29,⟨(Nat×Nat×Nat×Nat),fun x=>(.slice (some ⟨x.1,x.2.1,none⟩) x.2.2.1 x.2.2.2)⟩),(42,⟨Int×Int,fun x=>(.tuple #[(.int .i32 x.1),(.int .i64 x.2)])⟩),(51,⟨Int×Int,fun x=>(.tuple #[(.int .i32 x.1),(.int .i64 x.2)])⟩),(58,⟨Int×Int,fun x=>(.tuple #[(.int .i32 x.1),(.int .i64 x.2)])⟩),(72,⟨Int,fun x=>(.tuple #[(.int .i64 x),.nilIface])⟩),(73,pStr),(74,pStr),(79,⟨Int×Int×Int×ByteArray,fun x=>(.agg #[(.int .i64 x.1),(.int .i64 x.2.1),(.int .i64 x.2.2.1),(.string x.2.2.2)])⟩),(97,pBlk),(105,⟨Int×Int,fun x=>(.tuple #[(.int .i32 x.1),(.int .i64 x.2)])⟩),(112,⟨Int×Int,fun x=>(.tuple #[(.int .i32 x.1),(.int .i64 x.2)])⟩),(119,⟨Int×Int,fun x=>(.tuple #[(.int .i32 x.1),(.int .i64 x.2)])⟩),(154,pBlk)],loopL [(0,[Slot.int .i64 7,Slot.int .i64 8,Slot.int .i64 9])],joinL [(46,[]),(100,[Slot.int .i64 7,Slot.int .i64 8,Slot.int .i64 9])],joinL [],joinRL [(11,[Slot.bool 66],true),(16,[Slot.bool 93],true),(22,[Slot.bool 131],true)]⟩ [(.pointer (some ⟨src,0,none⟩)),(.int .i64 st)] H R (Eq.mp (by unfold readBlock.W;kernel_rfl) h)
def blockSV.W (s:ByteArray) (H:Heap) (R:Value→Heap→Prop):Prop:=
 callW PP fq163 #[(.string s)] H pSlc fun(x1:(Option Addr×Nat×Nat)) H2=>
 joinK (Int×Unit) (fun J3=>
 loopK (Int×Int×Unit) ((-1),1,()) H2 fun z6 H7 next8=>
 forkB (decide (z6.2.1<((x1.2.1:Nat):Int)))
 ((IxOk x1.1 z6.2.1 x1.2.1)∧
 loadW H7 false 1 ⟨(blkOf x1.1),(offOf x1.1+z6.2.1.toNat*1),none⟩ pStr fun(x9:ByteArray)=>
 callW PP fq164 #[(.string x9)] H7 (pInt .i64) fun(x10:Int) H11=>
 joinPK (Bool×Unit) H11 (fun J12=>
 forkB (decide (x10<((x9.size:Nat):Int)))
 (forkB (z6.1==(-1))
 (J12 (true,()) H11)
 (J12 ((decide (x10<z6.1)),()) H11))
 (J12 (false,()) H11)) fun y13=>
 joinK (Int×Unit) (fun J14=>
 forkB y13.1
 (forkB (x10==0)
 (J3 (x10,()) H11)
 (J14 (x10,()) H11))
 (J14 (z6.1,()) H11)) fun y15 H16=>
 next8 (y15.1,(IntKind.i64.wrap (z6.2.1+1)),()) H16)
 (J3 (z6.1,()) H7)) fun y4 H5=>
 joinK (Unit) (fun J17=>
 forkB (decide (y4.1>0))
 (loopK (Int×Unit) (0,()) H5 fun z20 H21 next22=>
 forkB (decide (z20.1<((x1.2.1:Nat):Int)))
 ((IxOk x1.1 z20.1 x1.2.1)∧
 loadW H21 false 1 ⟨(blkOf x1.1),(offOf x1.1+z20.1.toNat*1),none⟩ pStr fun(x23:ByteArray)=>
 forkB (decide (y4.1>((x23.size:Nat):Int)))
 (next22 ((IntKind.i64.wrap (z20.1+1)),()) H21)
 (((0:Int)≤y4.1∧y4.1≤((x23.size:Nat):Int))∧
 (IxOk x1.1 z20.1 x1.2.1)∧
 storeW H21 ⟨(blkOf x1.1),(offOf x1.1+z20.1.toNat*1),none⟩ [(.string (x23.extract y4.1.toNat x23.size))] fun H24=>
 next22 ((IntKind.i64.wrap (z20.1+1)),()) H24))
 (J17 (()) H21))
 (J17 (()) H5)) fun _y18 H19=>
 joinK ((Option Addr×Nat×Nat)×Unit) (fun J25=>
 loopK ((Option Addr×Nat×Nat)×Unit) ((x1.1,x1.2.1,x1.2.2),()) H19 fun z28 H29 next30=>
 joinK (Bool×Unit) (fun J31=>
 forkB (decide (((z28.1.2.1:Nat):Int)>0))
 ((IxOk z28.1.1 0 z28.1.2.1)∧
 loadW H29 false 1 ⟨(blkOf z28.1.1),(offOf z28.1.1+(0:Int).toNat*1),none⟩ pStr fun(x34:ByteArray)=>
 callW PP fq165 #[(.string x34)] H29 pBool fun(x35:Bool) H36=>
 J31 (x35,()) H36)
 (J31 (false,()) H29)) fun y32 H33=>
 forkB y32.1
 (((0:Int)≤1∧1≤((z28.1.2.1:Nat):Int))∧
 next30 (((slcA z28.1.1 z28.1.2.2 (1:Int).toNat 1),(z28.1.2.1 -(1:Int).toNat),(z28.1.2.2 -(1:Int).toNat)),()) H33)
 (J25 ((z28.1.1,z28.1.2.1,z28.1.2.2),()) H33)) fun y26 H27=>
 loopK ((Option Addr×Nat×Nat)×Unit) ((y26.1.1,y26.1.2.1,y26.1.2.2),()) H27 fun z37 H38 next39=>
 joinK (Bool×Unit) (fun J40=>
 forkB (decide (((z37.1.2.1:Nat):Int)>0))
 ((IxOk z37.1.1 (IntKind.i64.wrap (((z37.1.2.1:Nat):Int) -1)) z37.1.2.1)∧
 loadW H38 false 1 ⟨(blkOf z37.1.1),(offOf z37.1.1+(IntKind.i64.wrap (((z37.1.2.1:Nat):Int) -1)).toNat*1),none⟩ pStr fun(x43:ByteArray)=>
 callW PP fq165 #[(.string x43)] H38 pBool fun(x44:Bool) H45=>
 J40 (x44,()) H45)
 (J40 (false,()) H38)) fun y41 H42=>
 forkB y41.1
 (((0:Int)≤(IntKind.i64.wrap (((z37.1.2.1:Nat):Int) -1))∧(IntKind.i64.wrap (((z37.1.2.1:Nat):Int) -1))≤((z37.1.2.2:Nat):Int))∧
 ((0:Int)≤(IntKind.i64.wrap ((IntKind.i64.wrap (((z37.1.2.1:Nat):Int) -1))+1))∧(IntKind.i64.wrap ((IntKind.i64.wrap (((z37.1.2.1:Nat):Int) -1))+1))≤((z37.1.2.1:Nat):Int))∧
 appK H42 tq9 1 16 (slcA z37.1.1 z37.1.2.2 0 1) (IntKind.i64.wrap (((z37.1.2.1:Nat):Int) -1)).toNat z37.1.2.2 (slcA z37.1.1 z37.1.2.2 (IntKind.i64.wrap ((IntKind.i64.wrap (((z37.1.2.1:Nat):Int) -1))+1)).toNat 1) (z37.1.2.1 -(IntKind.i64.wrap ((IntKind.i64.wrap (((z37.1.2.1:Nat):Int) -1))+1)).toNat) fun a46 c47 H48=>
 next39 ((a46,((IntKind.i64.wrap (((z37.1.2.1:Nat):Int) -1)).toNat+(z37.1.2.1 -(IntKind.i64.wrap ((IntKind.i64.wrap (((z37.1.2.1:Nat):Int) -1))+1)).toNat)),c47),()) H48)
 (callW PP fq166 #[(.slice z37.1.1 z37.1.2.1 z37.1.2.2),(.string (bs [10]))] H42 pStr fun(x49:ByteArray) H50=>
 retK (some [(.string x49)]) H50 R)
theorem blockSV.enter (s:ByteArray) (H:Heap) (R:Value→Heap→Prop) (h:blockSV.W s H R):Fn PP fq124 #[(.string s)] H R:=
 fnS mixed Tryz.func124 ⟨patL [(12,pSlc),(22,pStr),(24,(pInt .i64)),(49,pStr),(67,pStr),(68,pBool),(81,pStr),(82,pBool),(96,pStr)],loopL [(0,[Slot.int .i64 4,Slot.int .i64 5]),(2,[Slot.int .i64 45]),(4,[Slot.slc 3]),(6,[Slot.slc 3])],joinL [(37,[Slot.int .i64 4]),(42,[])],joinL [(0,[Slot.int .i64 4]),(4,[Slot.slc 3])],joinRL [(8,[Slot.bool 37],true),(18,[Slot.bool 69],false),(20,[Slot.bool 83],false)]⟩ [(.string s)] H R (Eq.mp (by unfold blockSV.W;kernel_rfl) h)
def lay7_32_ren:Go.Shelf.Ren:=⟨fun|32=>121|49=>160|n=>n,fun|30=>66|21=>21|3=>3|0=>0|5=>5|4=>4|33=>152|66=>347|25=>174|69=>350|68=>349|n=>n,fun|2=>0|3=>1|n=>n⟩
theorem lay7_32:Go.Proofs.Lays7.n32 Tryz.prog lay7_32_ren:= {
 mixed:=by kernel_rfl,
 f32:=Tryz.func121.trans (congrArg some (by kernel_rfl)),
 f49:=Tryz.func160.trans (congrArg some (by kernel_rfl)),
 t0:=Tryz.underlying0,
 a0:=Tryz.isAgg0,
 z0:=Tryz.sizeOf0,
 v0:=Tryz.zeroValue0,
 i0:=by kernel_rfl,
 t3:=Tryz.underlying3,
 a3:=Tryz.isAgg3,
 z3:=Tryz.sizeOf3,
 v3:=Tryz.zeroValue3,
 i3:=by kernel_rfl,
 t4:=Tryz.underlying4,
 a4:=Tryz.isAgg4,
 z4:=Tryz.sizeOf4,
 v4:=Tryz.zeroValue4,
 i4:=by kernel_rfl,
 t5:=Tryz.underlying5,
 a5:=Tryz.isAgg5,
 z5:=Tryz.sizeOf5,
 v5:=Tryz.zeroValue5,
 i5:=by kernel_rfl,
 t21:=Tryz.underlying21,
 a21:=Tryz.isAgg21,
 z21:=Tryz.sizeOf21,
 v21:=Tryz.zeroValue21,
 i21:=by kernel_rfl,
 t25:=Tryz.underlying174,
 a25:=Tryz.isAgg174,
 z25:=Tryz.sizeOf174,
 v25:=Tryz.zeroValue174,
 i25:=by kernel_rfl,
 t30:=Tryz.underlying66,
 a30:=Tryz.isAgg66,
 z30:=Tryz.sizeOf66,
 v30:=Tryz.zeroValue66,
 i30:=by kernel_rfl,
 t33:=Tryz.underlying152,
 a33:=Tryz.isAgg152,
 z33:=Tryz.sizeOf152,
 v33:=Tryz.zeroValue152,
 i33:=by kernel_rfl,
 t66:=Tryz.underlying347,
 a66:=Tryz.isAgg347,
 z66:=Tryz.sizeOf347,
 t68:=Tryz.underlying349,
 a68:=Tryz.isAgg349,
 z68:=Tryz.sizeOf349,
 v68:=Tryz.zeroValue349,
 i68:=by kernel_rfl,
 t69:=Tryz.underlying350,
 a69:=Tryz.isAgg350,
 z69:=Tryz.sizeOf350,
 v69:=Tryz.zeroValue350,
 i69:=by kernel_rfl,
 g2:=by kernel_rfl,
 g3:=by kernel_rfl}
def lay180_ren:Go.Shelf.Ren:=⟨fun|180=>123|251=>161|252=>162|181=>192|184=>193|290=>194|324=>206|n=>n,fun|130=>281|37=>66|3=>3|75=>42|0=>0|93=>185|91=>183|131=>23|4=>4|20=>20|5=>5|80=>77|9=>9|n=>n,fun|14=>2|n=>n⟩
theorem lay180:Go.Proofs.LaysM.n180 Tryz.prog lay180_ren:= {
 mixed:=by kernel_rfl,
 f180:=Tryz.func123.trans (congrArg some (by kernel_rfl)),
 f181:=Tryz.func192.trans (congrArg some (by kernel_rfl)),
 f184:=Tryz.func193.trans (congrArg some (by kernel_rfl)),
 f251:=Tryz.func161.trans (congrArg some (by kernel_rfl)),
 f252:=Tryz.func162.trans (congrArg some (by kernel_rfl)),
 f290:=Tryz.func194.trans (congrArg some (by kernel_rfl)),
 f324:=Tryz.func206.trans (congrArg some (by kernel_rfl)),
 t0:=Tryz.underlying0,
 a0:=Tryz.isAgg0,
 z0:=Tryz.sizeOf0,
 v0:=Tryz.zeroValue0,
 t3:=Tryz.underlying3,
 a3:=Tryz.isAgg3,
 z3:=Tryz.sizeOf3,
 v3:=Tryz.zeroValue3,
 t4:=Tryz.underlying4,
 a4:=Tryz.isAgg4,
 z4:=Tryz.sizeOf4,
 v4:=Tryz.zeroValue4,
 t20:=Tryz.underlying20,
 a20:=Tryz.isAgg20,
 z20:=Tryz.sizeOf20,
 v20:=Tryz.zeroValue20,
 t37:=Tryz.underlying66,
 a37:=Tryz.isAgg66,
 z37:=Tryz.sizeOf66,
 v37:=Tryz.zeroValue66,
 t75:=Tryz.underlying42,
 a75:=Tryz.isAgg42,
 z75:=Tryz.sizeOf42,
 v75:=Tryz.zeroValue42,
 t91:=Tryz.underlying183,
 a91:=Tryz.isAgg183,
 z91:=Tryz.sizeOf183,
 v91:=Tryz.zeroValue183,
 t93:=Tryz.underlying185,
 a93:=Tryz.isAgg185,
 z93:=Tryz.sizeOf185,
 v93:=Tryz.zeroValue185,
 t130:=Tryz.underlying281,
 a130:=Tryz.isAgg281,
 z130:=Tryz.sizeOf281,
 v130:=Tryz.zeroValue281,
 t131:=Tryz.underlying23,
 a131:=Tryz.isAgg23,
 z131:=Tryz.sizeOf23,
 v131:=Tryz.zeroValue23,
 g14:=by kernel_rfl,
 t5:=Tryz.underlying5,
 a5:=Tryz.isAgg5,
 z5:=Tryz.sizeOf5,
 v5:=Tryz.zeroValue5,
 t9:=Tryz.underlying9,
 a9:=Tryz.isAgg9,
 z9:=Tryz.sizeOf9,
 v9:=Tryz.zeroValue9,
 t80:=Tryz.underlying77,
 a80:=Tryz.isAgg77,
 z80:=Tryz.sizeOf77,
 v80:=Tryz.zeroValue77,
 i0:=by kernel_rfl,
 i3:=by kernel_rfl,
 i4:=by kernel_rfl,
 i5:=by kernel_rfl,
 i9:=by kernel_rfl,
 i20:=by kernel_rfl,
 i37:=by kernel_rfl,
 i75:=by kernel_rfl,
 i80:=by kernel_rfl,
 i91:=by kernel_rfl,
 i93:=by kernel_rfl,
 i130:=by kernel_rfl,
 i131:=by kernel_rfl,
 m14:=by kernel_rfl}
def lay182_ren:Go.Shelf.Ren:=⟨fun|182=>125|n=>n,fun|130=>281|9=>9|4=>4|0=>0|93=>185|37=>66|3=>3|91=>183|5=>5|n=>n,fun|n=>n⟩
theorem lay182:Go.Proofs.LaysM.n182 Tryz.prog lay182_ren:= {
 mixed:=by kernel_rfl,
 f182:=Tryz.func125.trans (congrArg some (by kernel_rfl)),
 t0:=Tryz.underlying0,
 a0:=Tryz.isAgg0,
 z0:=Tryz.sizeOf0,
 v0:=Tryz.zeroValue0,
 t3:=Tryz.underlying3,
 a3:=Tryz.isAgg3,
 z3:=Tryz.sizeOf3,
 v3:=Tryz.zeroValue3,
 t4:=Tryz.underlying4,
 a4:=Tryz.isAgg4,
 z4:=Tryz.sizeOf4,
 v4:=Tryz.zeroValue4,
 t9:=Tryz.underlying9,
 a9:=Tryz.isAgg9,
 z9:=Tryz.sizeOf9,
 v9:=Tryz.zeroValue9,
 t37:=Tryz.underlying66,
 a37:=Tryz.isAgg66,
 z37:=Tryz.sizeOf66,
 v37:=Tryz.zeroValue66,
 t93:=Tryz.underlying185,
 a93:=Tryz.isAgg185,
 z93:=Tryz.sizeOf185,
 v93:=Tryz.zeroValue185,
 t130:=Tryz.underlying281,
 a130:=Tryz.isAgg281,
 z130:=Tryz.sizeOf281,
 v130:=Tryz.zeroValue281,
 t5:=Tryz.underlying5,
 a5:=Tryz.isAgg5,
 z5:=Tryz.sizeOf5,
 v5:=Tryz.zeroValue5,
 t91:=Tryz.underlying183,
 a91:=Tryz.isAgg183,
 z91:=Tryz.sizeOf183,
 v91:=Tryz.zeroValue183,
 i0:=by kernel_rfl,
 i3:=by kernel_rfl,
 i4:=by kernel_rfl,
 i5:=by kernel_rfl,
 i9:=by kernel_rfl,
 i37:=by kernel_rfl,
 i91:=by kernel_rfl,
 i93:=by kernel_rfl,
 i130:=by kernel_rfl}
def layWr5_ren:Go.Shelf.Ren:=⟨fun|5=>126|7=>167|8=>161|9=>162|10=>168|11=>192|12=>193|13=>194|14=>198|15=>206|n=>n,fun|34=>281|21=>21|3=>3|28=>42|35=>284|4=>4|5=>5|0=>0|26=>185|24=>183|37=>23|22=>66|43=>174|20=>20|31=>77|9=>9|n=>n,fun|0=>2|n=>n⟩
theorem layWr5:Go.Proofs.LaysWr.n5 Tryz.prog layWr5_ren:= {
 mixed:=by kernel_rfl,
 f5:=Tryz.func126.trans (congrArg some (by kernel_rfl)),
 f7:=Tryz.func167.trans (congrArg some (by kernel_rfl)),
 f8:=Tryz.func161.trans (congrArg some (by kernel_rfl)),
 f9:=Tryz.func162.trans (congrArg some (by kernel_rfl)),
 f10:=Tryz.func168.trans (congrArg some (by kernel_rfl)),
 f11:=Tryz.func192.trans (congrArg some (by kernel_rfl)),
 f12:=Tryz.func193.trans (congrArg some (by kernel_rfl)),
 f13:=Tryz.func194.trans (congrArg some (by kernel_rfl)),
 f14:=Tryz.func198.trans (congrArg some (by kernel_rfl)),
 f15:=Tryz.func206.trans (congrArg some (by kernel_rfl)),
 t0:=Tryz.underlying0,
 a0:=Tryz.isAgg0,
 z0:=Tryz.sizeOf0,
 v0:=Tryz.zeroValue0,
 i0:=by kernel_rfl,
 t3:=Tryz.underlying3,
 a3:=Tryz.isAgg3,
 z3:=Tryz.sizeOf3,
 v3:=Tryz.zeroValue3,
 i3:=by kernel_rfl,
 t4:=Tryz.underlying4,
 a4:=Tryz.isAgg4,
 z4:=Tryz.sizeOf4,
 v4:=Tryz.zeroValue4,
 i4:=by kernel_rfl,
 t5:=Tryz.underlying5,
 a5:=Tryz.isAgg5,
 z5:=Tryz.sizeOf5,
 v5:=Tryz.zeroValue5,
 i5:=by kernel_rfl,
 t9:=Tryz.underlying9,
 a9:=Tryz.isAgg9,
 z9:=Tryz.sizeOf9,
 v9:=Tryz.zeroValue9,
 i9:=by kernel_rfl,
 t20:=Tryz.underlying20,
 a20:=Tryz.isAgg20,
 z20:=Tryz.sizeOf20,
 v20:=Tryz.zeroValue20,
 i20:=by kernel_rfl,
 t21:=Tryz.underlying21,
 a21:=Tryz.isAgg21,
 z21:=Tryz.sizeOf21,
 v21:=Tryz.zeroValue21,
 i21:=by kernel_rfl,
 t22:=Tryz.underlying66,
 a22:=Tryz.isAgg66,
 z22:=Tryz.sizeOf66,
 v22:=Tryz.zeroValue66,
 i22:=by kernel_rfl,
 t24:=Tryz.underlying183,
 a24:=Tryz.isAgg183,
 z24:=Tryz.sizeOf183,
 v24:=Tryz.zeroValue183,
 i24:=by kernel_rfl,
 t26:=Tryz.underlying185,
 a26:=Tryz.isAgg185,
 z26:=Tryz.sizeOf185,
 v26:=Tryz.zeroValue185,
 i26:=by kernel_rfl,
 t28:=Tryz.underlying42,
 a28:=Tryz.isAgg42,
 z28:=Tryz.sizeOf42,
 v28:=Tryz.zeroValue42,
 i28:=by kernel_rfl,
 t31:=Tryz.underlying77,
 a31:=Tryz.isAgg77,
 z31:=Tryz.sizeOf77,
 v31:=Tryz.zeroValue77,
 i31:=by kernel_rfl,
 t34:=Tryz.underlying281,
 a34:=Tryz.isAgg281,
 z34:=Tryz.sizeOf281,
 v34:=Tryz.zeroValue281,
 i34:=by kernel_rfl,
 t35:=Tryz.underlying284,
 a35:=Tryz.isAgg284,
 z35:=Tryz.sizeOf284,
 v35:=Tryz.zeroValue284,
 i35:=by kernel_rfl,
 t37:=Tryz.underlying23,
 a37:=Tryz.isAgg23,
 z37:=Tryz.sizeOf23,
 v37:=Tryz.zeroValue23,
 i37:=by kernel_rfl,
 t43:=Tryz.underlying174,
 a43:=Tryz.isAgg174,
 z43:=Tryz.sizeOf174,
 v43:=Tryz.zeroValue174,
 i43:=by kernel_rfl,
 g0:=by kernel_rfl,
 m0:=by kernel_rfl}
def lay156_ren:Go.Shelf.Ren:=⟨fun|156=>166|165=>195|166=>196|169=>197|240=>207|241=>208|276=>210|277=>211|n=>n,fun|31=>25|9=>9|3=>3|4=>4|0=>0|20=>20|72=>355|76=>180|70=>353|37=>66|75=>42|127=>375|164=>379|5=>5|80=>77|n=>n,fun|n=>n⟩
theorem lay156:Go.Proofs.Lays.n156 Tryz.prog lay156_ren:= {
 mixed:=by kernel_rfl,
 f156:=Tryz.func166.trans (congrArg some (by kernel_rfl)),
 f165:=Tryz.func195.trans (congrArg some (by kernel_rfl)),
 f166:=Tryz.func196.trans (congrArg some (by kernel_rfl)),
 f169:=Tryz.func197.trans (congrArg some (by kernel_rfl)),
 f240:=Tryz.func207.trans (congrArg some (by kernel_rfl)),
 f241:=Tryz.func208.trans (congrArg some (by kernel_rfl)),
 f276:=Tryz.func210.trans (congrArg some (by kernel_rfl)),
 f277:=Tryz.func211.trans (congrArg some (by kernel_rfl)),
 t0:=Tryz.underlying0,
 a0:=Tryz.isAgg0,
 z0:=Tryz.sizeOf0,
 v0:=Tryz.zeroValue0,
 t3:=Tryz.underlying3,
 a3:=Tryz.isAgg3,
 z3:=Tryz.sizeOf3,
 v3:=Tryz.zeroValue3,
 t4:=Tryz.underlying4,
 a4:=Tryz.isAgg4,
 z4:=Tryz.sizeOf4,
 v4:=Tryz.zeroValue4,
 t9:=Tryz.underlying9,
 a9:=Tryz.isAgg9,
 z9:=Tryz.sizeOf9,
 v9:=Tryz.zeroValue9,
 t20:=Tryz.underlying20,
 a20:=Tryz.isAgg20,
 z20:=Tryz.sizeOf20,
 v20:=Tryz.zeroValue20,
 t31:=Tryz.underlying25,
 a31:=Tryz.isAgg25,
 z31:=Tryz.sizeOf25,
 v31:=Tryz.zeroValue25,
 t37:=Tryz.underlying66,
 a37:=Tryz.isAgg66,
 z37:=Tryz.sizeOf66,
 v37:=Tryz.zeroValue66,
 t70:=Tryz.underlying353,
 a70:=Tryz.isAgg353,
 z70:=Tryz.sizeOf353,
 v70:=Tryz.zeroValue353,
 t72:=Tryz.underlying355,
 a72:=Tryz.isAgg355,
 z72:=Tryz.sizeOf355,
 v72:=Tryz.zeroValue355,
 t75:=Tryz.underlying42,
 a75:=Tryz.isAgg42,
 z75:=Tryz.sizeOf42,
 v75:=Tryz.zeroValue42,
 t76:=Tryz.underlying180,
 a76:=Tryz.isAgg180,
 z76:=Tryz.sizeOf180,
 v76:=Tryz.zeroValue180,
 t127:=Tryz.underlying375,
 a127:=Tryz.isAgg375,
 z127:=Tryz.sizeOf375,
 v127:=Tryz.zeroValue375,
 t164:=Tryz.underlying379,
 a164:=Tryz.isAgg379,
 z164:=Tryz.sizeOf379,
 v164:=Tryz.zeroValue379}
theorem lay156X:Builder.Extra Tryz.prog lay156_ren:= {
 sizeBuilder:=by kernel_rfl,
 liesBuilder:=by kernel_rfl,
 t5:=Tryz.underlying5,
 a5:=Tryz.isAgg5,
 z5:=Tryz.sizeOf5,
 v5:=Tryz.zeroValue5,
 infoByte:=by kernel_rfl,
 cellsByte:=by kernel_rfl,
 sizeByte:=by kernel_rfl,
 neB5:=by decide}
end Go.Vx
