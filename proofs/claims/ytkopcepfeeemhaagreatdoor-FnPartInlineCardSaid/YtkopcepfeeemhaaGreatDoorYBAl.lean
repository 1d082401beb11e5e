/- A part of the proof of what the last text of this claim says: WA5. Conditions: none. -/
import Derived.Test.YtkopcepfeeemhaaGreatDoorZAc
namespace Go.Vx
open Go Go.Proofs
set_option maxRecDepth 100000
def zzFits3N.W (x:Option Addr) (xN _xC:Nat) (H:Heap) (R:RR):Prop:=
 forkB (decide (((xN:Nat):Int)>2147483647))
 (retK (some [(.bool false)]) H R)
 (loopK (Int×Unit) (0,()) H fun z1 H2 next3=>
 forkB (decide (z1.1<((xN:Nat):Int)))
 ((IxOk x z1.1 xN)∧
 loadW H2 true 6 ⟨(blkOf x),(offOf x+z1.1.toNat*6),none⟩ pNd fun(x4:Int×ByteArray×ByteArray×ByteArray×Int×Int)=>
 newB H2 (.cells #[(.int .i64 0),(.string (bs [])),(.string (bs [])),(.string (bs [])),(.int .i64 0),(.int .i64 0)] tq41) fun b5 H6=>
 storeW H6 ⟨b5,0,none⟩ [(.int .i64 x4.1),(.string x4.2.1),(.string x4.2.2.1),(.string x4.2.2.2.1),(.int .i64 x4.2.2.2.2.1),(.int .i64 x4.2.2.2.2.2)] fun H7=>
 loadW H7 true 6 ⟨b5,0,none⟩ pNd fun(x8:Int×ByteArray×ByteArray×ByteArray×Int×Int)=>
 callW PP fq28 #[(.agg #[(.int .i64 x8.1),(.string x8.2.1),(.string x8.2.2.1),(.string x8.2.2.2.1),(.int .i64 x8.2.2.2.2.1),(.int .i64 x8.2.2.2.2.2)])] H7 pBool fun(x9:Bool) H10=>
 forkB (!x9)
 (retK (some [(.bool false)]) H10 R)
 (next3 ((IntKind.i64.wrap (z1.1+1)),()) H10))
 (retK (some [(.bool true)]) H2 R))
theorem zzFits3N.enter (x:Option Addr) (xN xC:Nat) (H:Heap) (R:RR) (h:zzFits3N.W x xN xC H R):Fn PP fq15 #[(.slice x xN xC)] H R:=
 fnS mixed Tryz.func15 ⟨patL [(13,pNd),(14,pNd),(15,pBool)],loopL [(0,[Slot.int .i64 10])],joinL [],joinL [],joinRL []⟩ _ H R (Eq.mp (by unfold zzFits3N.W;kernel_rfl) h)
def rightFromN.W (d:Option Addr) (dN dC:Nat) (H:Heap) (R:RR):Prop:=
 forkB (((dN:Nat):Int)==0)
 (retK (some [(.bool false)]) H R)
 (forkB (decide (((dN:Nat):Int)>400))
 (retK (some [(.bool false)]) H R)
 ((IxOk d 0 dN)∧
 loadW H false 1 ⟨(blkOf d),((offOf d+(0:Int).toNat*6)+5),none⟩ (pInt .i64) fun(x1:Int)=>
 forkB (x1 !=((dN:Nat):Int))
 (retK (some [(.bool false)]) H R)
 (callW PP fq34 #[(.slice d dN dC),(.int .i64 0),(.int .i64 ((dN:Nat):Int)),(.int .i64 0)] H pBool fun(x2:Bool) H3=>
 forkB (!x2)
 (retK (some [(.bool false)]) H3 R)
 (loopK (Int×Int×Unit) (0,0,()) H3 fun z4 H5 next6=>
 forkB (decide (z4.2.1<((dN:Nat):Int)))
 ((IxOk d z4.2.1 dN)∧
 loadW H5 false 1 ⟨(blkOf d),((offOf d+z4.2.1.toNat*6)+3),none⟩ pStr fun(x7:ByteArray)=>
 (IxOk d z4.2.1 dN)∧
 loadW H5 false 1 ⟨(blkOf d),((offOf d+z4.2.1.toNat*6)+1),none⟩ pStr fun(x8:ByteArray)=>
 (IxOk d z4.2.1 dN)∧
 loadW H5 false 1 ⟨(blkOf d),((offOf d+z4.2.1.toNat*6)+2),none⟩ pStr fun(x9:ByteArray)=>
 forkB (decide ((IntKind.i64.wrap (z4.1+(if 4001<(IntKind.i64.wrap ((IntKind.i64.wrap (((x7.size:Nat):Int)+((x8.size:Nat):Int)))+((x9.size:Nat):Int))) then 4001 else(IntKind.i64.wrap ((IntKind.i64.wrap (((x7.size:Nat):Int)+((x8.size:Nat):Int)))+((x9.size:Nat):Int))))))>4000))
 (retK (some [(.bool false)]) H5 R)
 ((IxOk d z4.2.1 dN)∧
 loadW H5 true 6 ⟨(blkOf d),(offOf d+z4.2.1.toNat*6),none⟩ pNd fun(x10:Int×ByteArray×ByteArray×ByteArray×Int×Int)=>
 callW PP fq35 #[(.agg #[(.int .i64 x10.1),(.string x10.2.1),(.string x10.2.2.1),(.string x10.2.2.2.1),(.int .i64 x10.2.2.2.2.1),(.int .i64 x10.2.2.2.2.2)])] H5 pBool fun(x11:Bool) H12=>
 forkB (!x11)
 (retK (some [(.bool false)]) H12 R)
 (callW PP fq36 #[(.slice d dN dC),(.int .i64 z4.2.1)] H12 pBool fun(x13:Bool) H14=>
 forkB (!x13)
 (retK (some [(.bool false)]) H14 R)
 (next6 ((IntKind.i64.wrap (z4.1+(if 4001<(IntKind.i64.wrap ((IntKind.i64.wrap (((x7.size:Nat):Int)+((x8.size:Nat):Int)))+((x9.size:Nat):Int))) then 4001 else(IntKind.i64.wrap ((IntKind.i64.wrap (((x7.size:Nat):Int)+((x8.size:Nat):Int)))+((x9.size:Nat):Int)))))),(IntKind.i64.wrap (z4.2.1+1)),()) H14))))
 (retK (some [(.bool true)]) H5 R)))))
theorem rightFromN.enter (d:Option Addr) (dN dC:Nat) (H:Heap) (R:RR) (h:rightFromN.W d dN dC H R):Fn PP fq29 #[(.slice d dN dC)] H R:=
 fnS mixed Tryz.func29 ⟨patL [(17,(pInt .i64)),(26,pBool),(40,pStr),(46,pStr),(53,pStr),(64,pNd),(65,pBool),(71,pBool)],loopL [(0,[Slot.int .i64 3,Slot.int .i64 4])],joinL [],joinL [],joinRL []⟩ _ H R (Eq.mp (by unfold rightFromN.W;kernel_rfl) h)
def AnyDocumentN.W (d:Option Addr) (dN dC:Nat) (H:Heap) (R:RR):Prop:=
 callW PP fq29 #[(.slice d dN dC)] H pBool fun(x1:Bool) H2=>
 forkB x1
 ((IxOk d 0 dN)∧
 loadW H2 false 1 ⟨(blkOf d),(offOf d+(0:Int).toNat*6),none⟩ (pInt .i64) fun(x3:Int)=>
 retK (some [(.bool (x3==1))]) H2 R)
 (retK (some [(.bool false)]) H2 R)
theorem AnyDocumentN.enter (d:Option Addr) (dN dC:Nat) (H:Heap) (R:RR) (h:AnyDocumentN.W d dN dC H R):Fn PP fq16 #[(.slice d dN dC)] H R:=
 fnS mixed Tryz.func16 (hz [(4,pBool),(9,(pInt .i64))]) _ H R (Eq.mp (by unfold AnyDocumentN.W;kernel_rfl) h)
def part9N.W (d:Option Addr) (dN dC:Nat) (kind:Int) (step:Int) (which:Int) (byA:Option Addr) (byAN byAC:Nat) (H:Heap) (R:RR):Prop:=
 joinK (Bool×Unit) (fun J1=>
 callW PP fq16 #[(.slice d dN dC)] H pBool fun(x4:Bool) H5=>
 forkB (!x4)
 (J1 (true,()) H5)
 (J1 ((decide (((byAN:Nat):Int)>60)),()) H5)) fun y2 H3=>
 forkB y2.1
 (retK (some [(.bool true)]) H3 R)
 (callW PP fq18 #[(.slice d dN dC),(.int .i64 kind),(.int .u8 which)] H3 ⟨Int×Bool,fun x=>(.tuple #[(.int .i64 x.1),(.bool x.2)])⟩ fun(x6:Int×Bool) H7=>
 forkB (!x6.2)
 (callW PP fq27 #[(.int .i64 26),(.string (bs [115,99,97,108,97,114,32,65]))] H7 pSIB fun(x8:Sl×Int×Bool) H9=>
 retK (some [(.bool x8.2.2)]) H9 R)
 (callW PP fq21 #[(.slice d dN dC),(.int .i64 x6.1)] H7 pSlc fun(x10:Sl) H11=>
 callW PP fq23 #[(.slice x10.1 x10.2.1 x10.2.2),(.slice byA byAN byAC)] H11 pStr fun(x12:ByteArray) H13=>
 (((x12.size+(bs [10,125]).size:Nat):Int)≤9223372036854775807)∧
 callW PP fq27 #[(.int .i64 step),(.string (x12++(bs [10,125])))] H13 pSIB fun(x14:Sl×Int×Bool) H15=>
 joinK (Bool×Unit) (fun J16=>
 forkB x14.2.2
 (forkB (x14.2.1==(IntKind.i64.wrap ((((x12++(bs [10,125])).size:Nat):Int) -1)))
 (callW PP fq22 #[(.slice d dN dC),(.int .i64 x6.1)] H15 pSlc fun(x19:Sl) H20=>
 callW PP fq24 #[(.slice x14.1.1 x14.1.2.1 x14.1.2.2),(.slice x19.1 x19.2.1 x19.2.2)] H20 pBool fun(x21:Bool) H22=>
 J16 (x21,()) H22)
 (J16 (false,()) H15))
 (J16 (false,()) H15)) fun y17 H18=>
 retK (some [(.bool y17.1)]) H18 R))
theorem part9N.enter (d:Option Addr) (dN dC:Nat) (kind:Int) (step:Int) (which:Int) (byA:Option Addr) (byAN byAC:Nat) (H:Heap) (R:RR) (h:part9N.W d dN dC kind step which byA byAN byAC H R):Fn PP fq25 #[(.slice d dN dC),(.int .i64 kind),(.int .i64 step),(.int .u8 which),(.slice byA byAN byAC)] H R:=
 fnS mixed Tryz.func25 ⟨patL [(21,pBool),(32,⟨Int×Bool,fun x=>(.tuple #[(.int .i64 x.1),(.bool x.2)])⟩),(38,pSIB),(45,pSlc),(47,pStr),(52,pSIB),(68,pSlc),(69,pBool)],loopL [],joinL [],joinL [],joinRL [(1,[Slot.bool 27],false),(9,[Slot.bool 10],false)]⟩ _ H R (Eq.mp (by unfold part9N.W;kernel_rfl) h)
def FnPartField.W (d dO dN dC:Nat) (which:Int) (byA:Option Addr) (byAN byAC:Nat) (H:Heap) (R:RR):Prop:=
 joinK (Bool×Unit) (fun J1=>
 callW PP fq15 #[(.slice (some ⟨d,dO,none⟩) dN dC)] H pBool fun(x4:Bool) H5=>
 forkB (!x4)
 (J1 (true,()) H5)
 (J1 ((decide (((byAN:Nat):Int)>2147483647)),()) H5)) fun y2 H3=>
 forkB y2.1
 (retK (some [(.bool true)]) H3 R)
 (callW PP fq25 #[(.slice (some ⟨d,dO,none⟩) dN dC),(.int .i64 6),(.int .i64 6),(.int .u8 which),(.slice byA byAN byAC)] H3 pBool fun(x6:Bool) H7=>
 retK (some [(.bool x6)]) H7 R)
theorem FnPartField.enter (d dO dN dC:Nat) (which:Int) (byA:Option Addr) (byAN byAC:Nat) (H:Heap) (R:RR) (h:FnPartField.W d dO dN dC which byA byAN byAC H R):Fn PP fq7 #[(.slice (some ⟨d,dO,none⟩) dN dC),(.int .u8 which),(.slice byA byAN byAC)] H R:=
 fnS mixed Tryz.func7 ⟨patL [(8,pBool),(18,pBool)],loopL [],joinL [],joinL [],joinRL [(1,[Slot.bool 14],false)]⟩ _ H R (Eq.mp (by unfold FnPartField.W;kernel_rfl) h)
def FnPartFieldN.W (d:Option Addr) (dN dC:Nat) (which:Int) (byA:Option Addr) (byAN byAC:Nat) (H:Heap) (R:RR):Prop:=
 joinK (Bool×Unit) (fun J1=>
 callW PP fq15 #[(.slice d dN dC)] H pBool fun(x4:Bool) H5=>
 forkB (!x4)
 (J1 (true,()) H5)
 (J1 ((decide (((byAN:Nat):Int)>2147483647)),()) H5)) fun y2 H3=>
 forkB y2.1
 (retK (some [(.bool true)]) H3 R)
 (callW PP fq25 #[(.slice d dN dC),(.int .i64 6),(.int .i64 6),(.int .u8 which),(.slice byA byAN byAC)] H3 pBool fun(x6:Bool) H7=>
 retK (some [(.bool x6)]) H7 R)
theorem FnPartFieldN.enter (d:Option Addr) (dN dC:Nat) (which:Int) (byA:Option Addr) (byAN byAC:Nat) (H:Heap) (R:RR) (h:FnPartFieldN.W d dN dC which byA byAN byAC H R):Fn PP fq7 #[(.slice d dN dC),(.int .u8 which),(.slice byA byAN byAC)] H R:=
 fnS mixed Tryz.func7 ⟨patL [(8,pBool),(18,pBool)],loopL [],joinL [],joinL [],joinRL [(1,[Slot.bool 14],false)]⟩ _ H R (Eq.mp (by unfold FnPartFieldN.W;kernel_rfl) h)
def FnPartFragment.W (d dO dN dC:Nat) (which:Int) (byA:Option Addr) (byAN byAC:Nat) (H:Heap) (R:RR):Prop:=
 joinK (Bool×Unit) (fun J1=>
 callW PP fq15 #[(.slice (some ⟨d,dO,none⟩) dN dC)] H pBool fun(x4:Bool) H5=>
 forkB (!x4)
 (J1 (true,()) H5)
 (J1 ((decide (((byAN:Nat):Int)>2147483647)),()) H5)) fun y2 H3=>
 forkB y2.1
 (retK (some [(.bool true)]) H3 R)
 (callW PP fq25 #[(.slice (some ⟨d,dO,none⟩) dN dC),(.int .i64 3),(.int .i64 3),(.int .u8 which),(.slice byA byAN byAC)] H3 pBool fun(x6:Bool) H7=>
 retK (some [(.bool x6)]) H7 R)
theorem FnPartFragment.enter (d dO dN dC:Nat) (which:Int) (byA:Option Addr) (byAN byAC:Nat) (H:Heap) (R:RR) (h:FnPartFragment.W d dO dN dC which byA byAN byAC H R):Fn PP fq8 #[(.slice (some ⟨d,dO,none⟩) dN dC),(.int .u8 which),(.slice byA byAN byAC)] H R:=
 fnS mixed Tryz.func8 ⟨patL [(8,pBool),(18,pBool)],loopL [],joinL [],joinL [],joinRL [(1,[Slot.bool 14],false)]⟩ _ H R (Eq.mp (by unfold FnPartFragment.W;kernel_rfl) h)
def FnPartFragmentN.W (d:Option Addr) (dN dC:Nat) (which:Int) (byA:Option Addr) (byAN byAC:Nat) (H:Heap) (R:RR):Prop:=
 joinK (Bool×Unit) (fun J1=>
 callW PP fq15 #[(.slice d dN dC)] H pBool fun(x4:Bool) H5=>
 forkB (!x4)
 (J1 (true,()) H5)
 (J1 ((decide (((byAN:Nat):Int)>2147483647)),()) H5)) fun y2 H3=>
 forkB y2.1
 (retK (some [(.bool true)]) H3 R)
 (callW PP fq25 #[(.slice d dN dC),(.int .i64 3),(.int .i64 3),(.int .u8 which),(.slice byA byAN byAC)] H3 pBool fun(x6:Bool) H7=>
 retK (some [(.bool x6)]) H7 R)
theorem FnPartFragmentN.enter (d:Option Addr) (dN dC:Nat) (which:Int) (byA:Option Addr) (byAN byAC:Nat) (H:Heap) (R:RR) (h:FnPartFragmentN.W d dN dC which byA byAN byAC H R):Fn PP fq8 #[(.slice d dN dC),(.int .u8 which),(.slice byA byAN byAC)] H R:=
 fnS mixed Tryz.func8 ⟨patL [(8,pBool),(18,pBool)],loopL [],joinL [],joinL [],joinRL [(1,[Slot.bool 14],false)]⟩ _ H R (Eq.mp (by unfold FnPartFragmentN.W;kernel_rfl) h)
def FnPartInline.W (d dO dN dC:Nat) (which:Int) (byA:Option Addr) (byAN byAC:Nat) (H:Heap) (R:RR):Prop:=
 joinK (Bool×Unit) (fun J1=>
 callW PP fq15 #[(.slice (some ⟨d,dO,none⟩) dN dC)] H pBool fun(x4:Bool) H5=>
 forkB (!x4)
 (J1 (true,()) H5)
 (J1 ((decide (((byAN:Nat):Int)>2147483647)),()) H5)) fun y2 H3=>
 forkB y2.1
 (retK (some [(.bool true)]) H3 R)
 (callW PP fq25 #[(.slice (some ⟨d,dO,none⟩) dN dC),(.int .i64 8),(.int .i64 7),(.int .u8 which),(.slice byA byAN byAC)] H3 pBool fun(x6:Bool) H7=>
 retK (some [(.bool x6)]) H7 R)
theorem FnPartInline.enter (d dO dN dC:Nat) (which:Int) (byA:Option Addr) (byAN byAC:Nat) (H:Heap) (R:RR) (h:FnPartInline.W d dO dN dC which byA byAN byAC H R):Fn PP fq9 #[(.slice (some ⟨d,dO,none⟩) dN dC),(.int .u8 which),(.slice byA byAN byAC)] H R:=
 fnS mixed Tryz.func9 ⟨patL [(8,pBool),(18,pBool)],loopL [],joinL [],joinL [],joinRL [(1,[Slot.bool 14],false)]⟩ _ H R (Eq.mp (by unfold FnPartInline.W;kernel_rfl) h)
def FnPartInlineN.W (d:Option Addr) (dN dC:Nat) (which:Int) (byA:Option Addr) (byAN byAC:Nat) (H:Heap) (R:RR):Prop:=
 joinK (Bool×Unit) (fun J1=>
 callW PP fq15 #[(.slice d dN dC)] H pBool fun(x4:Bool) H5=>
 forkB (!x4)
 (J1 (true,()) H5)
 (J1 ((decide (((byAN:Nat):Int)>2147483647)),()) H5)) fun y2 H3=>
 forkB y2.1
 (retK (some [(.bool true)]) H3 R)
 (callW PP fq25 #[(.slice d dN dC),(.int .i64 8),(.int .i64 7),(.int .u8 which),(.slice byA byAN byAC)] H3 pBool fun(x6:Bool) H7=>
 retK (some [(.bool x6)]) H7 R)
theorem FnPartInlineN.enter (d:Option Addr) (dN dC:Nat) (which:Int) (byA:Option Addr) (byAN byAC:Nat) (H:Heap) (R:RR) (h:FnPartInlineN.W d dN dC which byA byAN byAC H R):Fn PP fq9 #[(.slice d dN dC),(.int .u8 which),(.slice byA byAN byAC)] H R:=
 fnS mixed Tryz.func9 ⟨patL [(8,pBool),(18,pBool)],loopL [],joinL [],joinL [],joinRL [(1,[Slot.bool 14],false)]⟩ _ H R (Eq.mp (by unfold FnPartInlineN.W;kernel_rfl) h)
def FnPartOperation.W (d dO dN dC:Nat) (which:Int) (byA:Option Addr) (byAN byAC:Nat) (H:Heap) (R:RR):Prop:=
 joinK (Bool×Unit) (fun J1=>
 callW PP fq15 #[(.slice (some ⟨d,dO,none⟩) dN dC)] H pBool fun(x4:Bool) H5=>
 forkB (!x4)
 (J1 (true,()) H5)
 (J1 ((decide (((byAN:Nat):Int)>2147483647)),()) H5)) fun y2 H3=>
 forkB y2.1
 (retK (some [(.bool true)]) H3 R)
 (callW PP fq25 #[(.slice (some ⟨d,dO,none⟩) dN dC),(.int .i64 2),(.int .i64 2),(.int .u8 which),(.slice byA byAN byAC)] H3 pBool fun(x6:Bool) H7=>
 retK (some [(.bool x6)]) H7 R)
theorem FnPartOperation.enter (d dO dN dC:Nat) (which:Int) (byA:Option Addr) (byAN byAC:Nat) (H:Heap) (R:RR) (h:FnPartOperation.W d dO dN dC which byA byAN byAC H R):Fn PP fq13 #[(.slice (some ⟨d,dO,none⟩) dN dC),(.int .u8 which),(.slice byA byAN byAC)] H R:=
 fnS mixed Tryz.func13 ⟨patL [(8,pBool),(18,pBool)],loopL [],joinL [],joinL [],joinRL [(1,[Slot.bool 14],false)]⟩ _ H R (Eq.mp (by unfold FnPartOperation.W;kernel_rfl) h)
def FnPartOperationN.W (d:Option Addr) (dN dC:Nat) (which:Int) (byA:Option Addr) (byAN byAC:Nat) (H:Heap) (R:RR):Prop:=
 joinK (Bool×Unit) (fun J1=>
 callW PP fq15 #[(.slice d dN dC)] H pBool fun(x4:Bool) H5=>
 forkB (!x4)
 (J1 (true,()) H5)
 (J1 ((decide (((byAN:Nat):Int)>2147483647)),()) H5)) fun y2 H3=>
 forkB y2.1
 (retK (some [(.bool true)]) H3 R)
 (callW PP fq25 #[(.slice d dN dC),(.int .i64 2),(.int .i64 2),(.int .u8 which),(.slice byA byAN byAC)] H3 pBool fun(x6:Bool) H7=>
 retK (some [(.bool x6)]) H7 R)
theorem FnPartOperationN.enter (d:Option Addr) (dN dC:Nat) (which:Int) (byA:Option Addr) (byAN byAC:Nat) (H:Heap) (R:RR) (h:FnPartOperationN.W d dN dC which byA byAN byAC H R):Fn PP fq13 #[(.slice d dN dC),(.int .u8 which),(.slice byA byAN byAC)] H R:=
 fnS mixed Tryz.func13 ⟨patL [(8,pBool),(18,pBool)],loopL [],joinL [],joinL [],joinRL [(1,[Slot.bool 14],false)]⟩ _ H R (Eq.mp (by unfold FnPartOperationN.W;kernel_rfl) h)
end Go.Vx
