/- A part of the proof of what the last text of this claim says: WA5. Conditions: none. -/
import Derived.Test.YtkopcepfeeemhaaGreatDoorZAc
namespace Go.Vx
open Go Go.Proofs
set_option maxRecDepth 100000
def zzFits3N.W (x:Option Addr) (xN _xC:Nat) (H:Heap) (R:RR):Prop:=
 forkB (decide (((xN:Nat):Int)>2147483647))
 (retK (some [(.bool false)]) H R)
 (loopK (Int×Unit) (0,()) H fun z1 H2 next3=>
 forkB (decide (z1.1<((xN:Nat):Int)))
 ((IxOk x z1.1 xN)∧
 loadW H2 true 6 ⟨(blkOf x),(offOf x+z1.1.toNat*6),none⟩ pNd fun(x4:Int×ByteArray×ByteArray×ByteArray×Int×Int)=>
 newB H2 (.cells #[(.int .i64 0),(.string (bs [])),(.string (bs [])),(.string (bs [])),(.int .i64 0),(.int .i64 0)] tq41) fun b5 H6=>
 storeW H6 ⟨b5,0,none⟩ [(.int .i64 x4.1),(.string x4.2.1),(.string x4.2.2.1),(.string x4.2.2.2.1),(.int .i64 x4.2.2.2.2.1),(.int .i64 x4.2.2.2.2.2)] fun H7=>
 loadW H7 true 6 ⟨b5,0,none⟩ pNd fun(x8:Int×ByteArray×ByteArray×ByteArray×Int×Int)=>
 callW PP fq28 #[(.agg #[(.int .i64 x8.1),(.string x8.2.1),(.string x8.2.2.1),(.string x8.2.2.2.1),(.int .i64 x8.2.2.2.2.1),(.int .i64 x8.2.2.2.2.2)])] H7 pBool fun(x9:Bool) H10=>
 forkB (!x9)
 (retK (some [(.bool false)]) H10 R)
 (next3 ((IntKind.i64.wrap (z1.1+1)),()) H10))
 (retK (some [(.bool true)]) H2 R))
theorem zzFits3N.enter (x:Option Addr) (xN xC:Nat) (H:Heap) (R:RR) (h:zzFits3N.W x xN xC H R):Fn PP fq15 #[(.slice x xN xC)] H R:=
 fnS mixed Tryz.func15 ⟨patL [(13,pNd),(14,pNd),(15,pBool)],loopL [(0,[Slot.int .i64 10])],joinL [],joinL [],joinRL []⟩ _ H R (Eq.mp (by unfold zzFits3N.W;kernel_rfl) h)
def rightFromN.W (d:Option Addr) (dN dC:Nat) (H:Heap) (R:RR):Prop:=
 forkB (((dN:Nat):Int)==0)
 (retK (some [(.bool false)]) H R)
 (forkB (decide (((dN:Nat):Int)>400))
 (retK (some [(.bool false)]) H R)
 ((IxOk d 0 dN)∧
 loadW H false 1 ⟨(blkOf d),((offOf d+(0:Int).toNat*6)+5),none⟩ (pInt .i64) fun(x1:Int)=>
 forkB (x1 !=((dN:Nat):Int))
 (retK (some [(.bool false)]) H R)
 (callW PP fq34 #[(.slice d dN dC),(.int .i64 0),(.int .i64 ((dN:Nat):Int)),(.int .i64 0)] H pBool fun(x2:Bool) H3=>
 forkB (!x2)
 (retK (some [(.bool false)]) H3 R)
 (loopK (Int×Int×Unit) (0,0,()) H3 fun z4 H5 next6=>
 forkB (decide (z4.2.1<((dN:Nat):Int)))
 ((IxOk d z4.2.1 dN)∧
 loadW H5 false 1 ⟨(blkOf d),((offOf d+z4.2.1.toNat*6)+3),none⟩ pStr fun(x7:ByteArray)=>
 (IxOk d z4.2.1 dN)∧
 loadW H5 false 1 ⟨(blkOf d),((offOf d+z4.2.1.toNat*6)+1),none⟩ pStr fun(x8:ByteArray)=>
 (IxOk d z4.2.1 dN)∧
 loadW H5 false 1 ⟨(blkOf d),((offOf d+z4.2.1.toNat*6)+2),none⟩ pStr fun(x9:ByteArray)=>
 forkB (decide ((IntKind.i64.wrap (z4.1+(if 4001<(IntKind.i64.wrap ((IntKind.i64.wrap (((x7.size:Nat):Int)+((x8.size:Nat):Int)))+((x9.size:Nat):Int))) then 4001 else(IntKind.i64.wrap ((IntKind.i64.wrap (((x7.size:Nat):Int)+((x8.size:Nat):Int)))+((x9.size:Nat):Int))))))>4000))
 (retK (some [(.bool false)]) H5 R)
 ((IxOk d z4.2.1 dN)∧
 loadW H5 true 6 ⟨(blkOf d),(offOf d+z4.2.1.toNat*6),none⟩ pNd fun(x10:Int×ByteArray×ByteArray×ByteArray×Int×Int)=>
 callW PP fq35 #[(.agg #[(.int .i64 x10.1),(.string x10.2.1),(.string x10.2.2.1),(.string x10.2.2.2.1),(.int .i64 x10.2.2.2.2.1),(.int .i64 x10.2.2.2.2.2)])] H5 pBool fun(x11:Bool) H12=>
 forkB (!x11)
 (retK (some [(.bool false)]) H12 R)
 (callW PP fq36 #[(.slice d dN dC),(.int .i64 z4.2.1)] H12 pBool fun(x13:Bool) H14=>
 forkB (!x13)
 (retK (some [(.bool false)]) H14 R)
 (next6 ((IntKind.i64.wrap (z4.1+(if 4001<(IntKind.i64.wrap ((IntKind.i64.wrap (((x7.size:Nat):Int)+((x8.size:Nat):Int)))+((x9.size:Nat):Int))) then 4001 else(IntKind.i64.wrap ((IntKind.i64.wrap (((x7.size:Nat):Int)+((x8.size:Nat):Int)))+((x9.size:Nat):Int)))))),(IntKind.i64.wrap (z4.2.1+1)),()) H14))))
 (retK (some [(.bool true)]) H5 R)))))
theorem rightFromN.enter (d:Option Addr) (dN dC:Nat) (H:Heap) (R:RR) (h:rightFromN.W d dN dC H R):Fn PP fq29 #[(.slice d dN dC)] H R:=
 fnS mixed Tryz.func29 ⟨patL [(17,(pInt .i64)),(26,pBool),(40,pStr),(46,pStr),(53,pStr),(64,pNd),(65,pBool),(71,pBool)],loopL [(0,[Slot.int .i64 3,Slot.int .i64 4])],joinL [],joinL [],joinRL []⟩ _ H R (Eq.mp (by unfold rightFromN.W;kernel_rfl) h)
def AnyDocumentN.W (d:Option Addr) (dN dC:Nat) (H:Heap) (R:RR):Prop:=
 callW PP fq29 #[(.slice d dN dC)] H pBool fun(x1:Bool) H2=>
 forkB x1
 ((IxOk d 0 dN)∧
 loadW H2 false 1 ⟨(blkOf d),(offOf d+(0:Int).toNat*6),none⟩ (pInt .i64) fun(x3:Int)=>
 retK (some [(.bool (x3==1))]) H2 R)
 (retK (some [(.bool false)]) H2 R)
theorem AnyDocumentN.enter (d:Option Addr) (dN dC:Nat) (H:Heap) (R:RR) (h:AnyDocumentN.W d dN dC H R):Fn PP fq16 #[(.slice d dN dC)] H R:=
 fnS mixed Tryz.func16 (hz [(4,pBool),(9,(pInt .i64))]) _ H R (Eq.mp (by unfold AnyDocumentN.W;kernel_rfl) h)
end Go.Vx
