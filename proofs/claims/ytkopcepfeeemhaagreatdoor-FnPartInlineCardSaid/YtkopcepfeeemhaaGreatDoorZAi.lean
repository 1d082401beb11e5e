/- A part of the proof of what the last text of this claim says: WA4. Conditions: none. -/
import Derived.Test.YtkopcepfeeemhaaGreatDoorZAc
namespace Go.Vx
open Go Go.Proofs
set_option maxRecDepth 100000
def SameDocument.W (a aO aN _aC:Nat) (b bO bN _bC:Nat) (H:Heap) (R:RR):Prop:=
 forkB (((aN:Nat):Int) !=((bN:Nat):Int))
 (retK (some [(.bool false)]) H R)
 (loopK (Int×Unit) (0,()) H fun z1 H2 next3=>
 forkB (decide (z1.1<((aN:Nat):Int)))
 ((IxOk (some ⟨a,aO,none⟩) z1.1 aN)∧
 loadW H2 true 6 ⟨a,(aO+z1.1.toNat*6),none⟩ pNd fun(x4:Int×ByteArray×ByteArray×ByteArray×Int×Int)=>
 (IxOk (some ⟨b,bO,none⟩) z1.1 bN)∧
 loadW H2 true 6 ⟨b,(bO+z1.1.toNat*6),none⟩ pNd fun(x5:Int×ByteArray×ByteArray×ByteArray×Int×Int)=>
 (newB H2 (.cells #[(.int .i64 0),(.string (bs [])),(.string (bs [])),(.string (bs [])),(.int .i64 0),(.int .i64 0)] tq41) fun b6 H7=>
 loadC H7 true 6 ⟨b,(bO+z1.1.toNat*6),none⟩=some (.agg #[(.int .i64 x5.1),(.string x5.2.1),(.string x5.2.2.1),(.string x5.2.2.2.1),(.int .i64 x5.2.2.2.2.1),(.int .i64 x5.2.2.2.2.2)])∧
 loadC H7 true 6 ⟨a,(aO+z1.1.toNat*6),none⟩=some (.agg #[(.int .i64 x4.1),(.string x4.2.1),(.string x4.2.2.1),(.string x4.2.2.2.1),(.int .i64 x4.2.2.2.2.1),(.int .i64 x4.2.2.2.2.2)])∧
 newB H7 (.cells #[(.int .i64 0),(.string (bs [])),(.string (bs [])),(.string (bs [])),(.int .i64 0),(.int .i64 0)] tq41) fun b8 H9=>
 loadC H9 true 6 ⟨b,(bO+z1.1.toNat*6),none⟩=some (.agg #[(.int .i64 x5.1),(.string x5.2.1),(.string x5.2.2.1),(.string x5.2.2.2.1),(.int .i64 x5.2.2.2.2.1),(.int .i64 x5.2.2.2.2.2)])∧
 loadC H9 true 6 ⟨a,(aO+z1.1.toNat*6),none⟩=some (.agg #[(.int .i64 x4.1),(.string x4.2.1),(.string x4.2.2.1),(.string x4.2.2.2.1),(.int .i64 x4.2.2.2.2.1),(.int .i64 x4.2.2.2.2.2)])∧
 storeW H9 ⟨b6,0,none⟩ [(.int .i64 x4.1),(.string x4.2.1),(.string x4.2.2.1),(.string x4.2.2.2.1),(.int .i64 x4.2.2.2.2.1),(.int .i64 x4.2.2.2.2.2)] fun H10=>
 loadC H10 true 6 ⟨b,(bO+z1.1.toNat*6),none⟩=some (.agg #[(.int .i64 x5.1),(.string x5.2.1),(.string x5.2.2.1),(.string x5.2.2.2.1),(.int .i64 x5.2.2.2.2.1),(.int .i64 x5.2.2.2.2.2)])∧
 storeW H10 ⟨b8,0,none⟩ [(.int .i64 x5.1),(.string x5.2.1),(.string x5.2.2.1),(.string x5.2.2.2.1),(.int .i64 x5.2.2.2.2.1),(.int .i64 x5.2.2.2.2.2)] fun H11=>
 lw H11 b6 0 (pInt .i64) fun(x12:Int)=>
 joinK (Unit) (fun J13=>
 forkB (x12 !=15)
 (storeW H11 ⟨b6,4,none⟩ [(.int .i64 0)] fun H16=>
 storeW H16 ⟨b8,4,none⟩ [(.int .i64 0)] fun H17=>
 J13 (()) H17)
 (J13 (()) H11)) fun _y14 H15=>
 loadW H15 true 6 ⟨b6,0,none⟩ pNd fun(x18:Int×ByteArray×ByteArray×ByteArray×Int×Int)=>
 loadW H15 true 6 ⟨b8,0,none⟩ pNd fun(x19:Int×ByteArray×ByteArray×ByteArray×Int×Int)=>
 eqW PP .neq tq41 (.agg #[(.int .i64 x18.1),(.string x18.2.1),(.string x18.2.2.1),(.string x18.2.2.2.1),(.int .i64 x18.2.2.2.2.1),(.int .i64 x18.2.2.2.2.2)]) (.agg #[(.int .i64 x19.1),(.string x19.2.1),(.string x19.2.2.1),(.string x19.2.2.2.1),(.int .i64 x19.2.2.2.2.1),(.int .i64 x19.2.2.2.2.2)]) fun(b20:Bool)=>
 forkB b20
 (retK (some [(.bool false)]) H15 R)
 (next3 ((IntKind.i64.wrap (z1.1+1)),()) H15))∧
 (newB H2 (.cells #[(.int .i64 0),(.string (bs [])),(.string (bs [])),(.string (bs [])),(.int .i64 0),(.int .i64 0)] tq41) fun b21 H22=>
 loadC H22 true 6 ⟨b,(bO+z1.1.toNat*6),none⟩=some (.agg #[(.int .i64 x5.1),(.string x5.2.1),(.string x5.2.2.1),(.string x5.2.2.2.1),(.int .i64 x5.2.2.2.2.1),(.int .i64 x5.2.2.2.2.2)])∧
 loadC H22 true 6 ⟨a,(aO+z1.1.toNat*6),none⟩=some (.agg #[(.int .i64 x4.1),(.string x4.2.1),(.string x4.2.2.1),(.string x4.2.2.2.1),(.int .i64 x4.2.2.2.2.1),(.int .i64 x4.2.2.2.2.2)])∧
 newB H22 (.cells #[(.int .i64 0),(.string (bs [])),(.string (bs [])),(.string (bs [])),(.int .i64 0),(.int .i64 0)] tq41) fun b23 H24=>
 loadC H24 true 6 ⟨b,(bO+z1.1.toNat*6),none⟩=some (.agg #[(.int .i64 x5.1),(.string x5.2.1),(.string x5.2.2.1),(.string x5.2.2.2.1),(.int .i64 x5.2.2.2.2.1),(.int .i64 x5.2.2.2.2.2)])∧
 loadC H24 true 6 ⟨a,(aO+z1.1.toNat*6),none⟩=some (.agg #[(.int .i64 x4.1),(.string x4.2.1),(.string x4.2.2.1),(.string x4.2.2.2.1),(.int .i64 x4.2.2.2.2.1),(.int .i64 x4.2.2.2.2.2)])∧
 storeW H24 ⟨b23,0,none⟩ [(.int .i64 x4.1),(.string x4.2.1),(.string x4.2.2.1),(.string x4.2.2.2.1),(.int .i64 x4.2.2.2.2.1),(.int .i64 x4.2.2.2.2.2)] fun H25=>
 loadC H25 true 6 ⟨b,(bO+z1.1.toNat*6),none⟩=some (.agg #[(.int .i64 x5.1),(.string x5.2.1),(.string x5.2.2.1),(.string x5.2.2.2.1),(.int .i64 x5.2.2.2.2.1),(.int .i64 x5.2.2.2.2.2)])∧
 storeW H25 ⟨b21,0,none⟩ [(.int .i64 x5.1),(.string x5.2.1),(.string x5.2.2.1),(.string x5.2.2.2.1),(.int .i64 x5.2.2.2.2.1),(.int .i64 x5.2.2.2.2.2)] fun H26=>
 lw H26 b23 0 (pInt .i64) fun(x27:Int)=>
 joinK (Unit) (fun J28=>
 forkB (x27 !=15)
 (storeW H26 ⟨b23,4,none⟩ [(.int .i64 0)] fun H31=>
 storeW H31 ⟨b21,4,none⟩ [(.int .i64 0)] fun H32=>
 J28 (()) H32)
 (J28 (()) H26)) fun _y29 H30=>
 loadW H30 true 6 ⟨b23,0,none⟩ pNd fun(x33:Int×ByteArray×ByteArray×ByteArray×Int×Int)=>
 loadW H30 true 6 ⟨b21,0,none⟩ pNd fun(x34:Int×ByteArray×ByteArray×ByteArray×Int×Int)=>
 eqW PP .neq tq41 (.agg #[(.int .i64 x33.1),(.string x33.2.1),(.string x33.2.2.1),(.string x33.2.2.2.1),(.int .i64 x33.2.2.2.2.1),(.int .i64 x33.2.2.2.2.2)]) (.agg #[(.int .i64 x34.1),(.string x34.2.1),(.string x34.2.2.1),(.string x34.2.2.2.1),(.int .i64 x34.2.2.2.2.1),(.int .i64 x34.2.2.2.2.2)]) fun(b35:Bool)=>
 forkB b35
 (retK (some [(.bool false)]) H30 R)
 (next3 ((IntKind.i64.wrap (z1.1+1)),()) H30)))
 (retK (some [(.bool true)]) H2 R))
theorem SameDocument.enter (a aO aN aC:Nat) (b bO bN bC:Nat) (H:Heap) (R:RR) (h:SameDocument.W a aO aN aC b bO bN bC H R):Fn PP fq24 #[(.slice (some ⟨a,aO,none⟩) aN aC),(.slice (some ⟨b,bO,none⟩) bN bC)] H R:=
 fnS mixed Tryz.func24 ⟨patL [(22,pNd),(26,pNd),(28,(pInt .i64)),(32,pNd),(33,pNd)],loopL [(0,[Slot.int .i64 5])],joinL [(29,[])],joinL [],joinRL []⟩ _ H R (Eq.mp (by unfold SameDocument.W;kernel_rfl) h)
def part9.W (d dO dN dC:Nat) (kind:Int) (step:Int) (which:Int) (byA:Option Addr) (byAN byAC:Nat) (H:Heap) (R:RR):Prop:=
 joinK (Bool×Unit) (fun J1=>
 callW PP fq16 #[(.slice (some ⟨d,dO,none⟩) dN dC)] H pBool fun(x4:Bool) H5=>
 forkB (!x4)
 (J1 (true,()) H5)
 (J1 ((decide (((byAN:Nat):Int)>60)),()) H5)) fun y2 H3=>
 forkB y2.1
 (retK (some [(.bool true)]) H3 R)
 (callW PP fq18 #[(.slice (some ⟨d,dO,none⟩) dN dC),(.int .i64 kind),(.int .u8 which)] H3 ⟨Int×Bool,fun x=>(.tuple #[(.int .i64 x.1),(.bool x.2)])⟩ fun(x6:Int×Bool) H7=>
 forkB (!x6.2)
 (callW PP fq27 #[(.int .i64 26),(.string (bs [115,99,97,108,97,114,32,65]))] H7 pSIB fun(x8:Sl×Int×Bool) H9=>
 retK (some [(.bool x8.2.2)]) H9 R)
 (callW PP fq21 #[(.slice (some ⟨d,dO,none⟩) dN dC),(.int .i64 x6.1)] H7 pSlc fun(x10:Sl) H11=>
 callW PP fq23 #[(.slice x10.1 x10.2.1 x10.2.2),(.slice byA byAN byAC)] H11 pStr fun(x12:ByteArray) H13=>
 (((x12.size+(bs [10,125]).size:Nat):Int)≤9223372036854775807)∧
 callW PP fq27 #[(.int .i64 step),(.string (x12++(bs [10,125])))] H13 pSIB fun(x14:Sl×Int×Bool) H15=>
 joinK (Bool×Unit) (fun J16=>
 forkB x14.2.2
 (forkB (x14.2.1==(IntKind.i64.wrap ((((x12++(bs [10,125])).size:Nat):Int) -1)))
 (callW PP fq22 #[(.slice (some ⟨d,dO,none⟩) dN dC),(.int .i64 x6.1)] H15 pSlc fun(x19:Sl) H20=>
 callW PP fq24 #[(.slice x14.1.1 x14.1.2.1 x14.1.2.2),(.slice x19.1 x19.2.1 x19.2.2)] H20 pBool fun(x21:Bool) H22=>
 J16 (x21,()) H22)
 (J16 (false,()) H15))
 (J16 (false,()) H15)) fun y17 H18=>
 retK (some [(.bool y17.1)]) H18 R))
theorem part9.enter (d dO dN dC:Nat) (kind:Int) (step:Int) (which:Int) (byA:Option Addr) (byAN byAC:Nat) (H:Heap) (R:RR) (h:part9.W d dO dN dC kind step which byA byAN byAC H R):Fn PP fq25 #[(.slice (some ⟨d,dO,none⟩) dN dC),(.int .i64 kind),(.int .i64 step),(.int .u8 which),(.slice byA byAN byAC)] H R:=
 fnS mixed Tryz.func25 ⟨patL [(21,pBool),(32,⟨Int×Bool,fun x=>(.tuple #[(.int .i64 x.1),(.bool x.2)])⟩),(38,pSIB),(45,pSlc),(47,pStr),(52,pSIB),(68,pSlc),(69,pBool)],loopL [],joinL [],joinL [],joinRL [(1,[Slot.bool 27],false),(9,[Slot.bool 10],false)]⟩ _ H R (Eq.mp (by unfold part9.W;kernel_rfl) h)
end Go.Vx
