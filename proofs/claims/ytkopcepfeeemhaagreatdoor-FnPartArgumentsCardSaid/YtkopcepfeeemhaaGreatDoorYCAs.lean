/- A part of the proof of what the last text of this claim says: WA6. Conditions: none. -/
import Derived.Test.YtkopcepfeeemhaaGreatDoorZAc
namespace Go.Vx
open Go Go.Proofs
set_option maxRecDepth 100000
def ReadArgumentDefs.W (text:ByteArray) (H:Heap) (R:RR):Prop:=
 callW PP fq30 #[(.string (bs [97,114,103,117,109,101,110,116,32,100,101,102,105,110,105,116,105,111,110,115])),(.int .i64 30),(.string text)] H pSIB fun(x1:Sl×Int×Bool) H2=>
 retK (some [(.slice x1.1.1 x1.1.2.1 x1.1.2.2),(.int .i64 x1.2.1),(.bool x1.2.2)]) H2 R
theorem ReadArgumentDefs.enter (text:ByteArray) (H:Heap) (R:RR) (h:ReadArgumentDefs.W text H R):Fn PP fq17 #[(.string text)] H R:=
 fnS mixed Tryz.func17 (hz [(6,pSIB)]) _ H R (Eq.mp (by unfold ReadArgumentDefs.W;kernel_rfl) h)
def FnPartArguments.W (d dO dN dC:Nat) (which:Int) (byA:Option Addr) (byAN byAC:Nat) (H:Heap) (R:RR):Prop:=
 joinK (Bool×Unit) (fun J1=>
 callW PP fq15 #[(.slice (some ⟨d,dO,none⟩) dN dC)] H pBool fun(x4:Bool) H5=>
 forkB (!x4)
 (J1 (true,()) H5)
 (J1 ((decide (((byAN:Nat):Int)>2147483647)),()) H5)) fun y2 H3=>
 forkB y2.1
 (retK (some [(.bool true)]) H3 R)
 (joinK (Bool×Unit) (fun J6=>
 callW PP fq16 #[(.slice (some ⟨d,dO,none⟩) dN dC)] H3 pBool fun(x9:Bool) H10=>
 forkB (!x9)
 (J6 (true,()) H10)
 (J6 ((decide (((byAN:Nat):Int)>60)),()) H10)) fun y7 H8=>
 forkB y7.1
 (retK (some [(.bool true)]) H8 R)
 (callW PP fq17 #[(.string (bs [125]))] H8 pSIB fun(x11:Sl×Int×Bool) H12=>
 joinPK (Bool×Unit) H12 (fun J13=>
 forkB (!x11.2.2)
 (J13 (true,()) H12)
 (forkB (((x11.1.2.1:Nat):Int) !=0)
 (J13 (true,()) H12)
 (J13 ((x11.2.1 !=0),()) H12))) fun y14=>
 forkB y14.1
 (retK (some [(.bool false)]) H12 R)
 (callW PP fq18 #[(.slice (some ⟨d,dO,none⟩) dN dC),(.int .i64 29),(.int .u8 which)] H12 ⟨Int×Bool,fun x=>(.tuple #[(.int .i64 x.1),(.bool x.2)])⟩ fun(x15:Int×Bool) H16=>
 joinK (Int×Bool×Unit) (fun J17=>
 forkB (!x15.2)
 (callW PP fq18 #[(.slice (some ⟨d,dO,none⟩) dN dC),(.int .i64 37),(.int .u8 which)] H16 ⟨Int×Bool,fun x=>(.tuple #[(.int .i64 x.1),(.bool x.2)])⟩ fun(x20:Int×Bool) H21=>
 J17 (x20.1,x20.2,()) H21)
 (J17 (x15.1,x15.2,()) H16)) fun y18 H19=>
 joinK (Bool×Unit) (fun J22=>
 forkB (!y18.2.1)
 (J22 (true,()) H19)
 (callW PP fq19 #[(.slice (some ⟨d,dO,none⟩) dN dC),(.int .i64 y18.1),(.int .i64 30)] H19 (pInt .i64) fun(x25:Int) H26=>
 J22 ((decide (x25<0)),()) H26)) fun y23 H24=>
 forkB y23.1
 (retK (some [(.bool true)]) H24 R)
 (callW PP fq20 #[(.slice (some ⟨d,dO,none⟩) dN dC),(.int .i64 y18.1),(.int .i64 30)] H24 pSlc fun(x27:Sl) H28=>
 newB H28 (.cells #[(.string (bs [40]))] tq9) fun b29 H30=>
 loopK (Sl×Sl×Int×Unit) (((some ⟨b29,0,none⟩),1,1),(none,0,0),0,()) H30 fun z31 H32 next33=>
 forkB (decide (z31.2.2.1<((x27.2.1:Nat):Int)))
 ((IxOk x27.1 z31.2.2.1 x27.2.1)∧
 loadW H32 false 1 ⟨(blkOf x27.1),(offOf x27.1+z31.2.2.1.toNat*1),none⟩ (pInt .i64) fun(x34:Int)=>
 callW PP fq21 #[(.slice (some ⟨d,dO,none⟩) dN dC),(.int .i64 x34)] H32 pSlc fun(x35:Sl) H36=>
 appK H36 tq9 1 16 z31.1.1 z31.1.2.1 z31.1.2.2 x35.1 x35.2.1 fun a37 c38 H39=>
 (IxOk x27.1 z31.2.2.1 x27.2.1)∧
 loadW H39 false 1 ⟨(blkOf x27.1),(offOf x27.1+z31.2.2.1.toNat*1),none⟩ (pInt .i64) fun(x40:Int)=>
 callW PP fq22 #[(.slice (some ⟨d,dO,none⟩) dN dC),(.int .i64 x40)] H39 pSlc fun(x41:Sl) H42=>
 appK H42 tq41 6 72 z31.2.1.1 z31.2.1.2.1 z31.2.1.2.2 x41.1 x41.2.1 fun a43 c44 H45=>
 next33 ((a37,(z31.1.2.1+x35.2.1),c38),(a43,(z31.2.1.2.1+x41.2.1),c44),(IntKind.i64.wrap (z31.2.2.1+1)),()) H45)
 (newB H32 (.cells #[(.string (bs [41]))] tq9) fun b46 H47=>
 appK H47 tq9 1 16 z31.1.1 z31.1.2.1 z31.1.2.2 (some ⟨b46,0,none⟩) 1 fun a48 c49 H50=>
 callW PP fq23 #[(.slice a48 (z31.1.2.1+1) c49),(.slice byA byAN byAC)] H50 pStr fun(x51:ByteArray) H52=>
 (((x51.size+(bs [10,125]).size:Nat):Int)≤9223372036854775807)∧
 callW PP fq17 #[(.string (x51++(bs [10,125])))] H52 pSIB fun(x53:Sl×Int×Bool) H54=>
 joinK (Bool×Unit) (fun J55=>
 forkB x53.2.2
 (forkB (x53.2.1==(IntKind.i64.wrap ((((x51++(bs [10,125])).size:Nat):Int) -1)))
 (callW PP fq24 #[(.slice x53.1.1 x53.1.2.1 x53.1.2.2),(.slice z31.2.1.1 z31.2.1.2.1 z31.2.1.2.2)] H54 pBool fun(x58:Bool) H59=>
 J55 (x58,()) H59)
 (J55 (false,()) H54))
 (J55 (false,()) H54)) fun y56 H57=>
 retK (some [(.bool y56.1)]) H57 R)))))
theorem FnPartArguments.enter (d dO dN dC:Nat) (which:Int) (byA:Option Addr) (byAN byAC:Nat) (H:Heap) (R:RR) (h:FnPartArguments.W d dO dN dC which byA byAN byAC H R):Fn PP fq3 #[(.slice (some ⟨d,dO,none⟩) dN dC),(.int .u8 which),(.slice byA byAN byAC)] H R:=
 fnS mixed Tryz.func3 ⟨patL [(21,pBool),(29,pBool),(37,pSIB),(55,⟨Int×Bool,fun x=>(.tuple #[(.int .i64 x.1),(.bool x.2)])⟩),(63,⟨Int×Bool,fun x=>(.tuple #[(.int .i64 x.1),(.bool x.2)])⟩),(71,(pInt .i64)),(76,pSlc),(88,(pInt .i64)),(89,pSlc),(96,(pInt .i64)),(97,pSlc),(104,pStr),(108,pSIB),(123,pBool)],loopL [(0,[Slot.slc 13,Slot.slc 14,Slot.int .i64 80])],joinL [(59,[Slot.int .i64 10,Slot.bool 11])],joinL [],joinRL [(1,[Slot.bool 27],false),(3,[Slot.bool 35],false),(6,[Slot.bool 51],true),(11,[Slot.bool 73],false),(24,[Slot.bool 6],false)]⟩ _ H R (Eq.mp (by unfold FnPartArguments.W;kernel_rfl) h)
def FnPartArgumentsN.W (d:Option Addr) (dN dC:Nat) (which:Int) (byA:Option Addr) (byAN byAC:Nat) (H:Heap) (R:RR):Prop:=
 joinK (Bool×Unit) (fun J1=>
 callW PP fq15 #[(.slice d dN dC)] H pBool fun(x4:Bool) H5=>
 forkB (!x4)
 (J1 (true,()) H5)
 (J1 ((decide (((byAN:Nat):Int)>2147483647)),()) H5)) fun y2 H3=>
 forkB y2.1
 (retK (some [(.bool true)]) H3 R)
 (joinK (Bool×Unit) (fun J6=>
 callW PP fq16 #[(.slice d dN dC)] H3 pBool fun(x9:Bool) H10=>
 forkB (!x9)
 (J6 (true,()) H10)
 (J6 ((decide (((byAN:Nat):Int)>60)),()) H10)) fun y7 H8=>
 forkB y7.1
 (retK (some [(.bool true)]) H8 R)
 (callW PP fq17 #[(.string (bs [125]))] H8 pSIB fun(x11:Sl×Int×Bool) H12=>
 joinPK (Bool×Unit) H12 (fun J13=>
 forkB (!x11.2.2)
 (J13 (true,()) H12)
 (forkB (((x11.1.2.1:Nat):Int) !=0)
 (J13 (true,()) H12)
 (J13 ((x11.2.1 !=0),()) H12))) fun y14=>
 forkB y14.1
 (retK (some [(.bool false)]) H12 R)
 (callW PP fq18 #[(.slice d dN dC),(.int .i64 29),(.int .u8 which)] H12 ⟨Int×Bool,fun x=>(.tuple #[(.int .i64 x.1),(.bool x.2)])⟩ fun(x15:Int×Bool) H16=>
 joinK (Int×Bool×Unit) (fun J17=>
 forkB (!x15.2)
 (callW PP fq18 #[(.slice d dN dC),(.int .i64 37),(.int .u8 which)] H16 ⟨Int×Bool,fun x=>(.tuple #[(.int .i64 x.1),(.bool x.2)])⟩ fun(x20:Int×Bool) H21=>
 J17 (x20.1,x20.2,()) H21)
 (J17 (x15.1,x15.2,()) H16)) fun y18 H19=>
 joinK (Bool×Unit) (fun J22=>
 forkB (!y18.2.1)
 (J22 (true,()) H19)
 (callW PP fq19 #[(.slice d dN dC),(.int .i64 y18.1),(.int .i64 30)] H19 (pInt .i64) fun(x25:Int) H26=>
 J22 ((decide (x25<0)),()) H26)) fun y23 H24=>
 forkB y23.1
 (retK (some [(.bool true)]) H24 R)
 (callW PP fq20 #[(.slice d dN dC),(.int .i64 y18.1),(.int .i64 30)] H24 pSlc fun(x27:Sl) H28=>
 newB H28 (.cells #[(.string (bs [40]))] tq9) fun b29 H30=>
 loopK (Sl×Sl×Int×Unit) (((some ⟨b29,0,none⟩),1,1),(none,0,0),0,()) H30 fun z31 H32 next33=>
 forkB (decide (z31.2.2.1<((x27.2.1:Nat):Int)))
 ((IxOk x27.1 z31.2.2.1 x27.2.1)∧
 loadW H32 false 1 ⟨(blkOf x27.1),(offOf x27.1+z31.2.2.1.toNat*1),none⟩ (pInt .i64) fun(x34:Int)=>
 callW PP fq21 #[(.slice d dN dC),(.int .i64 x34)] H32 pSlc fun(x35:Sl) H36=>
 appK H36 tq9 1 16 z31.1.1 z31.1.2.1 z31.1.2.2 x35.1 x35.2.1 fun a37 c38 H39=>
 (IxOk x27.1 z31.2.2.1 x27.2.1)∧
 loadW H39 false 1 ⟨(blkOf x27.1),(offOf x27.1+z31.2.2.1.toNat*1),none⟩ (pInt .i64) fun(x40:Int)=>
 callW PP fq22 #[(.slice d dN dC),(.int .i64 x40)] H39 pSlc fun(x41:Sl) H42=>
 appK H42 tq41 6 72 z31.2.1.1 z31.2.1.2.1 z31.2.1.2.2 x41.1 x41.2.1 fun a43 c44 H45=>
 next33 ((a37,(z31.1.2.1+x35.2.1),c38),(a43,(z31.2.1.2.1+x41.2.1),c44),(IntKind.i64.wrap (z31.2.2.1+1)),()) H45)
 (newB H32 (.cells #[(.string (bs [41]))] tq9) fun b46 H47=>
 appK H47 tq9 1 16 z31.1.1 z31.1.2.1 z31.1.2.2 (some ⟨b46,0,none⟩) 1 fun a48 c49 H50=>
 callW PP fq23 #[(.slice a48 (z31.1.2.1+1) c49),(.slice byA byAN byAC)] H50 pStr fun(x51:ByteArray) H52=>
 (((x51.size+(bs [10,125]).size:Nat):Int)≤9223372036854775807)∧
 callW PP fq17 #[(.string (x51++(bs [10,125])))] H52 pSIB fun(x53:Sl×Int×Bool) H54=>
 joinK (Bool×Unit) (fun J55=>
 forkB x53.2.2
 (forkB (x53.2.1==(IntKind.i64.wrap ((((x51++(bs [10,125])).size:Nat):Int) -1)))
 (callW PP fq24 #[(.slice x53.1.1 x53.1.2.1 x53.1.2.2),(.slice z31.2.1.1 z31.2.1.2.1 z31.2.1.2.2)] H54 pBool fun(x58:Bool) H59=>
 J55 (x58,()) H59)
 (J55 (false,()) H54))
 (J55 (false,()) H54)) fun y56 H57=>
 retK (some [(.bool y56.1)]) H57 R)))))
theorem FnPartArgumentsN.enter (d:Option Addr) (dN dC:Nat) (which:Int) (byA:Option Addr) (byAN byAC:Nat) (H:Heap) (R:RR) (h:FnPartArgumentsN.W d dN dC which byA byAN byAC H R):Fn PP fq3 #[(.slice d dN dC),(.int .u8 which),(.slice byA byAN byAC)] H R:=
 fnS mixed Tryz.func3 ⟨patL [(21,pBool),(29,pBool),(37,pSIB),(55,⟨Int×Bool,fun x=>(.tuple #[(.int .i64 x.1),(.bool x.2)])⟩),(63,⟨Int×Bool,fun x=>(.tuple #[(.int .i64 x.1),(.bool x.2)])⟩),(71,(pInt .i64)),(76,pSlc),(88,(pInt .i64)),(89,pSlc),(96,(pInt .i64)),(97,pSlc),(104,pStr),(108,pSIB),(123,pBool)],loopL [(0,[Slot.slc 13,Slot.slc 14,Slot.int .i64 80])],joinL [(59,[Slot.int .i64 10,Slot.bool 11])],joinL [],joinRL [(1,[Slot.bool 27],false),(3,[Slot.bool 35],false),(6,[Slot.bool 51],true),(11,[Slot.bool 73],false),(24,[Slot.bool 6],false)]⟩ _ H R (Eq.mp (by unfold FnPartArgumentsN.W;kernel_rfl) h)
end Go.Vx
