/- A part of the proof of what the last text of this claim says: WA6. Conditions: none. -/
import Derived.Test.YtkopcepfeeemhaaGreatDoorYDAc
namespace Go.Vx
open Go Go.Proofs
set_option maxRecDepth 100000
def FnPartOther.W (d dO dN dC:Nat) (which:Int) (other:Int) (H:Heap) (R:RR):Prop:=
 k00 PP fq15 #[(.slice (some ⟨d,dO,none⟩) dN dC)] H k04 fun(x1:Bool) H2=>
 k02 (!x1)
 (rk [(.bool true)] H2 R)
 (newB H2 (.cells #[(.int .i64 24),(.int .i64 26),(.int .i64 27),(.int .i64 31),(.int .i64 32),(.int .i64 34),(.int .i64 36),(.int .i64 37),(.int .i64 39)] tq3) fun b3 H4=>
 ((((9:Nat):Int):Int)≠0)∧
 (IxOk (some ⟨b3,0,none⟩) (Int.tmod (IntKind.i64.wrap other) ((9:Nat):Int)) 9)∧
 k01 H4 false 1 ⟨b3,(0+(Int.tmod (IntKind.i64.wrap other) ((9:Nat):Int)).toNat*1),none⟩ (pInt .i64) fun(x5:Int)=>
 k00 PP fq16 #[(.slice (some ⟨d,dO,none⟩) dN dC)] H4 k04 fun(x6:Bool) H7=>
 k02 (!x6)
 (rk [(.bool true)] H7 R)
 (k00 PP fq26 #[(.slice (some ⟨d,dO,none⟩) dN dC),(.int .i64 0)] H7 pSlc fun(x8:Sl) H9=>
 ((((x8.2.1:Nat):Int):Int)≠0)∧
 (IxOk x8.1 (Int.tmod (IntKind.i64.wrap which) ((x8.2.1:Nat):Int)) x8.2.1)∧
 k01 H9 false 1 ⟨(k0c x8.1),(k0b x8.1+(Int.tmod (IntKind.i64.wrap which) ((x8.2.1:Nat):Int)).toNat*1),none⟩ (pInt .i64) fun(x10:Int)=>
 k0j (Bool×Unit) H9 (fun J11=>
 (IxOk (some ⟨d,dO,none⟩) x10 dN)∧
 k01 H9 false 1 ⟨d,(dO+x10.toNat*6),none⟩ (pInt .i64) fun(x13:Int)=>
 k02 (x13==x5)
 (J11 (true,()) H9)
 ((IxOk (some ⟨d,dO,none⟩) x10 dN)∧
 k01 H9 false 1 ⟨d,(dO+x10.toNat*6),none⟩ (pInt .i64) fun(x14:Int)=>
 k02 (decide (x14<24))
 ((IxOk (some ⟨d,dO,none⟩) x10 dN)∧
 k01 H9 false 1 ⟨d,(dO+x10.toNat*6),none⟩ (pInt .i64) fun(x15:Int)=>
 k02 (x15 !=2)
 ((IxOk (some ⟨d,dO,none⟩) x10 dN)∧
 k01 H9 false 1 ⟨d,(dO+x10.toNat*6),none⟩ (pInt .i64) fun(x16:Int)=>
 J11 ((x16 !=3),()) H9)
 (J11 (false,()) H9))
 (J11 (false,()) H9))) fun y12=>
 k02 y12.1
 (rk [(.bool true)] H9 R)
 (k00 PP fq21 #[(.slice (some ⟨d,dO,none⟩) dN dC),(.int .i64 x10)] H9 pSlc fun(x17:Sl) H18=>
 k00 PP fq23 #[(.slice x17.1 x17.2.1 x17.2.2),(.slice none 0 0)] H18 pStr fun(x19:BA) H20=>
 k00 PP fq27 #[(.int .i64 x5),(.string x19)] H20 pSIB fun(x21:Sl×Int×Bool) H22=>
 (IxOk (some ⟨d,dO,none⟩) x10 dN)∧
 k01 H22 false 1 ⟨d,(dO+x10.toNat*6),none⟩ (pInt .i64) fun(x23:Int)=>
 k00 PP fq27 #[(.int .i64 x23),(.string x19)] H22 pSIB fun(x24:Sl×Int×Bool) H25=>
 k0j (Bool×Unit) H25 (fun J26=>
 k02 x24.2.2
 (J26 ((!x21.2.2),()) H25)
 (J26 (false,()) H25)) fun y27=>
 rk [(.bool y27.1)] H25 R)))
theorem FnPartOther.enter (d dO dN dC:Nat) (which:Int) (other:Int) (H:Heap) (R:RR) (h:FnPartOther.W d dO dN dC which other H R):Fn PP fq14 #[(.slice (some ⟨d,dO,none⟩) dN dC),(.int .u8 which),(.int .u8 other)] H R:=
 fnE Tryz.func14 ⟨patL [(19,k04),(29,(pInt .i64)),(31,k04),(34,pSlc),(42,(pInt .i64)),(47,(pInt .i64)),(55,(pInt .i64)),(62,(pInt .i64)),(70,(pInt .i64)),(76,pSlc),(77,pStr),(81,pSIB),(90,(pInt .i64)),(92,pSIB)],k06 [],k03 [],k03 [],k05 [(9,[Slot.bool 73],true),(14,[Slot.bool 6],true)]⟩ (by unfold FnPartOther.W;kernel_rfl) h
def k5g.W (d:OA) (dN dC:Nat) (which:Int) (other:Int) (H:Heap) (R:RR):Prop:=
 k00 PP fq15 #[(.slice d dN dC)] H k04 fun(x1:Bool) H2=>
 k02 (!x1)
 (rk [(.bool true)] H2 R)
 (newB H2 (.cells #[(.int .i64 24),(.int .i64 26),(.int .i64 27),(.int .i64 31),(.int .i64 32),(.int .i64 34),(.int .i64 36),(.int .i64 37),(.int .i64 39)] tq3) fun b3 H4=>
 ((((9:Nat):Int):Int)≠0)∧
 (IxOk (some ⟨b3,0,none⟩) (Int.tmod (IntKind.i64.wrap other) ((9:Nat):Int)) 9)∧
 k01 H4 false 1 ⟨b3,(0+(Int.tmod (IntKind.i64.wrap other) ((9:Nat):Int)).toNat*1),none⟩ (pInt .i64) fun(x5:Int)=>
 k00 PP fq16 #[(.slice d dN dC)] H4 k04 fun(x6:Bool) H7=>
 k02 (!x6)
 (rk [(.bool true)] H7 R)
 (k00 PP fq26 #[(.slice d dN dC),(.int .i64 0)] H7 pSlc fun(x8:Sl) H9=>
 ((((x8.2.1:Nat):Int):Int)≠0)∧
 (IxOk x8.1 (Int.tmod (IntKind.i64.wrap which) ((x8.2.1:Nat):Int)) x8.2.1)∧
 k01 H9 false 1 ⟨(k0c x8.1),(k0b x8.1+(Int.tmod (IntKind.i64.wrap which) ((x8.2.1:Nat):Int)).toNat*1),none⟩ (pInt .i64) fun(x10:Int)=>
 k0j (Bool×Unit) H9 (fun J11=>
 (IxOk d x10 dN)∧
 k01 H9 false 1 ⟨(k0c d),(k0b d+x10.toNat*6),none⟩ (pInt .i64) fun(x13:Int)=>
 k02 (x13==x5)
 (J11 (true,()) H9)
 ((IxOk d x10 dN)∧
 k01 H9 false 1 ⟨(k0c d),(k0b d+x10.toNat*6),none⟩ (pInt .i64) fun(x14:Int)=>
 k02 (decide (x14<24))
 ((IxOk d x10 dN)∧
 k01 H9 false 1 ⟨(k0c d),(k0b d+x10.toNat*6),none⟩ (pInt .i64) fun(x15:Int)=>
 k02 (x15 !=2)
 ((IxOk d x10 dN)∧
 k01 H9 false 1 ⟨(k0c d),(k0b d+x10.toNat*6),none⟩ (pInt .i64) fun(x16:Int)=>
 J11 ((x16 !=3),()) H9)
 (J11 (false,()) H9))
 (J11 (false,()) H9))) fun y12=>
 k02 y12.1
 (rk [(.bool true)] H9 R)
 (k00 PP fq21 #[(.slice d dN dC),(.int .i64 x10)] H9 pSlc fun(x17:Sl) H18=>
 k00 PP fq23 #[(.slice x17.1 x17.2.1 x17.2.2),(.slice none 0 0)] H18 pStr fun(x19:BA) H20=>
 k00 PP fq27 #[(.int .i64 x5),(.string x19)] H20 pSIB fun(x21:Sl×Int×Bool) H22=>
 (IxOk d x10 dN)∧
 k01 H22 false 1 ⟨(k0c d),(k0b d+x10.toNat*6),none⟩ (pInt .i64) fun(x23:Int)=>
 k00 PP fq27 #[(.int .i64 x23),(.string x19)] H22 pSIB fun(x24:Sl×Int×Bool) H25=>
 k0j (Bool×Unit) H25 (fun J26=>
 k02 x24.2.2
 (J26 ((!x21.2.2),()) H25)
 (J26 (false,()) H25)) fun y27=>
 rk [(.bool y27.1)] H25 R)))
theorem k5g.enter (d:OA) (dN dC:Nat) (which:Int) (other:Int) (H:Heap) (R:RR) (h:k5g.W d dN dC which other H R):Fn PP fq14 #[(.slice d dN dC),(.int .u8 which),(.int .u8 other)] H R:=
 fnE Tryz.func14 ⟨patL [(19,k04),(29,(pInt .i64)),(31,k04),(34,pSlc),(42,(pInt .i64)),(47,(pInt .i64)),(55,(pInt .i64)),(62,(pInt .i64)),(70,(pInt .i64)),(76,pSlc),(77,pStr),(81,pSIB),(90,(pInt .i64)),(92,pSIB)],k06 [],k03 [],k03 [],k05 [(9,[Slot.bool 73],true),(14,[Slot.bool 6],true)]⟩ (by unfold k5g.W;kernel_rfl) h
end Go.Vx
