/- A part of the proof of what the last text of this claim says: WA5. Conditions: none. -/
import Derived.Test.YtkopcepfeeemhaaGreatDoorYDAc
namespace Go.Vx
open Go Go.Proofs
set_option maxRecDepth 100000
def k7D.W (x:OA) (xN _xC:Nat) (H:Heap) (R:RR):Prop:=
 k02 (decide (((xN:Nat):Int)>2147483647))
 (rk [(.bool false)] H R)
 (k0e (Int×Unit) (0,()) H fun z1 H2 next3=>
 k02 (decide (z1.1<((xN:Nat):Int)))
 ((IxOk x z1.1 xN)∧
 k01 H2 true 6 ⟨(k0c x),(k0b x+z1.1.toNat*6),none⟩ pNd fun(x4:Int×BA×BA×BA×Int×Int)=>
 newB H2 (.cells #[(.int .i64 0),sE,sE,sE,(.int .i64 0),(.int .i64 0)] tq41) fun b5 H6=>
 k08 H6 ⟨b5,0,none⟩ [(.int .i64 x4.1),(.string x4.2.1),(.string x4.2.2.1),(.string x4.2.2.2.1),(.int .i64 x4.2.2.2.2.1),(.int .i64 x4.2.2.2.2.2)] fun H7=>
 k01 H7 true 6 ⟨b5,0,none⟩ pNd fun(x8:Int×BA×BA×BA×Int×Int)=>
 k00 PP fq28 #[(.agg #[(.int .i64 x8.1),(.string x8.2.1),(.string x8.2.2.1),(.string x8.2.2.2.1),(.int .i64 x8.2.2.2.2.1),(.int .i64 x8.2.2.2.2.2)])] H7 k04 fun(x9:Bool) H10=>
 k02 (!x9)
 (rk [(.bool false)] H10 R)
 (next3 ((IntKind.i64.wrap (z1.1+1)),()) H10))
 (rk [(.bool true)] H2 R))
theorem k7D.enter (x:OA) (xN xC:Nat) (H:Heap) (R:RR) (h:k7D.W x xN xC H R):Fn PP fq15 #[(.slice x xN xC)] H R:=
 fnE Tryz.func15 ⟨patL [(13,pNd),(14,pNd),(15,k04)],k06 [(0,[Slot.int .i64 10])],k03 [],k03 [],k05 []⟩ (by unfold k7D.W;kernel_rfl) h
def k6I.W (d:OA) (dN dC:Nat) (H:Heap) (R:RR):Prop:=
 k02 (((dN:Nat):Int)==0)
 (rk [(.bool false)] H R)
 (k02 (decide (((dN:Nat):Int)>400))
 (rk [(.bool false)] H R)
 ((IxOk d 0 dN)∧
 k01 H false 1 ⟨(k0c d),((k0b d+(0:Int).toNat*6)+5),none⟩ (pInt .i64) fun(x1:Int)=>
 k02 (x1 !=((dN:Nat):Int))
 (rk [(.bool false)] H R)
 (k00 PP fq34 #[(.slice d dN dC),(.int .i64 0),(.int .i64 ((dN:Nat):Int)),(.int .i64 0)] H k04 fun(x2:Bool) H3=>
 k02 (!x2)
 (rk [(.bool false)] H3 R)
 (k0e (Int×Int×Unit) (0,0,()) H3 fun z4 H5 next6=>
 k02 (decide (z4.2.1<((dN:Nat):Int)))
 ((IxOk d z4.2.1 dN)∧
 k01 H5 false 1 ⟨(k0c d),((k0b d+z4.2.1.toNat*6)+3),none⟩ pStr fun(x7:BA)=>
 (IxOk d z4.2.1 dN)∧
 k01 H5 false 1 ⟨(k0c d),((k0b d+z4.2.1.toNat*6)+1),none⟩ pStr fun(x8:BA)=>
 (IxOk d z4.2.1 dN)∧
 k01 H5 false 1 ⟨(k0c d),((k0b d+z4.2.1.toNat*6)+2),none⟩ pStr fun(x9:BA)=>
 k02 (decide ((IntKind.i64.wrap (z4.1+(if 4001<(IntKind.i64.wrap ((IntKind.i64.wrap (((x7.size:Nat):Int)+((x8.size:Nat):Int)))+((x9.size:Nat):Int))) then 4001 else(IntKind.i64.wrap ((IntKind.i64.wrap (((x7.size:Nat):Int)+((x8.size:Nat):Int)))+((x9.size:Nat):Int))))))>4000))
 (rk [(.bool false)] H5 R)
 ((IxOk d z4.2.1 dN)∧
 k01 H5 true 6 ⟨(k0c d),(k0b d+z4.2.1.toNat*6),none⟩ pNd fun(x10:Int×BA×BA×BA×Int×Int)=>
 k00 PP fq35 #[(.agg #[(.int .i64 x10.1),(.string x10.2.1),(.string x10.2.2.1),(.string x10.2.2.2.1),(.int .i64 x10.2.2.2.2.1),(.int .i64 x10.2.2.2.2.2)])] H5 k04 fun(x11:Bool) H12=>
 k02 (!x11)
 (rk [(.bool false)] H12 R)
 (k00 PP fq36 #[(.slice d dN dC),(.int .i64 z4.2.1)] H12 k04 fun(x13:Bool) H14=>
 k02 (!x13)
 (rk [(.bool false)] H14 R)
 (next6 ((IntKind.i64.wrap (z4.1+(if 4001<(IntKind.i64.wrap ((IntKind.i64.wrap (((x7.size:Nat):Int)+((x8.size:Nat):Int)))+((x9.size:Nat):Int))) then 4001 else(IntKind.i64.wrap ((IntKind.i64.wrap (((x7.size:Nat):Int)+((x8.size:Nat):Int)))+((x9.size:Nat):Int)))))),(IntKind.i64.wrap (z4.2.1+1)),()) H14))))
 (rk [(.bool true)] H5 R)))))
theorem k6I.enter (d:OA) (dN dC:Nat) (H:Heap) (R:RR) (h:k6I.W d dN dC H R):Fn PP fq29 #[(.slice d dN dC)] H R:=
 fnE Tryz.func29 ⟨patL [(17,(pInt .i64)),(26,k04),(40,pStr),(46,pStr),(53,pStr),(64,pNd),(65,k04),(71,k04)],k06 [(0,[Slot.int .i64 3,Slot.int .i64 4])],k03 [],k03 [],k05 []⟩ (by unfold k6I.W;kernel_rfl) h
def k5c.W (d:OA) (dN dC:Nat) (H:Heap) (R:RR):Prop:=
 k00 PP fq29 #[(.slice d dN dC)] H k04 fun(x1:Bool) H2=>
 k02 x1
 ((IxOk d 0 dN)∧
 k01 H2 false 1 ⟨(k0c d),(k0b d+(0:Int).toNat*6),none⟩ (pInt .i64) fun(x3:Int)=>
 rk [(.bool (x3==1))] H2 R)
 (rk [(.bool false)] H2 R)
theorem k5c.enter (d:OA) (dN dC:Nat) (H:Heap) (R:RR) (h:k5c.W d dN dC H R):Fn PP fq16 #[(.slice d dN dC)] H R:=
 fnE Tryz.func16 (hz [(4,k04),(9,(pInt .i64))]) (by unfold k5c.W;kernel_rfl) h
end Go.Vx
