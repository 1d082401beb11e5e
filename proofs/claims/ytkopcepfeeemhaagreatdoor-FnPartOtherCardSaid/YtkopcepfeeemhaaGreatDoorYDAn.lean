/- A part of the proof of what the last text of this claim says: WN. Conditions: none. -/
import Derived.Test.YtkopcepfeeemhaaGreatDoorYDAc
namespace Go.Vx
open Go Go.Proofs
set_option maxRecDepth 100000
def MkOk (f:FuncId) (c c':Array Value) (t:TypeId):Prop:= ∀(H:Heap) (b:Nat),H[b]?=some (.cells c t)→Fn PP f #[.pointer (some ⟨b,0,none⟩)] H fun v H'=>
 ∃b':Nat,v= .pointer (some ⟨b',0,none⟩)∧Ext [b] H H'∧(b'=b∨H.size≤b')∧H'[b']?=some (.cells c' t)
def NewLocation.W (n:Nat) (H:Heap) (R:RR):Prop:=
 lw H n 0 (pInt .i64) fun(x1:Int)=>
 lw H n 1 (pInt .i64) fun(x2:Int)=>
 lw H n 2 pBlk fun(x3:Nat)=>
 newB H (.cells #[(.int .i64 x1),(.int .i64 x2),(pq x3)] tq185) fun b4 H5=>
 rk [(pq b4)] H5 R
theorem NewLocation.enter (n:Nat) (H:Heap) (R:RR) (h:NewLocation.W n H R):Fn PP fq200 #[(pq n)] H R:=
 fnE Tryz.func200 (hz [(10,(pInt .i64)),(14,(pInt .i64)),(18,pBlk)]) (by unfold NewLocation.W;kernel_rfl) h
def NewName.W (n:Nat) (H:Heap) (R:RR):Prop:=
 k08 H ⟨n,0,none⟩ [(.string (bs [78,97,109,101]))] fun H1=>
 rk [(pq n)] H1 R
theorem NewName.enter (n:Nat) (H:Heap) (R:RR) (h:NewName.W n H R):Fn PP fq203 #[(pq n)] H R:=
 fnE Tryz.func203 (hz []) (by unfold NewName.W;kernel_rfl) h
abbrev kcs:BA:=bs [78,97,109,101]
theorem kfb (a1:OA) (a2:BA):MkOk fq203 #[sE,.pointer a1,.string a2] #[.string kcs,.pointer a1,.string a2] tq115:=by
 intro H b hb
 refine NewName.enter _ H _ ?_
 unfold NewName.W
 exact swI hb (by simp) rfl rfl fun H1 e1 hb1 x1 s1=>rkI ⟨b,rfl,x1,.inl rfl,hb1⟩
def NewNamed.W (n:Nat) (H:Heap) (R:RR):Prop:=
 k08 H ⟨n,0,none⟩ [(.string (bs [78,97,109,101,100]))] fun H1=>
 rk [(pq n)] H1 R
theorem NewNamed.enter (n:Nat) (H:Heap) (R:RR) (h:NewNamed.W n H R):Fn PP fq202 #[(pq n)] H R:=
 fnE Tryz.func202 (hz []) (by unfold NewNamed.W;kernel_rfl) h
abbrev kct:BA:=bs [78,97,109,101,100]
theorem kfc (a1:OA) (a2:OA):MkOk fq202 #[sE,.pointer a1,.pointer a2] #[.string kct,.pointer a1,.pointer a2] tq113:=by
 intro H b hb
 refine NewNamed.enter _ H _ ?_
 unfold NewNamed.W
 exact swI hb (by simp) rfl rfl fun H1 e1 hb1 x1 s1=>rkI ⟨b,rfl,x1,.inl rfl,hb1⟩
def NewOperationTypeDefinition.W (n:Nat) (H:Heap) (R:RR):Prop:=
 lw H n 1 pPtr fun(x1:OA)=>
 lw H n 2 pStr fun(x2:BA)=>
 lw H n 3 pPtr fun(x3:OA)=>
 newB H (.cells #[(.string (bs [79,112,101,114,97,116,105,111,110,84,121,112,101,68,101,102,105,110,105,116,105,111,110])),(.pointer x1),(.string x2),(.pointer x3)] tq109) fun b4 H5=>
 rk [(pq b4)] H5 R
theorem NewOperationTypeDefinition.enter (n:Nat) (H:Heap) (R:RR) (h:NewOperationTypeDefinition.W n H R):Fn PP fq145 #[(pq n)] H R:=
 fnE Tryz.func145 (hz [(10,pPtr),(14,pStr),(18,pPtr)]) (by unfold NewOperationTypeDefinition.W;kernel_rfl) h
abbrev kcy:BA:=bs [79,112,101,114,97,116,105,111,110,84,121,112,101,68,101,102,105,110,105,116,105,111,110]
theorem kfh (a1:OA) (a2:BA) (a3:OA):MkOk fq145 #[sE,.pointer a1,.string a2,.pointer a3] #[.string kcy,.pointer a1,.string a2,.pointer a3] tq109:=by
 intro H b hb
 refine NewOperationTypeDefinition.enter _ H _ ?_
 unfold NewOperationTypeDefinition.W
 refine⟨a1,lcO hb rfl,a2,lcO hb rfl,a3,lcO hb rfl,?_⟩
 exact nbI fun H1 e1 hb1 x1 s1=>rkI ⟨_,rfl,x1.of_nil,.inr (Nat.le_refl _),hb1⟩
def NewScalarDefinition.W (n:Nat) (H:Heap) (R:RR):Prop:=
 lw H n 1 pPtr fun(x1:OA)=>
 lw H n 2 pPtr fun(x2:OA)=>
 lw H n 3 pPtr fun(x3:OA)=>
 lw H n 4 pSlc fun(x4:Sl)=>
 newB H (.cells #[(.string (bs [83,99,97,108,97,114,68,101,102,105,110,105,116,105,111,110])),(.pointer x1),(.pointer x2),(.pointer x3),(.slice x4.1 x4.2.1 x4.2.2)] tq234) fun b5 H6=>
 rk [(pq b5)] H6 R
theorem NewScalarDefinition.enter (n:Nat) (H:Heap) (R:RR) (h:NewScalarDefinition.W n H R):Fn PP fq147 #[(pq n)] H R:=
 fnE Tryz.func147 (hz [(10,pPtr),(14,pPtr),(18,pPtr),(22,pSlc)]) (by unfold NewScalarDefinition.W;kernel_rfl) h
abbrev kcz:BA:=bs [83,99,97,108,97,114,68,101,102,105,110,105,116,105,111,110]
theorem kbb (a1:OA) (a2:OA) (a3:OA) (a4:OA) (a4n a4c:Nat):MkOk fq147 #[sE,.pointer a1,.pointer a2,.pointer a3,.slice a4 a4n a4c] #[.string kcz,.pointer a1,.pointer a2,.pointer a3,.slice a4 a4n a4c] tq234:=by
 intro H b hb
 refine NewScalarDefinition.enter _ H _ ?_
 unfold NewScalarDefinition.W
 refine⟨a1,lcO hb rfl,a2,lcO hb rfl,a3,lcO hb rfl,(a4,a4n,a4c),lcO hb rfl,?_⟩
 exact nbI fun H1 e1 hb1 x1 s1=>rkI ⟨_,rfl,x1.of_nil,.inr (Nat.le_refl _),hb1⟩
def NewSchemaDefinition.W (n:Nat) (H:Heap) (R:RR):Prop:=
 lw H n 1 pPtr fun(x1:OA)=>
 lw H n 2 pSlc fun(x2:Sl)=>
 lw H n 3 pSlc fun(x3:Sl)=>
 newB H (.cells #[(.string (bs [83,99,104,101,109,97,68,101,102,105,110,105,116,105,111,110])),(.pointer x1),(.slice x2.1 x2.2.1 x2.2.2),(.slice x3.1 x3.2.1 x3.2.2)] tq222) fun b4 H5=>
 rk [(pq b4)] H5 R
theorem NewSchemaDefinition.enter (n:Nat) (H:Heap) (R:RR) (h:NewSchemaDefinition.W n H R):Fn PP fq140 #[(pq n)] H R:=
 fnE Tryz.func140 (hz [(10,pPtr),(14,pSlc),(18,pSlc)]) (by unfold NewSchemaDefinition.W;kernel_rfl) h
abbrev kh4:BA:=bs [83,99,104,101,109,97,68,101,102,105,110,105,116,105,111,110]
theorem kfi (a1:OA) (a2:OA) (a2n a2c:Nat) (a3:OA) (a3n a3c:Nat):MkOk fq140 #[sE,.pointer a1,.slice a2 a2n a2c,.slice a3 a3n a3c] #[.string kh4,.pointer a1,.slice a2 a2n a2c,.slice a3 a3n a3c] tq222:=by
 intro H b hb
 refine NewSchemaDefinition.enter _ H _ ?_
 unfold NewSchemaDefinition.W
 refine⟨a1,lcO hb rfl,(a2,a2n,a2c),lcO hb rfl,(a3,a3n,a3c),lcO hb rfl,?_⟩
 exact nbI fun H1 e1 hb1 x1 s1=>rkI ⟨_,rfl,x1.of_nil,.inr (Nat.le_refl _),hb1⟩
def NewObjectDefinition.W (n:Nat) (H:Heap) (R:RR):Prop:=
 lw H n 1 pPtr fun(x1:OA)=>
 lw H n 2 pPtr fun(x2:OA)=>
 lw H n 3 pPtr fun(x3:OA)=>
 lw H n 4 pSlc fun(x4:Sl)=>
 lw H n 5 pSlc fun(x5:Sl)=>
 lw H n 6 pSlc fun(x6:Sl)=>
 newB H (.cells #[(.string (bs [79,98,106,101,99,116,68,101,102,105,110,105,116,105,111,110])),(.pointer x1),(.pointer x2),(.pointer x3),(.slice x4.1 x4.2.1 x4.2.2),(.slice x5.1 x5.2.1 x5.2.2),(.slice x6.1 x6.2.1 x6.2.2)] tq238) fun b7 H8=>
 rk [(pq b7)] H8 R
theorem NewObjectDefinition.enter (n:Nat) (H:Heap) (R:RR) (h:NewObjectDefinition.W n H R):Fn PP fq148 #[(pq n)] H R:=
 fnE Tryz.func148 (hz [(10,pPtr),(14,pPtr),(18,pPtr),(22,pSlc),(26,pSlc),(30,pSlc)]) (by unfold NewObjectDefinition.W;kernel_rfl) h
abbrev kh3:BA:=bs [79,98,106,101,99,116,68,101,102,105,110,105,116,105,111,110]
theorem kfe (a1:OA) (a2:OA) (a3:OA) (a4:OA) (a4n a4c:Nat) (a5:OA) (a5n a5c:Nat) (a6:OA) (a6n a6c:Nat):MkOk fq148 #[sE,.pointer a1,.pointer a2,.pointer a3,.slice a4 a4n a4c,.slice a5 a5n a5c,.slice a6 a6n a6c] #[.string kh3,.pointer a1,.pointer a2,.pointer a3,.slice a4 a4n a4c,.slice a5 a5n a5c,.slice a6 a6n a6c] tq238:=by
 intro H b hb
 refine NewObjectDefinition.enter _ H _ ?_
 unfold NewObjectDefinition.W
 refine⟨a1,lcO hb rfl,a2,lcO hb rfl,a3,lcO hb rfl,(a4,a4n,a4c),lcO hb rfl,(a5,a5n,a5c),lcO hb rfl,(a6,a6n,a6c),lcO hb rfl,?_⟩
 exact nbI fun H1 e1 hb1 x1 s1=>rkI ⟨_,rfl,x1.of_nil,.inr (Nat.le_refl _),hb1⟩
def NewFieldDefinition.W (n:Nat) (H:Heap) (R:RR):Prop:=
 lw H n 1 pPtr fun(x1:OA)=>
 lw H n 2 pPtr fun(x2:OA)=>
 lw H n 3 pPtr fun(x3:OA)=>
 lw H n 4 pSlc fun(x4:Sl)=>
 lw H n 5 pIf fun(x5:(Nat×Nat))=>
 lw H n 6 pSlc fun(x6:Sl)=>
 newB H (.cells #[(.string (bs [70,105,101,108,100,68,101,102,105,110,105,116,105,111,110])),(.pointer x1),(.pointer x2),(.pointer x3),(.slice x4.1 x4.2.1 x4.2.2),(.iface x5.1 (pq x5.2)),(.slice x6.1 x6.2.1 x6.2.2)] tq187) fun b7 H8=>
 rk [(pq b7)] H8 R
theorem NewFieldDefinition.enter (n:Nat) (H:Heap) (R:RR) (h:NewFieldDefinition.W n H R):Fn PP fq152 #[(pq n)] H R:=
 fnE Tryz.func152 (hz [(10,pPtr),(14,pPtr),(18,pPtr),(22,pSlc),(26,pIf),(30,pSlc)]) (by unfold NewFieldDefinition.W;kernel_rfl) h
abbrev kgX:BA:=bs [70,105,101,108,100,68,101,102,105,110,105,116,105,111,110]
theorem keZ (a1:OA) (a2:OA) (a3:OA) (a4:OA) (a4n a4c:Nat) (a5T a5:Nat) (a6:OA) (a6n a6c:Nat):MkOk fq152 #[sE,.pointer a1,.pointer a2,.pointer a3,.slice a4 a4n a4c,.iface a5T (pq a5),.slice a6 a6n a6c] #[.string kgX,.pointer a1,.pointer a2,.pointer a3,.slice a4 a4n a4c,.iface a5T (pq a5),.slice a6 a6n a6c] tq187:=by
 intro H b hb
 refine NewFieldDefinition.enter _ H _ ?_
 unfold NewFieldDefinition.W
 refine⟨a1,lcO hb rfl,a2,lcO hb rfl,a3,lcO hb rfl,(a4,a4n,a4c),lcO hb rfl,(a5T,a5),lcO hb rfl,(a6,a6n,a6c),lcO hb rfl,?_⟩
 exact nbI fun H1 e1 hb1 x1 s1=>rkI ⟨_,rfl,x1.of_nil,.inr (Nat.le_refl _),hb1⟩
def NewInputValueDefinition.W (n:Nat) (H:Heap) (R:RR):Prop:=
 lw H n 1 pPtr fun(x1:OA)=>
 lw H n 2 pPtr fun(x2:OA)=>
 lw H n 3 pPtr fun(x3:OA)=>
 lw H n 4 pIf fun(x4:(Nat×Nat))=>
 lw H n 5 pIf fun(x5:(Nat×Nat))=>
 lw H n 6 pSlc fun(x6:Sl)=>
 newB H (.cells #[(.string (bs [73,110,112,117,116,86,97,108,117,101,68,101,102,105,110,105,116,105,111,110])),(.pointer x1),(.pointer x2),(.pointer x3),(.iface x4.1 (pq x4.2)),(.iface x5.1 (pq x5.2)),(.slice x6.1 x6.2.1 x6.2.2)] tq189) fun b7 H8=>
 rk [(pq b7)] H8 R
theorem NewInputValueDefinition.enter (n:Nat) (H:Heap) (R:RR) (h:NewInputValueDefinition.W n H R):Fn PP fq155 #[(pq n)] H R:=
 fnE Tryz.func155 (hz [(10,pPtr),(14,pPtr),(18,pPtr),(22,pIf),(26,pIf),(30,pSlc)]) (by unfold NewInputValueDefinition.W;kernel_rfl) h
abbrev kco:BA:=bs [73,110,112,117,116,86,97,108,117,101,68,101,102,105,110,105,116,105,111,110]
theorem kf5 (a1:OA) (a2:OA) (a3:OA) (a4T a4:Nat) (a5T a5:Nat) (a6:OA) (a6n a6c:Nat):MkOk fq155 #[sE,.pointer a1,.pointer a2,.pointer a3,.iface a4T (pq a4),.iface a5T (pq a5),.slice a6 a6n a6c] #[.string kco,.pointer a1,.pointer a2,.pointer a3,.iface a4T (pq a4),.iface a5T (pq a5),.slice a6 a6n a6c] tq189:=by
 intro H b hb
 refine NewInputValueDefinition.enter _ H _ ?_
 unfold NewInputValueDefinition.W
 refine⟨a1,lcO hb rfl,a2,lcO hb rfl,a3,lcO hb rfl,(a4T,a4),lcO hb rfl,(a5T,a5),lcO hb rfl,(a6,a6n,a6c),lcO hb rfl,?_⟩
 exact nbI fun H1 e1 hb1 x1 s1=>rkI ⟨_,rfl,x1.of_nil,.inr (Nat.le_refl _),hb1⟩
def NewInterfaceDefinition.W (n:Nat) (H:Heap) (R:RR):Prop:=
 lw H n 1 pPtr fun(x1:OA)=>
 lw H n 2 pPtr fun(x2:OA)=>
 lw H n 3 pPtr fun(x3:OA)=>
 lw H n 4 pSlc fun(x4:Sl)=>
 lw H n 5 pSlc fun(x5:Sl)=>
 newB H (.cells #[(.string (bs [73,110,116,101,114,102,97,99,101,68,101,102,105,110,105,116,105,111,110])),(.pointer x1),(.pointer x2),(.pointer x3),(.slice x4.1 x4.2.1 x4.2.2),(.slice x5.1 x5.2.1 x5.2.2)] tq251) fun b6 H7=>
 rk [(pq b6)] H7 R
theorem NewInterfaceDefinition.enter (n:Nat) (H:Heap) (R:RR) (h:NewInterfaceDefinition.W n H R):Fn PP fq156 #[(pq n)] H R:=
 fnE Tryz.func156 (hz [(10,pPtr),(14,pPtr),(18,pPtr),(22,pSlc),(26,pSlc)]) (by unfold NewInterfaceDefinition.W;kernel_rfl) h
abbrev kh2:BA:=bs [73,110,116,101,114,102,97,99,101,68,101,102,105,110,105,116,105,111,110]
theorem kf7 (a1:OA) (a2:OA) (a3:OA) (a4:OA) (a4n a4c:Nat) (a5:OA) (a5n a5c:Nat):MkOk fq156 #[sE,.pointer a1,.pointer a2,.pointer a3,.slice a4 a4n a4c,.slice a5 a5n a5c] #[.string kh2,.pointer a1,.pointer a2,.pointer a3,.slice a4 a4n a4c,.slice a5 a5n a5c] tq251:=by
 intro H b hb
 refine NewInterfaceDefinition.enter _ H _ ?_
 unfold NewInterfaceDefinition.W
 refine⟨a1,lcO hb rfl,a2,lcO hb rfl,a3,lcO hb rfl,(a4,a4n,a4c),lcO hb rfl,(a5,a5n,a5c),lcO hb rfl,?_⟩
 exact nbI fun H1 e1 hb1 x1 s1=>rkI ⟨_,rfl,x1.of_nil,.inr (Nat.le_refl _),hb1⟩
def NewUnionDefinition.W (n:Nat) (H:Heap) (R:RR):Prop:=
 lw H n 1 pPtr fun(x1:OA)=>
 lw H n 2 pPtr fun(x2:OA)=>
 lw H n 3 pPtr fun(x3:OA)=>
 lw H n 4 pSlc fun(x4:Sl)=>
 lw H n 5 pSlc fun(x5:Sl)=>
 newB H (.cells #[(.string (bs [85,110,105,111,110,68,101,102,105,110,105,116,105,111,110])),(.pointer x1),(.pointer x2),(.pointer x3),(.slice x4.1 x4.2.1 x4.2.2),(.slice x5.1 x5.2.1 x5.2.2)] tq255) fun b6 H7=>
 rk [(pq b6)] H7 R
theorem NewUnionDefinition.enter (n:Nat) (H:Heap) (R:RR) (h:NewUnionDefinition.W n H R):Fn PP fq157 #[(pq n)] H R:=
 fnE Tryz.func157 (hz [(10,pPtr),(14,pPtr),(18,pPtr),(22,pSlc),(26,pSlc)]) (by unfold NewUnionDefinition.W;kernel_rfl) h
abbrev kh7:BA:=bs [85,110,105,111,110,68,101,102,105,110,105,116,105,111,110]
theorem kfo (a1:OA) (a2:OA) (a3:OA) (a4:OA) (a4n a4c:Nat) (a5:OA) (a5n a5c:Nat):MkOk fq157 #[sE,.pointer a1,.pointer a2,.pointer a3,.slice a4 a4n a4c,.slice a5 a5n a5c] #[.string kh7,.pointer a1,.pointer a2,.pointer a3,.slice a4 a4n a4c,.slice a5 a5n a5c] tq255:=by
 intro H b hb
 refine NewUnionDefinition.enter _ H _ ?_
 unfold NewUnionDefinition.W
 refine⟨a1,lcO hb rfl,a2,lcO hb rfl,a3,lcO hb rfl,(a4,a4n,a4c),lcO hb rfl,(a5,a5n,a5c),lcO hb rfl,?_⟩
 exact nbI fun H1 e1 hb1 x1 s1=>rkI ⟨_,rfl,x1.of_nil,.inr (Nat.le_refl _),hb1⟩
def NewEnumDefinition.W (n:Nat) (H:Heap) (R:RR):Prop:=
 lw H n 1 pPtr fun(x1:OA)=>
 lw H n 2 pPtr fun(x2:OA)=>
 lw H n 3 pPtr fun(x3:OA)=>
 lw H n 4 pSlc fun(x4:Sl)=>
 lw H n 5 pSlc fun(x5:Sl)=>
 newB H (.cells #[(.string (bs [69,110,117,109,68,101,102,105,110,105,116,105,111,110])),(.pointer x1),(.pointer x2),(.pointer x3),(.slice x4.1 x4.2.1 x4.2.2),(.slice x5.1 x5.2.1 x5.2.2)] tq260) fun b6 H7=>
 rk [(pq b6)] H7 R
theorem NewEnumDefinition.enter (n:Nat) (H:Heap) (R:RR) (h:NewEnumDefinition.W n H R):Fn PP fq158 #[(pq n)] H R:=
 fnE Tryz.func158 (hz [(10,pPtr),(14,pPtr),(18,pPtr),(22,pSlc),(26,pSlc)]) (by unfold NewEnumDefinition.W;kernel_rfl) h
abbrev kgU:BA:=bs [69,110,117,109,68,101,102,105,110,105,116,105,111,110]
theorem keW (a1:OA) (a2:OA) (a3:OA) (a4:OA) (a4n a4c:Nat) (a5:OA) (a5n a5c:Nat):MkOk fq158 #[sE,.pointer a1,.pointer a2,.pointer a3,.slice a4 a4n a4c,.slice a5 a5n a5c] #[.string kgU,.pointer a1,.pointer a2,.pointer a3,.slice a4 a4n a4c,.slice a5 a5n a5c] tq260:=by
 intro H b hb
 refine NewEnumDefinition.enter _ H _ ?_
 unfold NewEnumDefinition.W
 refine⟨a1,lcO hb rfl,a2,lcO hb rfl,a3,lcO hb rfl,(a4,a4n,a4c),lcO hb rfl,(a5,a5n,a5c),lcO hb rfl,?_⟩
 exact nbI fun H1 e1 hb1 x1 s1=>rkI ⟨_,rfl,x1.of_nil,.inr (Nat.le_refl _),hb1⟩
def NewEnumValueDefinition.W (n:Nat) (H:Heap) (R:RR):Prop:=
 lw H n 1 pPtr fun(x1:OA)=>
 lw H n 2 pPtr fun(x2:OA)=>
 lw H n 3 pPtr fun(x3:OA)=>
 lw H n 4 pSlc fun(x4:Sl)=>
 newB H (.cells #[(.string (bs [69,110,117,109,86,97,108,117,101,68,101,102,105,110,105,116,105,111,110])),(.pointer x1),(.pointer x2),(.pointer x3),(.slice x4.1 x4.2.1 x4.2.2)] tq125) fun b5 H6=>
 rk [(pq b5)] H6 R
theorem NewEnumValueDefinition.enter (n:Nat) (H:Heap) (R:RR) (h:NewEnumValueDefinition.W n H R):Fn PP fq159 #[(pq n)] H R:=
 fnE Tryz.func159 (hz [(10,pPtr),(14,pPtr),(18,pPtr),(22,pSlc)]) (by unfold NewEnumValueDefinition.W;kernel_rfl) h
abbrev kgV:BA:=bs [69,110,117,109,86,97,108,117,101,68,101,102,105,110,105,116,105,111,110]
theorem keX (a1:OA) (a2:OA) (a3:OA) (a4:OA) (a4n a4c:Nat):MkOk fq159 #[sE,.pointer a1,.pointer a2,.pointer a3,.slice a4 a4n a4c] #[.string kgV,.pointer a1,.pointer a2,.pointer a3,.slice a4 a4n a4c] tq125:=by
 intro H b hb
 refine NewEnumValueDefinition.enter _ H _ ?_
 unfold NewEnumValueDefinition.W
 refine⟨a1,lcO hb rfl,a2,lcO hb rfl,a3,lcO hb rfl,(a4,a4n,a4c),lcO hb rfl,?_⟩
 exact nbI fun H1 e1 hb1 x1 s1=>rkI ⟨_,rfl,x1.of_nil,.inr (Nat.le_refl _),hb1⟩
def NewInputObjectDefinition.W (n:Nat) (H:Heap) (R:RR):Prop:=
 lw H n 1 pPtr fun(x1:OA)=>
 lw H n 2 pPtr fun(x2:OA)=>
 lw H n 3 pPtr fun(x3:OA)=>
 lw H n 4 pSlc fun(x4:Sl)=>
 lw H n 5 pSlc fun(x5:Sl)=>
 newB H (.cells #[(.string (bs [73,110,112,117,116,79,98,106,101,99,116,68,101,102,105,110,105,116,105,111,110])),(.pointer x1),(.pointer x2),(.pointer x3),(.slice x4.1 x4.2.1 x4.2.2),(.slice x5.1 x5.2.1 x5.2.2)] tq265) fun b6 H7=>
 rk [(pq b6)] H7 R
theorem NewInputObjectDefinition.enter (n:Nat) (H:Heap) (R:RR) (h:NewInputObjectDefinition.W n H R):Fn PP fq160 #[(pq n)] H R:=
 fnE Tryz.func160 (hz [(10,pPtr),(14,pPtr),(18,pPtr),(22,pSlc),(26,pSlc)]) (by unfold NewInputObjectDefinition.W;kernel_rfl) h
abbrev kh1:BA:=bs [73,110,112,117,116,79,98,106,101,99,116,68,101,102,105,110,105,116,105,111,110]
theorem kf3 (a1:OA) (a2:OA) (a3:OA) (a4:OA) (a4n a4c:Nat) (a5:OA) (a5n a5c:Nat):MkOk fq160 #[sE,.pointer a1,.pointer a2,.pointer a3,.slice a4 a4n a4c,.slice a5 a5n a5c] #[.string kh1,.pointer a1,.pointer a2,.pointer a3,.slice a4 a4n a4c,.slice a5 a5n a5c] tq265:=by
 intro H b hb
 refine NewInputObjectDefinition.enter _ H _ ?_
 unfold NewInputObjectDefinition.W
 refine⟨a1,lcO hb rfl,a2,lcO hb rfl,a3,lcO hb rfl,(a4,a4n,a4c),lcO hb rfl,(a5,a5n,a5c),lcO hb rfl,?_⟩
 exact nbI fun H1 e1 hb1 x1 s1=>rkI ⟨_,rfl,x1.of_nil,.inr (Nat.le_refl _),hb1⟩
def NewTypeExtensionDefinition.W (n:Nat) (H:Heap) (R:RR):Prop:=
 lw H n 1 pPtr fun(x1:OA)=>
 lw H n 2 pPtr fun(x2:OA)=>
 newB H (.cells #[(.string (bs [84,121,112,101,69,120,116,101,110,115,105,111,110,68,101,102,105,110,105,116,105,111,110])),(.pointer x1),(.pointer x2)] tq269) fun b3 H4=>
 rk [(pq b3)] H4 R
theorem NewTypeExtensionDefinition.enter (n:Nat) (H:Heap) (R:RR) (h:NewTypeExtensionDefinition.W n H R):Fn PP fq161 #[(pq n)] H R:=
 fnE Tryz.func161 (hz [(10,pPtr),(14,pPtr)]) (by unfold NewTypeExtensionDefinition.W;kernel_rfl) h
abbrev kh6:BA:=bs [84,121,112,101,69,120,116,101,110,115,105,111,110,68,101,102,105,110,105,116,105,111,110]
theorem kfn (a1:OA) (a2:OA):MkOk fq161 #[sE,.pointer a1,.pointer a2] #[.string kh6,.pointer a1,.pointer a2] tq269:=by
 intro H b hb
 refine NewTypeExtensionDefinition.enter _ H _ ?_
 unfold NewTypeExtensionDefinition.W
 refine⟨a1,lcO hb rfl,a2,lcO hb rfl,?_⟩
 exact nbI fun H1 e1 hb1 x1 s1=>rkI ⟨_,rfl,x1.of_nil,.inr (Nat.le_refl _),hb1⟩
def NewDirectiveDefinition.W (n:Nat) (H:Heap) (R:RR):Prop:=
 lw H n 1 pPtr fun(x1:OA)=>
 lw H n 2 pPtr fun(x2:OA)=>
 lw H n 3 pPtr fun(x3:OA)=>
 lw H n 4 pSlc fun(x4:Sl)=>
 lw H n 5 pSlc fun(x5:Sl)=>
 newB H (.cells #[(.string (bs [68,105,114,101,99,116,105,118,101,68,101,102,105,110,105,116,105,111,110])),(.pointer x1),(.pointer x2),(.pointer x3),(.slice x4.1 x4.2.1 x4.2.2),(.slice x5.1 x5.2.1 x5.2.2)] tq273) fun b6 H7=>
 rk [(pq b6)] H7 R
theorem NewDirectiveDefinition.enter (n:Nat) (H:Heap) (R:RR) (h:NewDirectiveDefinition.W n H R):Fn PP fq162 #[(pq n)] H R:=
 fnE Tryz.func162 (hz [(10,pPtr),(14,pPtr),(18,pPtr),(22,pSlc),(26,pSlc)]) (by unfold NewDirectiveDefinition.W;kernel_rfl) h
abbrev kgT:BA:=bs [68,105,114,101,99,116,105,118,101,68,101,102,105,110,105,116,105,111,110]
theorem keU (a1:OA) (a2:OA) (a3:OA) (a4:OA) (a4n a4c:Nat) (a5:OA) (a5n a5c:Nat):MkOk fq162 #[sE,.pointer a1,.pointer a2,.pointer a3,.slice a4 a4n a4c,.slice a5 a5n a5c] #[.string kgT,.pointer a1,.pointer a2,.pointer a3,.slice a4 a4n a4c,.slice a5 a5n a5c] tq273:=by
 intro H b hb
 refine NewDirectiveDefinition.enter _ H _ ?_
 unfold NewDirectiveDefinition.W
 refine⟨a1,lcO hb rfl,a2,lcO hb rfl,a3,lcO hb rfl,(a4,a4n,a4c),lcO hb rfl,(a5,a5n,a5c),lcO hb rfl,?_⟩
 exact nbI fun H1 e1 hb1 x1 s1=>rkI ⟨_,rfl,x1.of_nil,.inr (Nat.le_refl _),hb1⟩
def NewOperationDefinition.W (n:Nat) (H:Heap) (R:RR):Prop:=
 k08 H ⟨n,0,none⟩ [(.string (bs [79,112,101,114,97,116,105,111,110,68,101,102,105,110,105,116,105,111,110]))] fun H1=>
 rk [(pq n)] H1 R
theorem NewOperationDefinition.enter (n:Nat) (H:Heap) (R:RR) (h:NewOperationDefinition.W n H R):Fn PP fq166 #[(pq n)] H R:=
 fnE Tryz.func166 (hz []) (by unfold NewOperationDefinition.W;kernel_rfl) h
abbrev kcx:BA:=bs [79,112,101,114,97,116,105,111,110,68,101,102,105,110,105,116,105,111,110]
theorem kba (a1:OA) (a2:BA) (a3:OA) (a4:OA) (a4n a4c:Nat) (a5:OA) (a5n a5c:Nat) (a6:OA):MkOk fq166 #[sE,.pointer a1,.string a2,.pointer a3,.slice a4 a4n a4c,.slice a5 a5n a5c,.pointer a6] #[.string kcx,.pointer a1,.string a2,.pointer a3,.slice a4 a4n a4c,.slice a5 a5n a5c,.pointer a6] tq202:=by
 intro H b hb
 refine NewOperationDefinition.enter _ H _ ?_
 unfold NewOperationDefinition.W
 exact swI hb (by simp) rfl rfl fun H1 e1 hb1 x1 s1=>rkI ⟨b,rfl,x1,.inl rfl,hb1⟩
def NewFragmentDefinition.W (n:Nat) (H:Heap) (R:RR):Prop:=
 lw H n 1 pPtr fun(x1:OA)=>
 lw H n 2 pStr fun(x2:BA)=>
 lw H n 3 pPtr fun(x3:OA)=>
 lw H n 4 pSlc fun(x4:Sl)=>
 lw H n 5 pPtr fun(x5:OA)=>
 lw H n 6 pSlc fun(x6:Sl)=>
 lw H n 7 pPtr fun(x7:OA)=>
 newB H (.cells #[(.string (bs [70,114,97,103,109,101,110,116,68,101,102,105,110,105,116,105,111,110])),(.pointer x1),(.string x2),(.pointer x3),(.slice x4.1 x4.2.1 x4.2.2),(.pointer x5),(.slice x6.1 x6.2.1 x6.2.2),(.pointer x7)] tq205) fun b8 H9=>
 rk [(pq b8)] H9 R
theorem NewFragmentDefinition.enter (n:Nat) (H:Heap) (R:RR) (h:NewFragmentDefinition.W n H R):Fn PP fq169 #[(pq n)] H R:=
 fnE Tryz.func169 (hz [(10,pPtr),(14,pStr),(18,pPtr),(22,pSlc),(26,pPtr),(30,pSlc),(34,pPtr)]) (by unfold NewFragmentDefinition.W;kernel_rfl) h
abbrev kgY:BA:=bs [70,114,97,103,109,101,110,116,68,101,102,105,110,105,116,105,111,110]
theorem kf1 (a1:OA) (a2:BA) (a3:OA) (a4:OA) (a4n a4c:Nat) (a5:OA) (a6:OA) (a6n a6c:Nat) (a7:OA):MkOk fq169 #[sE,.pointer a1,.string a2,.pointer a3,.slice a4 a4n a4c,.pointer a5,.slice a6 a6n a6c,.pointer a7] #[.string kgY,.pointer a1,.string a2,.pointer a3,.slice a4 a4n a4c,.pointer a5,.slice a6 a6n a6c,.pointer a7] tq205:=by
 intro H b hb
 refine NewFragmentDefinition.enter _ H _ ?_
 unfold NewFragmentDefinition.W
 refine⟨a1,lcO hb rfl,a2,lcO hb rfl,a3,lcO hb rfl,(a4,a4n,a4c),lcO hb rfl,a5,lcO hb rfl,(a6,a6n,a6c),lcO hb rfl,a7,lcO hb rfl,?_⟩
 exact nbI fun H1 e1 hb1 x1 s1=>rkI ⟨_,rfl,x1.of_nil,.inr (Nat.le_refl _),hb1⟩
def NewVariableDefinition.W (n:Nat) (H:Heap) (R:RR):Prop:=
 k08 H ⟨n,0,none⟩ [(.string (bs [86,97,114,105,97,98,108,101,68,101,102,105,110,105,116,105,111,110]))] fun H1=>
 rk [(pq n)] H1 R
theorem NewVariableDefinition.enter (n:Nat) (H:Heap) (R:RR) (h:NewVariableDefinition.W n H R):Fn PP fq172 #[(pq n)] H R:=
 fnE Tryz.func172 (hz []) (by unfold NewVariableDefinition.W;kernel_rfl) h
abbrev kh8:BA:=bs [86,97,114,105,97,98,108,101,68,101,102,105,110,105,116,105,111,110]
theorem kbc (a1:OA) (a2:OA) (a3:Value) (a4:Value):MkOk fq172 #[sE,.pointer a1,.pointer a2,a3,a4] #[.string kh8,.pointer a1,.pointer a2,a3,a4] tq175:=by
 intro H b hb
 refine NewVariableDefinition.enter _ H _ ?_
 unfold NewVariableDefinition.W
 exact swI hb (by simp) rfl rfl fun H1 e1 hb1 x1 s1=>rkI ⟨b,rfl,x1,.inl rfl,hb1⟩
def NewField.W (n:Nat) (H:Heap) (R:RR):Prop:=
 k08 H ⟨n,0,none⟩ [(.string (bs [70,105,101,108,100]))] fun H1=>
 rk [(pq n)] H1 R
theorem NewField.enter (n:Nat) (H:Heap) (R:RR) (h:NewField.W n H R):Fn PP fq174 #[(pq n)] H R:=
 fnE Tryz.func174 (hz []) (by unfold NewField.W;kernel_rfl) h
abbrev kgW:BA:=bs [70,105,101,108,100]
theorem kb8 (a1:OA) (a2:OA) (a3:OA) (a4:OA) (a4n a4c:Nat) (a5:OA) (a5n a5c:Nat) (a6:OA):MkOk fq174 #[sE,.pointer a1,.pointer a2,.pointer a3,.slice a4 a4n a4c,.slice a5 a5n a5c,.pointer a6] #[.string kgW,.pointer a1,.pointer a2,.pointer a3,.slice a4 a4n a4c,.slice a5 a5n a5c,.pointer a6] tq194:=by
 intro H b hb
 refine NewField.enter _ H _ ?_
 unfold NewField.W
 exact swI hb (by simp) rfl rfl fun H1 e1 hb1 x1 s1=>rkI ⟨b,rfl,x1,.inl rfl,hb1⟩
def NewFragmentSpread.W (n:Nat) (H:Heap) (R:RR):Prop:=
 lw H n 1 pPtr fun(x1:OA)=>
 lw H n 2 pPtr fun(x2:OA)=>
 lw H n 3 pSlc fun(x3:Sl)=>
 newB H (.cells #[(.string (bs [70,114,97,103,109,101,110,116,83,112,114,101,97,100])),(.pointer x1),(.pointer x2),(.slice x3.1 x3.2.1 x3.2.2)] tq197) fun b4 H5=>
 rk [(pq b4)] H5 R
theorem NewFragmentSpread.enter (n:Nat) (H:Heap) (R:RR) (h:NewFragmentSpread.W n H R):Fn PP fq175 #[(pq n)] H R:=
 fnE Tryz.func175 (hz [(10,pPtr),(14,pPtr),(18,pSlc)]) (by unfold NewFragmentSpread.W;kernel_rfl) h
abbrev kgZ:BA:=bs [70,114,97,103,109,101,110,116,83,112,114,101,97,100]
theorem kf2 (a1:OA) (a2:OA) (a3:OA) (a3n a3c:Nat):MkOk fq175 #[sE,.pointer a1,.pointer a2,.slice a3 a3n a3c] #[.string kgZ,.pointer a1,.pointer a2,.slice a3 a3n a3c] tq197:=by
 intro H b hb
 refine NewFragmentSpread.enter _ H _ ?_
 unfold NewFragmentSpread.W
 refine⟨a1,lcO hb rfl,a2,lcO hb rfl,(a3,a3n,a3c),lcO hb rfl,?_⟩
 exact nbI fun H1 e1 hb1 x1 s1=>rkI ⟨_,rfl,x1.of_nil,.inr (Nat.le_refl _),hb1⟩
def NewInlineFragment.W (n:Nat) (H:Heap) (R:RR):Prop:=
 lw H n 1 pPtr fun(x1:OA)=>
 lw H n 2 pPtr fun(x2:OA)=>
 lw H n 3 pSlc fun(x3:Sl)=>
 lw H n 4 pPtr fun(x4:OA)=>
 newB H (.cells #[(.string (bs [73,110,108,105,110,101,70,114,97,103,109,101,110,116])),(.pointer x1),(.pointer x2),(.slice x3.1 x3.2.1 x3.2.2),(.pointer x4)] tq199) fun b5 H6=>
 rk [(pq b5)] H6 R
theorem NewInlineFragment.enter (n:Nat) (H:Heap) (R:RR) (h:NewInlineFragment.W n H R):Fn PP fq176 #[(pq n)] H R:=
 fnE Tryz.func176 (hz [(10,pPtr),(14,pPtr),(18,pSlc),(22,pPtr)]) (by unfold NewInlineFragment.W;kernel_rfl) h
abbrev kh0:BA:=bs [73,110,108,105,110,101,70,114,97,103,109,101,110,116]
theorem kb9 (a1:OA) (a2:OA) (a3:OA) (a3n a3c:Nat) (a4:OA):MkOk fq176 #[sE,.pointer a1,.pointer a2,.slice a3 a3n a3c,.pointer a4] #[.string kh0,.pointer a1,.pointer a2,.slice a3 a3n a3c,.pointer a4] tq199:=by
 intro H b hb
 refine NewInlineFragment.enter _ H _ ?_
 unfold NewInlineFragment.W
 refine⟨a1,lcO hb rfl,a2,lcO hb rfl,(a3,a3n,a3c),lcO hb rfl,a4,lcO hb rfl,?_⟩
 exact nbI fun H1 e1 hb1 x1 s1=>rkI ⟨_,rfl,x1.of_nil,.inr (Nat.le_refl _),hb1⟩
def NewSelectionSet.W (n:Nat) (H:Heap) (R:RR):Prop:=
 k08 H ⟨n,0,none⟩ [(.string (bs [83,101,108,101,99,116,105,111,110,83,101,116]))] fun H1=>
 rk [(pq n)] H1 R
theorem NewSelectionSet.enter (n:Nat) (H:Heap) (R:RR) (h:NewSelectionSet.W n H R):Fn PP fq208 #[(pq n)] H R:=
 fnE Tryz.func208 (hz []) (by unfold NewSelectionSet.W;kernel_rfl) h
abbrev kh5:BA:=bs [83,101,108,101,99,116,105,111,110,83,101,116]
theorem kfj (a1:OA) (a2:OA) (a2n a2c:Nat):MkOk fq208 #[sE,.pointer a1,.slice a2 a2n a2c] #[.string kh5,.pointer a1,.slice a2 a2n a2c] tq322:=by
 intro H b hb
 refine NewSelectionSet.enter _ H _ ?_
 unfold NewSelectionSet.W
 exact swI hb (by simp) rfl rfl fun H1 e1 hb1 x1 s1=>rkI ⟨b,rfl,x1,.inl rfl,hb1⟩
def NewArgument.W (n:Nat) (H:Heap) (R:RR):Prop:=
 k08 H ⟨n,0,none⟩ [(.string (bs [65,114,103,117,109,101,110,116]))] fun H1=>
 rk [(pq n)] H1 R
theorem NewArgument.enter (n:Nat) (H:Heap) (R:RR) (h:NewArgument.W n H R):Fn PP fq177 #[(pq n)] H R:=
 fnE Tryz.func177 (hz []) (by unfold NewArgument.W;kernel_rfl) h
abbrev kcj:BA:=bs [65,114,103,117,109,101,110,116]
theorem keT (a1:OA) (a2:OA) (a3:Value):MkOk fq177 #[sE,.pointer a1,.pointer a2,a3] #[.string kcj,.pointer a1,.pointer a2,a3] tq180:=by
 intro H b hb
 refine NewArgument.enter _ H _ ?_
 unfold NewArgument.W
 exact swI hb (by simp) rfl rfl fun H1 e1 hb1 x1 s1=>rkI ⟨b,rfl,x1,.inl rfl,hb1⟩
def NewDirective.W (n:Nat) (H:Heap) (R:RR):Prop:=
 lw H n 1 pPtr fun(x1:OA)=>
 lw H n 2 pPtr fun(x2:OA)=>
 lw H n 3 pSlc fun(x3:Sl)=>
 newB H (.cells #[(.string (bs [68,105,114,101,99,116,105,118,101])),(.pointer x1),(.pointer x2),(.slice x3.1 x3.2.1 x3.2.2)] tq182) fun b4 H5=>
 rk [(pq b4)] H5 R
theorem NewDirective.enter (n:Nat) (H:Heap) (R:RR) (h:NewDirective.W n H R):Fn PP fq178 #[(pq n)] H R:=
 fnE Tryz.func178 (hz [(10,pPtr),(14,pPtr),(18,pSlc)]) (by unfold NewDirective.W;kernel_rfl) h
abbrev kcl:BA:=bs [68,105,114,101,99,116,105,118,101]
theorem keV (a1:OA) (a2:OA) (a3:OA) (a3n a3c:Nat):MkOk fq178 #[sE,.pointer a1,.pointer a2,.slice a3 a3n a3c] #[.string kcl,.pointer a1,.pointer a2,.slice a3 a3n a3c] tq182:=by
 intro H b hb
 refine NewDirective.enter _ H _ ?_
 unfold NewDirective.W
 refine⟨a1,lcO hb rfl,a2,lcO hb rfl,(a3,a3n,a3c),lcO hb rfl,?_⟩
 exact nbI fun H1 e1 hb1 x1 s1=>rkI ⟨_,rfl,x1.of_nil,.inr (Nat.le_refl _),hb1⟩
def NewVariable.W (n:Nat) (H:Heap) (R:RR):Prop:=
 k08 H ⟨n,0,none⟩ [(.string (bs [86,97,114,105,97,98,108,101]))] fun H1=>
 rk [(pq n)] H1 R
theorem NewVariable.enter (n:Nat) (H:Heap) (R:RR) (h:NewVariable.W n H R):Fn PP fq209 #[(pq n)] H R:=
 fnE Tryz.func209 (hz []) (by unfold NewVariable.W;kernel_rfl) h
abbrev k9z:BA:=bs [86,97,114,105,97,98,108,101]
theorem kfp (a1:OA) (a2:OA):MkOk fq209 #[sE,.pointer a1,.pointer a2] #[.string k9z,.pointer a1,.pointer a2] tq176:=by
 intro H b hb
 refine NewVariable.enter _ H _ ?_
 unfold NewVariable.W
 exact swI hb (by simp) rfl rfl fun H1 e1 hb1 x1 s1=>rkI ⟨b,rfl,x1,.inl rfl,hb1⟩
def NewIntValue.W (n:Nat) (H:Heap) (R:RR):Prop:=
 lw H n 1 pPtr fun(x1:OA)=>
 lw H n 2 pStr fun(x2:BA)=>
 newB H (.cells #[(.string (bs [73,110,116,86,97,108,117,101])),(.pointer x1),(.string x2)] tq301) fun b3 H4=>
 rk [(pq b3)] H4 R
theorem NewIntValue.enter (n:Nat) (H:Heap) (R:RR) (h:NewIntValue.W n H R):Fn PP fq212 #[(pq n)] H R:=
 fnE Tryz.func212 (hz [(10,pPtr),(14,pStr)]) (by unfold NewIntValue.W;kernel_rfl) h
abbrev kcp:BA:=bs [73,110,116,86,97,108,117,101]
theorem kf6 (a1:OA) (a2:BA):MkOk fq212 #[sE,.pointer a1,.string a2] #[.string kcp,.pointer a1,.string a2] tq301:=by
 intro H b hb
 refine NewIntValue.enter _ H _ ?_
 unfold NewIntValue.W
 refine⟨a1,lcO hb rfl,a2,lcO hb rfl,?_⟩
 exact nbI fun H1 e1 hb1 x1 s1=>rkI ⟨_,rfl,x1.of_nil,.inr (Nat.le_refl _),hb1⟩
def NewFloatValue.W (n:Nat) (H:Heap) (R:RR):Prop:=
 lw H n 1 pPtr fun(x1:OA)=>
 lw H n 2 pStr fun(x2:BA)=>
 newB H (.cells #[(.string (bs [70,108,111,97,116,86,97,108,117,101])),(.pointer x1),(.string x2)] tq303) fun b3 H4=>
 rk [(pq b3)] H4 R
theorem NewFloatValue.enter (n:Nat) (H:Heap) (R:RR) (h:NewFloatValue.W n H R):Fn PP fq213 #[(pq n)] H R:=
 fnE Tryz.func213 (hz [(10,pPtr),(14,pStr)]) (by unfold NewFloatValue.W;kernel_rfl) h
abbrev kcn:BA:=bs [70,108,111,97,116,86,97,108,117,101]
theorem kf0 (a1:OA) (a2:BA):MkOk fq213 #[sE,.pointer a1,.string a2] #[.string kcn,.pointer a1,.string a2] tq303:=by
 intro H b hb
 refine NewFloatValue.enter _ H _ ?_
 unfold NewFloatValue.W
 refine⟨a1,lcO hb rfl,a2,lcO hb rfl,?_⟩
 exact nbI fun H1 e1 hb1 x1 s1=>rkI ⟨_,rfl,x1.of_nil,.inr (Nat.le_refl _),hb1⟩
def NewStringValue.W (n:Nat) (H:Heap) (R:RR):Prop:=
 lw H n 1 pPtr fun(x1:OA)=>
 lw H n 2 pStr fun(x2:BA)=>
 newB H (.cells #[(.string (bs [83,116,114,105,110,103,86,97,108,117,101])),(.pointer x1),(.string x2)] tq183) fun b3 H4=>
 rk [(pq b3)] H4 R
theorem NewStringValue.enter (n:Nat) (H:Heap) (R:RR) (h:NewStringValue.W n H R):Fn PP fq206 #[(pq n)] H R:=
 fnE Tryz.func206 (hz [(10,pPtr),(14,pStr)]) (by unfold NewStringValue.W;kernel_rfl) h
abbrev k9y:BA:=bs [83,116,114,105,110,103,86,97,108,117,101]
theorem kfl (a1:OA) (a2:BA):MkOk fq206 #[sE,.pointer a1,.string a2] #[.string k9y,.pointer a1,.string a2] tq183:=by
 intro H b hb
 refine NewStringValue.enter _ H _ ?_
 unfold NewStringValue.W
 refine⟨a1,lcO hb rfl,a2,lcO hb rfl,?_⟩
 exact nbI fun H1 e1 hb1 x1 s1=>rkI ⟨_,rfl,x1.of_nil,.inr (Nat.le_refl _),hb1⟩
def NewBooleanValue.W (n:Nat) (H:Heap) (R:RR):Prop:=
 lw H n 1 pPtr fun(x1:OA)=>
 lw H n 2 k04 fun(x2:Bool)=>
 newB H (.cells #[(.string (bs [66,111,111,108,101,97,110,86,97,108,117,101])),(.pointer x1),(.bool x2)] tq306) fun b3 H4=>
 rk [(pq b3)] H4 R
theorem NewBooleanValue.enter (n:Nat) (H:Heap) (R:RR) (h:NewBooleanValue.W n H R):Fn PP fq214 #[(pq n)] H R:=
 fnE Tryz.func214 (hz [(10,pPtr),(14,k04)]) (by unfold NewBooleanValue.W;kernel_rfl) h
abbrev kck:BA:=bs [66,111,111,108,101,97,110,86,97,108,117,101]
theorem kb7 (a1:OA) (a2:Bool):MkOk fq214 #[sE,.pointer a1,.bool a2] #[.string kck,.pointer a1,.bool a2] tq306:=by
 intro H b hb
 refine NewBooleanValue.enter _ H _ ?_
 unfold NewBooleanValue.W
 refine⟨a1,lcO hb rfl,a2,lcO hb rfl,?_⟩
 exact nbI fun H1 e1 hb1 x1 s1=>rkI ⟨_,rfl,x1.of_nil,.inr (Nat.le_refl _),hb1⟩
def NewEnumValue.W (n:Nat) (H:Heap) (R:RR):Prop:=
 lw H n 1 pPtr fun(x1:OA)=>
 lw H n 2 pStr fun(x2:BA)=>
 newB H (.cells #[(.string (bs [69,110,117,109,86,97,108,117,101])),(.pointer x1),(.string x2)] tq308) fun b3 H4=>
 rk [(pq b3)] H4 R
theorem NewEnumValue.enter (n:Nat) (H:Heap) (R:RR) (h:NewEnumValue.W n H R):Fn PP fq215 #[(pq n)] H R:=
 fnE Tryz.func215 (hz [(10,pPtr),(14,pStr)]) (by unfold NewEnumValue.W;kernel_rfl) h
abbrev kcm:BA:=bs [69,110,117,109,86,97,108,117,101]
theorem keY (a1:OA) (a2:BA):MkOk fq215 #[sE,.pointer a1,.string a2] #[.string kcm,.pointer a1,.string a2] tq308:=by
 intro H b hb
 refine NewEnumValue.enter _ H _ ?_
 unfold NewEnumValue.W
 refine⟨a1,lcO hb rfl,a2,lcO hb rfl,?_⟩
 exact nbI fun H1 e1 hb1 x1 s1=>rkI ⟨_,rfl,x1.of_nil,.inr (Nat.le_refl _),hb1⟩
def NewListValue.W (n:Nat) (H:Heap) (R:RR):Prop:=
 lw H n 1 pPtr fun(x1:OA)=>
 lw H n 2 pSlc fun(x2:Sl)=>
 newB H (.cells #[(.string (bs [76,105,115,116,86,97,108,117,101])),(.pointer x1),(.slice x2.1 x2.2.1 x2.2.2)] tq312) fun b3 H4=>
 rk [(pq b3)] H4 R
theorem NewListValue.enter (n:Nat) (H:Heap) (R:RR) (h:NewListValue.W n H R):Fn PP fq234 #[(pq n)] H R:=
 fnE Tryz.func234 (hz [(10,pPtr),(14,pSlc)]) (by unfold NewListValue.W;kernel_rfl) h
abbrev kcr:BA:=bs [76,105,115,116,86,97,108,117,101]
theorem kf8 (a1:OA) (a2:OA) (a2n a2c:Nat):MkOk fq234 #[sE,.pointer a1,.slice a2 a2n a2c] #[.string kcr,.pointer a1,.slice a2 a2n a2c] tq312:=by
 intro H b hb
 refine NewListValue.enter _ H _ ?_
 unfold NewListValue.W
 refine⟨a1,lcO hb rfl,(a2,a2n,a2c),lcO hb rfl,?_⟩
 exact nbI fun H1 e1 hb1 x1 s1=>rkI ⟨_,rfl,x1.of_nil,.inr (Nat.le_refl _),hb1⟩
def NewObjectValue.W (n:Nat) (H:Heap) (R:RR):Prop:=
 lw H n 1 pPtr fun(x1:OA)=>
 lw H n 2 pSlc fun(x2:Sl)=>
 newB H (.cells #[(.string (bs [79,98,106,101,99,116,86,97,108,117,101])),(.pointer x1),(.slice x2.1 x2.2.1 x2.2.2)] tq316) fun b3 H4=>
 rk [(pq b3)] H4 R
theorem NewObjectValue.enter (n:Nat) (H:Heap) (R:RR) (h:NewObjectValue.W n H R):Fn PP fq236 #[(pq n)] H R:=
 fnE Tryz.func236 (hz [(10,pPtr),(14,pSlc)]) (by unfold NewObjectValue.W;kernel_rfl) h
abbrev kcw:BA:=bs [79,98,106,101,99,116,86,97,108,117,101]
theorem kfg (a1:OA) (a2:OA) (a2n a2c:Nat):MkOk fq236 #[sE,.pointer a1,.slice a2 a2n a2c] #[.string kcw,.pointer a1,.slice a2 a2n a2c] tq316:=by
 intro H b hb
 refine NewObjectValue.enter _ H _ ?_
 unfold NewObjectValue.W
 refine⟨a1,lcO hb rfl,(a2,a2n,a2c),lcO hb rfl,?_⟩
 exact nbI fun H1 e1 hb1 x1 s1=>rkI ⟨_,rfl,x1.of_nil,.inr (Nat.le_refl _),hb1⟩
def NewObjectField.W (n:Nat) (H:Heap) (R:RR):Prop:=
 lw H n 2 pPtr fun(x1:OA)=>
 lw H n 1 pPtr fun(x2:OA)=>
 lw H n 3 pIf fun(x3:(Nat×Nat))=>
 newB H (.cells #[(.string (bs [79,98,106,101,99,116,70,105,101,108,100])),(.pointer x2),(.pointer x1),(.iface x3.1 (pq x3.2))] tq319) fun b4 H5=>
 rk [(pq b4)] H5 R
theorem NewObjectField.enter (n:Nat) (H:Heap) (R:RR) (h:NewObjectField.W n H R):Fn PP fq248 #[(pq n)] H R:=
 fnE Tryz.func248 (hz [(10,pPtr),(14,pPtr),(18,pIf)]) (by unfold NewObjectField.W;kernel_rfl) h
abbrev kcv:BA:=bs [79,98,106,101,99,116,70,105,101,108,100]
theorem kff (a1:OA) (a2:OA) (a3T a3:Nat):MkOk fq248 #[sE,.pointer a1,.pointer a2,.iface a3T (pq a3)] #[.string kcv,.pointer a1,.pointer a2,.iface a3T (pq a3)] tq319:=by
 intro H b hb
 refine NewObjectField.enter _ H _ ?_
 unfold NewObjectField.W
 refine⟨a2,lcO hb rfl,a1,lcO hb rfl,(a3T,a3),lcO hb rfl,?_⟩
 exact nbI fun H1 e1 hb1 x1 s1=>rkI ⟨_,rfl,x1.of_nil,.inr (Nat.le_refl _),hb1⟩
def NewList.W (n:Nat) (H:Heap) (R:RR):Prop:=
 lw H n 1 pPtr fun(x1:OA)=>
 lw H n 2 pIf fun(x2:(Nat×Nat))=>
 newB H (.cells #[(.string (bs [76,105,115,116])),(.pointer x1),(.iface x2.1 (pq x2.2))] tq297) fun b3 H4=>
 rk [(pq b3)] H4 R
theorem NewList.enter (n:Nat) (H:Heap) (R:RR) (h:NewList.W n H R):Fn PP fq204 #[(pq n)] H R:=
 fnE Tryz.func204 (hz [(10,pPtr),(14,pIf)]) (by unfold NewList.W;kernel_rfl) h
abbrev kcq:BA:=bs [76,105,115,116]
theorem kf9 (a1:OA) (a2T a2:Nat):MkOk fq204 #[sE,.pointer a1,.iface a2T (pq a2)] #[.string kcq,.pointer a1,.iface a2T (pq a2)] tq297:=by
 intro H b hb
 refine NewList.enter _ H _ ?_
 unfold NewList.W
 refine⟨a1,lcO hb rfl,(a2T,a2),lcO hb rfl,?_⟩
 exact nbI fun H1 e1 hb1 x1 s1=>rkI ⟨_,rfl,x1.of_nil,.inr (Nat.le_refl _),hb1⟩
def NewNonNull.W (n:Nat) (H:Heap) (R:RR):Prop:=
 lw H n 1 pPtr fun(x1:OA)=>
 lw H n 2 pIf fun(x2:(Nat×Nat))=>
 newB H (.cells #[(.string (bs [78,111,110,78,117,108,108])),(.pointer x1),(.iface x2.1 (pq x2.2))] tq299) fun b3 H4=>
 rk [(pq b3)] H4 R
theorem NewNonNull.enter (n:Nat) (H:Heap) (R:RR) (h:NewNonNull.W n H R):Fn PP fq205 #[(pq n)] H R:=
 fnE Tryz.func205 (hz [(10,pPtr),(14,pIf)]) (by unfold NewNonNull.W;kernel_rfl) h
abbrev kcu:BA:=bs [78,111,110,78,117,108,108]
theorem kfd (a1:OA) (a2T a2:Nat):MkOk fq205 #[sE,.pointer a1,.iface a2T (pq a2)] #[.string kcu,.pointer a1,.iface a2T (pq a2)] tq299:=by
 intro H b hb
 refine NewNonNull.enter _ H _ ?_
 unfold NewNonNull.W
 refine⟨a1,lcO hb rfl,(a2T,a2),lcO hb rfl,?_⟩
 exact nbI fun H1 e1 hb1 x1 s1=>rkI ⟨_,rfl,x1.of_nil,.inr (Nat.le_refl _),hb1⟩
def k5j.W (n:Nat) (H:Heap) (R:RR):Prop:=
 lw H n 1 pPtr fun(x1:OA)=>
 lw H n 2 pPtr fun(x2:OA)=>
 lw H n 3 pPtr fun(x3:OA)=>
 lw H n 4 pIf fun(x4:(Nat×Nat))=>
 lw H n 5 ⟨Unit,fun _=>nI⟩ fun(_x5:Unit)=>
 lw H n 6 pSlc fun(x6:Sl)=>
 newB H (.cells #[(.string (bs [73,110,112,117,116,86,97,108,117,101,68,101,102,105,110,105,116,105,111,110])),(.pointer x1),(.pointer x2),(.pointer x3),(.iface x4.1 (pq x4.2)),nI,(.slice x6.1 x6.2.1 x6.2.2)] tq189) fun b7 H8=>
 rk [(pq b7)] H8 R
theorem k5j.enter (n:Nat) (H:Heap) (R:RR) (h:k5j.W n H R):Fn PP fq155 #[(pq n)] H R:=
 fnE Tryz.func155 (hz [(10,pPtr),(14,pPtr),(18,pPtr),(22,pIf),(26,⟨Unit,fun _=>nI⟩),(30,pSlc)]) (by unfold k5j.W;kernel_rfl) h
theorem kf4 (a1:OA) (a2:OA) (a3:OA) (a4T a4:Nat) (a6:OA) (a6n a6c:Nat):MkOk fq155 #[sE,.pointer a1,.pointer a2,.pointer a3,.iface a4T (pq a4),nI,.slice a6 a6n a6c] #[.string kco,.pointer a1,.pointer a2,.pointer a3,.iface a4T (pq a4),nI,.slice a6 a6n a6c] tq189:=by
 intro H b hb
 refine k5j.enter _ H _ ?_
 unfold k5j.W
 refine⟨a1,lcO hb rfl,a2,lcO hb rfl,a3,lcO hb rfl,(a4T,a4),lcO hb rfl,(),lcO hb rfl,(a6,a6n,a6c),lcO hb rfl,?_⟩
 exact nbI fun H1 e1 hb1 x1 s1=>rkI ⟨_,rfl,x1.of_nil,.inr (Nat.le_refl _),hb1⟩
end Go.Vx
