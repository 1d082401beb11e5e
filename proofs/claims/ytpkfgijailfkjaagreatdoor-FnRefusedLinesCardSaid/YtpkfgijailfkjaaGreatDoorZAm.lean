/- A part of the proof of what the last text of this claim says: WN. Conditions: none. -/
import Derived.Test.YtpkfgijailfkjaaGreatDoorZAb
namespace Go.Vx
open Go Go.Proofs
set_option maxRecDepth 100000
def MkOk (f:FuncId) (c c':Array Value) (t:TypeId):Prop:= ∀(H:Heap) (b:Nat),H[b]?=some (.cells c t)→Fn PP f #[.pointer (some ⟨b,0,none⟩)] H fun v H'=>
 ∃b':Nat,v= .pointer (some ⟨b',0,none⟩)∧Ext [b] H H'∧(b'=b∨H.size≤b')∧H'[b']?=some (.cells c' t)
def NewLocation.W (n:Nat) (H:Heap) (R:RR):Prop:=
 lw H n 0 (pInt .i64) fun(x1:Int)=>
 lw H n 1 (pInt .i64) fun(x2:Int)=>
 lw H n 2 pBlk fun(x3:Nat)=>
 newB H (.cells #[(.int .i64 x1),(.int .i64 x2),(pq x3)] tq141) fun b4 H5=>
 retK (some [(pq b4)]) H5 R
theorem NewLocation.enter (n:Nat) (H:Heap) (R:RR) (h:NewLocation.W n H R):Fn PP fq81 #[(pq n)] H R:=
 fnS mixed Tryz.func81 (hz [(10,(pInt .i64)),(14,(pInt .i64)),(18,pBlk)]) _ H R (Eq.mp (by unfold NewLocation.W;kernel_rfl) h)
def NewName.W (n:Nat) (H:Heap) (R:RR):Prop:=
 storeW H ⟨n,0,none⟩ [(.string (bs [78,97,109,101]))] fun H1=>
 retK (some [(pq n)]) H1 R
theorem NewName.enter (n:Nat) (H:Heap) (R:RR) (h:NewName.W n H R):Fn PP fq101 #[(pq n)] H R:=
 fnS mixed Tryz.func101 (hz []) _ H R (Eq.mp (by unfold NewName.W;kernel_rfl) h)
abbrev kName:ByteArray:=bs [78,97,109,101]
theorem NewName_mk (a1:Option Addr) (a2:ByteArray):MkOk fq101 #[.string (bs []),.pointer a1,.string a2] #[.string kName,.pointer a1,.string a2] tq168:=by
 intro H b hb
 refine NewName.enter _ H _ ?_
 unfold NewName.W
 exact swI hb (by simp) rfl rfl fun H1 e1 hb1 x1 s1=>rkI ⟨b,rfl,x1,.inl rfl,hb1⟩
def NewNamed.W (n:Nat) (H:Heap) (R:RR):Prop:=
 storeW H ⟨n,0,none⟩ [(.string (bs [78,97,109,101,100]))] fun H1=>
 retK (some [(pq n)]) H1 R
theorem NewNamed.enter (n:Nat) (H:Heap) (R:RR) (h:NewNamed.W n H R):Fn PP fq184 #[(pq n)] H R:=
 fnS mixed Tryz.func184 (hz []) _ H R (Eq.mp (by unfold NewNamed.W;kernel_rfl) h)
abbrev kNamed:ByteArray:=bs [78,97,109,101,100]
theorem NewNamed_mk (a1:Option Addr) (a2:Option Addr):MkOk fq184 #[.string (bs []),.pointer a1,.pointer a2] #[.string kNamed,.pointer a1,.pointer a2] tq330:=by
 intro H b hb
 refine NewNamed.enter _ H _ ?_
 unfold NewNamed.W
 exact swI hb (by simp) rfl rfl fun H1 e1 hb1 x1 s1=>rkI ⟨b,rfl,x1,.inl rfl,hb1⟩
def NewOperationTypeDefinition.W (n:Nat) (H:Heap) (R:RR):Prop:=
 lw H n 1 pPtr fun(x1:Option Addr)=>
 lw H n 2 pStr fun(x2:ByteArray)=>
 lw H n 3 pPtr fun(x3:Option Addr)=>
 newB H (.cells #[(.string (bs [79,112,101,114,97,116,105,111,110,84,121,112,101,68,101,102,105,110,105,116,105,111,110])),(.pointer x1),(.string x2),(.pointer x3)] tq333) fun b4 H5=>
 retK (some [(pq b4)]) H5 R
theorem NewOperationTypeDefinition.enter (n:Nat) (H:Heap) (R:RR) (h:NewOperationTypeDefinition.W n H R):Fn PP fq185 #[(pq n)] H R:=
 fnS mixed Tryz.func185 (hz [(10,pPtr),(14,pStr),(18,pPtr)]) _ H R (Eq.mp (by unfold NewOperationTypeDefinition.W;kernel_rfl) h)
abbrev kOperationTypeDefinition:ByteArray:=bs [79,112,101,114,97,116,105,111,110,84,121,112,101,68,101,102,105,110,105,116,105,111,110]
theorem NewOperationTypeDefinition_mk (a1:Option Addr) (a2:ByteArray) (a3:Option Addr):MkOk fq185 #[.string (bs []),.pointer a1,.string a2,.pointer a3] #[.string kOperationTypeDefinition,.pointer a1,.string a2,.pointer a3] tq333:=by
 intro H b hb
 refine NewOperationTypeDefinition.enter _ H _ ?_
 unfold NewOperationTypeDefinition.W
 refine⟨a1,lcO hb rfl,a2,lcO hb rfl,a3,lcO hb rfl,?_⟩
 exact nbI fun H1 e1 hb1 x1 s1=>rkI ⟨_,rfl,x1.of_nil,.inr (Nat.le_refl _),hb1⟩
def NewScalarDefinition.W (n:Nat) (H:Heap) (R:RR):Prop:=
 lw H n 1 pPtr fun(x1:Option Addr)=>
 lw H n 2 pPtr fun(x2:Option Addr)=>
 lw H n 3 pPtr fun(x3:Option Addr)=>
 lw H n 4 pSlc fun(x4:Sl)=>
 newB H (.cells #[(.string (bs [83,99,97,108,97,114,68,101,102,105,110,105,116,105,111,110])),(.pointer x1),(.pointer x2),(.pointer x3),(.slice x4.1 x4.2.1 x4.2.2)] tq236) fun b5 H6=>
 retK (some [(pq b5)]) H6 R
theorem NewScalarDefinition.enter (n:Nat) (H:Heap) (R:RR) (h:NewScalarDefinition.W n H R):Fn PP fq144 #[(pq n)] H R:=
 fnS mixed Tryz.func144 (hz [(10,pPtr),(14,pPtr),(18,pPtr),(22,pSlc)]) _ H R (Eq.mp (by unfold NewScalarDefinition.W;kernel_rfl) h)
abbrev kScalarDefinition:ByteArray:=bs [83,99,97,108,97,114,68,101,102,105,110,105,116,105,111,110]
theorem NewScalarDefinition_mk (a1:Option Addr) (a2:Option Addr) (a3:Option Addr) (a4:Option Addr) (a4n a4c:Nat):MkOk fq144 #[.string (bs []),.pointer a1,.pointer a2,.pointer a3,.slice a4 a4n a4c] #[.string kScalarDefinition,.pointer a1,.pointer a2,.pointer a3,.slice a4 a4n a4c] tq236:=by
 intro H b hb
 refine NewScalarDefinition.enter _ H _ ?_
 unfold NewScalarDefinition.W
 refine⟨a1,lcO hb rfl,a2,lcO hb rfl,a3,lcO hb rfl,(a4,a4n,a4c),lcO hb rfl,?_⟩
 exact nbI fun H1 e1 hb1 x1 s1=>rkI ⟨_,rfl,x1.of_nil,.inr (Nat.le_refl _),hb1⟩
def NewSchemaDefinition.W (n:Nat) (H:Heap) (R:RR):Prop:=
 lw H n 1 pPtr fun(x1:Option Addr)=>
 lw H n 2 pSlc fun(x2:Sl)=>
 lw H n 3 pSlc fun(x3:Sl)=>
 newB H (.cells #[(.string (bs [83,99,104,101,109,97,68,101,102,105,110,105,116,105,111,110])),(.pointer x1),(.slice x2.1 x2.2.1 x2.2.2),(.slice x3.1 x3.2.1 x3.2.2)] tq229) fun b4 H5=>
 retK (some [(pq b4)]) H5 R
theorem NewSchemaDefinition.enter (n:Nat) (H:Heap) (R:RR) (h:NewSchemaDefinition.W n H R):Fn PP fq142 #[(pq n)] H R:=
 fnS mixed Tryz.func142 (hz [(10,pPtr),(14,pSlc),(18,pSlc)]) _ H R (Eq.mp (by unfold NewSchemaDefinition.W;kernel_rfl) h)
abbrev kSchemaDefinition:ByteArray:=bs [83,99,104,101,109,97,68,101,102,105,110,105,116,105,111,110]
theorem NewSchemaDefinition_mk (a1:Option Addr) (a2:Option Addr) (a2n a2c:Nat) (a3:Option Addr) (a3n a3c:Nat):MkOk fq142 #[.string (bs []),.pointer a1,.slice a2 a2n a2c,.slice a3 a3n a3c] #[.string kSchemaDefinition,.pointer a1,.slice a2 a2n a2c,.slice a3 a3n a3c] tq229:=by
 intro H b hb
 refine NewSchemaDefinition.enter _ H _ ?_
 unfold NewSchemaDefinition.W
 refine⟨a1,lcO hb rfl,(a2,a2n,a2c),lcO hb rfl,(a3,a3n,a3c),lcO hb rfl,?_⟩
 exact nbI fun H1 e1 hb1 x1 s1=>rkI ⟨_,rfl,x1.of_nil,.inr (Nat.le_refl _),hb1⟩
def NewObjectDefinition.W (n:Nat) (H:Heap) (R:RR):Prop:=
 lw H n 1 pPtr fun(x1:Option Addr)=>
 lw H n 2 pPtr fun(x2:Option Addr)=>
 lw H n 3 pPtr fun(x3:Option Addr)=>
 lw H n 4 pSlc fun(x4:Sl)=>
 lw H n 5 pSlc fun(x5:Sl)=>
 lw H n 6 pSlc fun(x6:Sl)=>
 newB H (.cells #[(.string (bs [79,98,106,101,99,116,68,101,102,105,110,105,116,105,111,110])),(.pointer x1),(.pointer x2),(.pointer x3),(.slice x4.1 x4.2.1 x4.2.2),(.slice x5.1 x5.2.1 x5.2.2),(.slice x6.1 x6.2.1 x6.2.2)] tq245) fun b7 H8=>
 retK (some [(pq b7)]) H8 R
theorem NewObjectDefinition.enter (n:Nat) (H:Heap) (R:RR) (h:NewObjectDefinition.W n H R):Fn PP fq147 #[(pq n)] H R:=
 fnS mixed Tryz.func147 (hz [(10,pPtr),(14,pPtr),(18,pPtr),(22,pSlc),(26,pSlc),(30,pSlc)]) _ H R (Eq.mp (by unfold NewObjectDefinition.W;kernel_rfl) h)
abbrev kObjectDefinition:ByteArray:=bs [79,98,106,101,99,116,68,101,102,105,110,105,116,105,111,110]
theorem NewObjectDefinition_mk (a1:Option Addr) (a2:Option Addr) (a3:Option Addr) (a4:Option Addr) (a4n a4c:Nat) (a5:Option Addr) (a5n a5c:Nat) (a6:Option Addr) (a6n a6c:Nat):MkOk fq147 #[.string (bs []),.pointer a1,.pointer a2,.pointer a3,.slice a4 a4n a4c,.slice a5 a5n a5c,.slice a6 a6n a6c] #[.string kObjectDefinition,.pointer a1,.pointer a2,.pointer a3,.slice a4 a4n a4c,.slice a5 a5n a5c,.slice a6 a6n a6c] tq245:=by
 intro H b hb
 refine NewObjectDefinition.enter _ H _ ?_
 unfold NewObjectDefinition.W
 refine⟨a1,lcO hb rfl,a2,lcO hb rfl,a3,lcO hb rfl,(a4,a4n,a4c),lcO hb rfl,(a5,a5n,a5c),lcO hb rfl,(a6,a6n,a6c),lcO hb rfl,?_⟩
 exact nbI fun H1 e1 hb1 x1 s1=>rkI ⟨_,rfl,x1.of_nil,.inr (Nat.le_refl _),hb1⟩
def NewFieldDefinition.W (n:Nat) (H:Heap) (R:RR):Prop:=
 lw H n 1 pPtr fun(x1:Option Addr)=>
 lw H n 2 pPtr fun(x2:Option Addr)=>
 lw H n 3 pPtr fun(x3:Option Addr)=>
 lw H n 4 pSlc fun(x4:Sl)=>
 lw H n 5 pIf fun(x5:(Nat×Nat))=>
 lw H n 6 pSlc fun(x6:Sl)=>
 newB H (.cells #[(.string (bs [70,105,101,108,100,68,101,102,105,110,105,116,105,111,110])),(.pointer x1),(.pointer x2),(.pointer x3),(.slice x4.1 x4.2.1 x4.2.2),(.iface x5.1 (pq x5.2)),(.slice x6.1 x6.2.1 x6.2.2)] tq336) fun b7 H8=>
 retK (some [(pq b7)]) H8 R
theorem NewFieldDefinition.enter (n:Nat) (H:Heap) (R:RR) (h:NewFieldDefinition.W n H R):Fn PP fq186 #[(pq n)] H R:=
 fnS mixed Tryz.func186 (hz [(10,pPtr),(14,pPtr),(18,pPtr),(22,pSlc),(26,pIf),(30,pSlc)]) _ H R (Eq.mp (by unfold NewFieldDefinition.W;kernel_rfl) h)
abbrev kFieldDefinition:ByteArray:=bs [70,105,101,108,100,68,101,102,105,110,105,116,105,111,110]
theorem NewFieldDefinition_mk (a1:Option Addr) (a2:Option Addr) (a3:Option Addr) (a4:Option Addr) (a4n a4c:Nat) (a5T a5:Nat) (a6:Option Addr) (a6n a6c:Nat):MkOk fq186 #[.string (bs []),.pointer a1,.pointer a2,.pointer a3,.slice a4 a4n a4c,.iface a5T (pq a5),.slice a6 a6n a6c] #[.string kFieldDefinition,.pointer a1,.pointer a2,.pointer a3,.slice a4 a4n a4c,.iface a5T (pq a5),.slice a6 a6n a6c] tq336:=by
 intro H b hb
 refine NewFieldDefinition.enter _ H _ ?_
 unfold NewFieldDefinition.W
 refine⟨a1,lcO hb rfl,a2,lcO hb rfl,a3,lcO hb rfl,(a4,a4n,a4c),lcO hb rfl,(a5T,a5),lcO hb rfl,(a6,a6n,a6c),lcO hb rfl,?_⟩
 exact nbI fun H1 e1 hb1 x1 s1=>rkI ⟨_,rfl,x1.of_nil,.inr (Nat.le_refl _),hb1⟩
def NewInputValueDefinition.W (n:Nat) (H:Heap) (R:RR):Prop:=
 lw H n 1 pPtr fun(x1:Option Addr)=>
 lw H n 2 pPtr fun(x2:Option Addr)=>
 lw H n 3 pPtr fun(x3:Option Addr)=>
 lw H n 4 pIf fun(x4:(Nat×Nat))=>
 lw H n 5 pIf fun(x5:(Nat×Nat))=>
 lw H n 6 pSlc fun(x6:Sl)=>
 newB H (.cells #[(.string (bs [73,110,112,117,116,86,97,108,117,101,68,101,102,105,110,105,116,105,111,110])),(.pointer x1),(.pointer x2),(.pointer x3),(.iface x4.1 (pq x4.2)),(.iface x5.1 (pq x5.2)),(.slice x6.1 x6.2.1 x6.2.2)] tq343) fun b7 H8=>
 retK (some [(pq b7)]) H8 R
theorem NewInputValueDefinition.enter (n:Nat) (H:Heap) (R:RR) (h:NewInputValueDefinition.W n H R):Fn PP fq189 #[(pq n)] H R:=
 fnS mixed Tryz.func189 (hz [(10,pPtr),(14,pPtr),(18,pPtr),(22,pIf),(26,pIf),(30,pSlc)]) _ H R (Eq.mp (by unfold NewInputValueDefinition.W;kernel_rfl) h)
abbrev kInputValueDefinition:ByteArray:=bs [73,110,112,117,116,86,97,108,117,101,68,101,102,105,110,105,116,105,111,110]
theorem NewInputValueDefinition_mk (a1:Option Addr) (a2:Option Addr) (a3:Option Addr) (a4T a4:Nat) (a5T a5:Nat) (a6:Option Addr) (a6n a6c:Nat):MkOk fq189 #[.string (bs []),.pointer a1,.pointer a2,.pointer a3,.iface a4T (pq a4),.iface a5T (pq a5),.slice a6 a6n a6c] #[.string kInputValueDefinition,.pointer a1,.pointer a2,.pointer a3,.iface a4T (pq a4),.iface a5T (pq a5),.slice a6 a6n a6c] tq343:=by
 intro H b hb
 refine NewInputValueDefinition.enter _ H _ ?_
 unfold NewInputValueDefinition.W
 refine⟨a1,lcO hb rfl,a2,lcO hb rfl,a3,lcO hb rfl,(a4T,a4),lcO hb rfl,(a5T,a5),lcO hb rfl,(a6,a6n,a6c),lcO hb rfl,?_⟩
 exact nbI fun H1 e1 hb1 x1 s1=>rkI ⟨_,rfl,x1.of_nil,.inr (Nat.le_refl _),hb1⟩
def NewInterfaceDefinition.W (n:Nat) (H:Heap) (R:RR):Prop:=
 lw H n 1 pPtr fun(x1:Option Addr)=>
 lw H n 2 pPtr fun(x2:Option Addr)=>
 lw H n 3 pPtr fun(x3:Option Addr)=>
 lw H n 4 pSlc fun(x4:Sl)=>
 lw H n 5 pSlc fun(x5:Sl)=>
 newB H (.cells #[(.string (bs [73,110,116,101,114,102,97,99,101,68,101,102,105,110,105,116,105,111,110])),(.pointer x1),(.pointer x2),(.pointer x3),(.slice x4.1 x4.2.1 x4.2.2),(.slice x5.1 x5.2.1 x5.2.2)] tq249) fun b6 H7=>
 retK (some [(pq b6)]) H7 R
theorem NewInterfaceDefinition.enter (n:Nat) (H:Heap) (R:RR) (h:NewInterfaceDefinition.W n H R):Fn PP fq148 #[(pq n)] H R:=
 fnS mixed Tryz.func148 (hz [(10,pPtr),(14,pPtr),(18,pPtr),(22,pSlc),(26,pSlc)]) _ H R (Eq.mp (by unfold NewInterfaceDefinition.W;kernel_rfl) h)
abbrev kInterfaceDefinition:ByteArray:=bs [73,110,116,101,114,102,97,99,101,68,101,102,105,110,105,116,105,111,110]
theorem NewInterfaceDefinition_mk (a1:Option Addr) (a2:Option Addr) (a3:Option Addr) (a4:Option Addr) (a4n a4c:Nat) (a5:Option Addr) (a5n a5c:Nat):MkOk fq148 #[.string (bs []),.pointer a1,.pointer a2,.pointer a3,.slice a4 a4n a4c,.slice a5 a5n a5c] #[.string kInterfaceDefinition,.pointer a1,.pointer a2,.pointer a3,.slice a4 a4n a4c,.slice a5 a5n a5c] tq249:=by
 intro H b hb
 refine NewInterfaceDefinition.enter _ H _ ?_
 unfold NewInterfaceDefinition.W
 refine⟨a1,lcO hb rfl,a2,lcO hb rfl,a3,lcO hb rfl,(a4,a4n,a4c),lcO hb rfl,(a5,a5n,a5c),lcO hb rfl,?_⟩
 exact nbI fun H1 e1 hb1 x1 s1=>rkI ⟨_,rfl,x1.of_nil,.inr (Nat.le_refl _),hb1⟩
def NewUnionDefinition.W (n:Nat) (H:Heap) (R:RR):Prop:=
 lw H n 1 pPtr fun(x1:Option Addr)=>
 lw H n 2 pPtr fun(x2:Option Addr)=>
 lw H n 3 pPtr fun(x3:Option Addr)=>
 lw H n 4 pSlc fun(x4:Sl)=>
 lw H n 5 pSlc fun(x5:Sl)=>
 newB H (.cells #[(.string (bs [85,110,105,111,110,68,101,102,105,110,105,116,105,111,110])),(.pointer x1),(.pointer x2),(.pointer x3),(.slice x4.1 x4.2.1 x4.2.2),(.slice x5.1 x5.2.1 x5.2.2)] tq253) fun b6 H7=>
 retK (some [(pq b6)]) H7 R
theorem NewUnionDefinition.enter (n:Nat) (H:Heap) (R:RR) (h:NewUnionDefinition.W n H R):Fn PP fq150 #[(pq n)] H R:=
 fnS mixed Tryz.func150 (hz [(10,pPtr),(14,pPtr),(18,pPtr),(22,pSlc),(26,pSlc)]) _ H R (Eq.mp (by unfold NewUnionDefinition.W;kernel_rfl) h)
abbrev kUnionDefinition:ByteArray:=bs [85,110,105,111,110,68,101,102,105,110,105,116,105,111,110]
theorem NewUnionDefinition_mk (a1:Option Addr) (a2:Option Addr) (a3:Option Addr) (a4:Option Addr) (a4n a4c:Nat) (a5:Option Addr) (a5n a5c:Nat):MkOk fq150 #[.string (bs []),.pointer a1,.pointer a2,.pointer a3,.slice a4 a4n a4c,.slice a5 a5n a5c] #[.string kUnionDefinition,.pointer a1,.pointer a2,.pointer a3,.slice a4 a4n a4c,.slice a5 a5n a5c] tq253:=by
 intro H b hb
 refine NewUnionDefinition.enter _ H _ ?_
 unfold NewUnionDefinition.W
 refine⟨a1,lcO hb rfl,a2,lcO hb rfl,a3,lcO hb rfl,(a4,a4n,a4c),lcO hb rfl,(a5,a5n,a5c),lcO hb rfl,?_⟩
 exact nbI fun H1 e1 hb1 x1 s1=>rkI ⟨_,rfl,x1.of_nil,.inr (Nat.le_refl _),hb1⟩
def NewEnumDefinition.W (n:Nat) (H:Heap) (R:RR):Prop:=
 lw H n 1 pPtr fun(x1:Option Addr)=>
 lw H n 2 pPtr fun(x2:Option Addr)=>
 lw H n 3 pPtr fun(x3:Option Addr)=>
 lw H n 4 pSlc fun(x4:Sl)=>
 lw H n 5 pSlc fun(x5:Sl)=>
 newB H (.cells #[(.string (bs [69,110,117,109,68,101,102,105,110,105,116,105,111,110])),(.pointer x1),(.pointer x2),(.pointer x3),(.slice x4.1 x4.2.1 x4.2.2),(.slice x5.1 x5.2.1 x5.2.2)] tq259) fun b6 H7=>
 retK (some [(pq b6)]) H7 R
theorem NewEnumDefinition.enter (n:Nat) (H:Heap) (R:RR) (h:NewEnumDefinition.W n H R):Fn PP fq152 #[(pq n)] H R:=
 fnS mixed Tryz.func152 (hz [(10,pPtr),(14,pPtr),(18,pPtr),(22,pSlc),(26,pSlc)]) _ H R (Eq.mp (by unfold NewEnumDefinition.W;kernel_rfl) h)
abbrev kEnumDefinition:ByteArray:=bs [69,110,117,109,68,101,102,105,110,105,116,105,111,110]
theorem NewEnumDefinition_mk (a1:Option Addr) (a2:Option Addr) (a3:Option Addr) (a4:Option Addr) (a4n a4c:Nat) (a5:Option Addr) (a5n a5c:Nat):MkOk fq152 #[.string (bs []),.pointer a1,.pointer a2,.pointer a3,.slice a4 a4n a4c,.slice a5 a5n a5c] #[.string kEnumDefinition,.pointer a1,.pointer a2,.pointer a3,.slice a4 a4n a4c,.slice a5 a5n a5c] tq259:=by
 intro H b hb
 refine NewEnumDefinition.enter _ H _ ?_
 unfold NewEnumDefinition.W
 refine⟨a1,lcO hb rfl,a2,lcO hb rfl,a3,lcO hb rfl,(a4,a4n,a4c),lcO hb rfl,(a5,a5n,a5c),lcO hb rfl,?_⟩
 exact nbI fun H1 e1 hb1 x1 s1=>rkI ⟨_,rfl,x1.of_nil,.inr (Nat.le_refl _),hb1⟩
def NewEnumValueDefinition.W (n:Nat) (H:Heap) (R:RR):Prop:=
 lw H n 1 pPtr fun(x1:Option Addr)=>
 lw H n 2 pPtr fun(x2:Option Addr)=>
 lw H n 3 pPtr fun(x3:Option Addr)=>
 lw H n 4 pSlc fun(x4:Sl)=>
 newB H (.cells #[(.string (bs [69,110,117,109,86,97,108,117,101,68,101,102,105,110,105,116,105,111,110])),(.pointer x1),(.pointer x2),(.pointer x3),(.slice x4.1 x4.2.1 x4.2.2)] tq339) fun b5 H6=>
 retK (some [(pq b5)]) H6 R
theorem NewEnumValueDefinition.enter (n:Nat) (H:Heap) (R:RR) (h:NewEnumValueDefinition.W n H R):Fn PP fq187 #[(pq n)] H R:=
 fnS mixed Tryz.func187 (hz [(10,pPtr),(14,pPtr),(18,pPtr),(22,pSlc)]) _ H R (Eq.mp (by unfold NewEnumValueDefinition.W;kernel_rfl) h)
abbrev kEnumValueDefinition:ByteArray:=bs [69,110,117,109,86,97,108,117,101,68,101,102,105,110,105,116,105,111,110]
theorem NewEnumValueDefinition_mk (a1:Option Addr) (a2:Option Addr) (a3:Option Addr) (a4:Option Addr) (a4n a4c:Nat):MkOk fq187 #[.string (bs []),.pointer a1,.pointer a2,.pointer a3,.slice a4 a4n a4c] #[.string kEnumValueDefinition,.pointer a1,.pointer a2,.pointer a3,.slice a4 a4n a4c] tq339:=by
 intro H b hb
 refine NewEnumValueDefinition.enter _ H _ ?_
 unfold NewEnumValueDefinition.W
 refine⟨a1,lcO hb rfl,a2,lcO hb rfl,a3,lcO hb rfl,(a4,a4n,a4c),lcO hb rfl,?_⟩
 exact nbI fun H1 e1 hb1 x1 s1=>rkI ⟨_,rfl,x1.of_nil,.inr (Nat.le_refl _),hb1⟩
def NewInputObjectDefinition.W (n:Nat) (H:Heap) (R:RR):Prop:=
 lw H n 1 pPtr fun(x1:Option Addr)=>
 lw H n 2 pPtr fun(x2:Option Addr)=>
 lw H n 3 pPtr fun(x3:Option Addr)=>
 lw H n 4 pSlc fun(x4:Sl)=>
 lw H n 5 pSlc fun(x5:Sl)=>
 newB H (.cells #[(.string (bs [73,110,112,117,116,79,98,106,101,99,116,68,101,102,105,110,105,116,105,111,110])),(.pointer x1),(.pointer x2),(.pointer x3),(.slice x4.1 x4.2.1 x4.2.2),(.slice x5.1 x5.2.1 x5.2.2)] tq265) fun b6 H7=>
 retK (some [(pq b6)]) H7 R
theorem NewInputObjectDefinition.enter (n:Nat) (H:Heap) (R:RR) (h:NewInputObjectDefinition.W n H R):Fn PP fq154 #[(pq n)] H R:=
 fnS mixed Tryz.func154 (hz [(10,pPtr),(14,pPtr),(18,pPtr),(22,pSlc),(26,pSlc)]) _ H R (Eq.mp (by unfold NewInputObjectDefinition.W;kernel_rfl) h)
abbrev kInputObjectDefinition:ByteArray:=bs [73,110,112,117,116,79,98,106,101,99,116,68,101,102,105,110,105,116,105,111,110]
theorem NewInputObjectDefinition_mk (a1:Option Addr) (a2:Option Addr) (a3:Option Addr) (a4:Option Addr) (a4n a4c:Nat) (a5:Option Addr) (a5n a5c:Nat):MkOk fq154 #[.string (bs []),.pointer a1,.pointer a2,.pointer a3,.slice a4 a4n a4c,.slice a5 a5n a5c] #[.string kInputObjectDefinition,.pointer a1,.pointer a2,.pointer a3,.slice a4 a4n a4c,.slice a5 a5n a5c] tq265:=by
 intro H b hb
 refine NewInputObjectDefinition.enter _ H _ ?_
 unfold NewInputObjectDefinition.W
 refine⟨a1,lcO hb rfl,a2,lcO hb rfl,a3,lcO hb rfl,(a4,a4n,a4c),lcO hb rfl,(a5,a5n,a5c),lcO hb rfl,?_⟩
 exact nbI fun H1 e1 hb1 x1 s1=>rkI ⟨_,rfl,x1.of_nil,.inr (Nat.le_refl _),hb1⟩
def NewTypeExtensionDefinition.W (n:Nat) (H:Heap) (R:RR):Prop:=
 lw H n 1 pPtr fun(x1:Option Addr)=>
 lw H n 2 pPtr fun(x2:Option Addr)=>
 newB H (.cells #[(.string (bs [84,121,112,101,69,120,116,101,110,115,105,111,110,68,101,102,105,110,105,116,105,111,110])),(.pointer x1),(.pointer x2)] tq269) fun b3 H4=>
 retK (some [(pq b3)]) H4 R
theorem NewTypeExtensionDefinition.enter (n:Nat) (H:Heap) (R:RR) (h:NewTypeExtensionDefinition.W n H R):Fn PP fq155 #[(pq n)] H R:=
 fnS mixed Tryz.func155 (hz [(10,pPtr),(14,pPtr)]) _ H R (Eq.mp (by unfold NewTypeExtensionDefinition.W;kernel_rfl) h)
abbrev kTypeExtensionDefinition:ByteArray:=bs [84,121,112,101,69,120,116,101,110,115,105,111,110,68,101,102,105,110,105,116,105,111,110]
theorem NewTypeExtensionDefinition_mk (a1:Option Addr) (a2:Option Addr):MkOk fq155 #[.string (bs []),.pointer a1,.pointer a2] #[.string kTypeExtensionDefinition,.pointer a1,.pointer a2] tq269:=by
 intro H b hb
 refine NewTypeExtensionDefinition.enter _ H _ ?_
 unfold NewTypeExtensionDefinition.W
 refine⟨a1,lcO hb rfl,a2,lcO hb rfl,?_⟩
 exact nbI fun H1 e1 hb1 x1 s1=>rkI ⟨_,rfl,x1.of_nil,.inr (Nat.le_refl _),hb1⟩
def NewDirectiveDefinition.W (n:Nat) (H:Heap) (R:RR):Prop:=
 lw H n 1 pPtr fun(x1:Option Addr)=>
 lw H n 2 pPtr fun(x2:Option Addr)=>
 lw H n 3 pPtr fun(x3:Option Addr)=>
 lw H n 4 pSlc fun(x4:Sl)=>
 lw H n 5 pSlc fun(x5:Sl)=>
 newB H (.cells #[(.string (bs [68,105,114,101,99,116,105,118,101,68,101,102,105,110,105,116,105,111,110])),(.pointer x1),(.pointer x2),(.pointer x3),(.slice x4.1 x4.2.1 x4.2.2),(.slice x5.1 x5.2.1 x5.2.2)] tq278) fun b6 H7=>
 retK (some [(pq b6)]) H7 R
theorem NewDirectiveDefinition.enter (n:Nat) (H:Heap) (R:RR) (h:NewDirectiveDefinition.W n H R):Fn PP fq158 #[(pq n)] H R:=
 fnS mixed Tryz.func158 (hz [(10,pPtr),(14,pPtr),(18,pPtr),(22,pSlc),(26,pSlc)]) _ H R (Eq.mp (by unfold NewDirectiveDefinition.W;kernel_rfl) h)
abbrev kDirectiveDefinition:ByteArray:=bs [68,105,114,101,99,116,105,118,101,68,101,102,105,110,105,116,105,111,110]
theorem NewDirectiveDefinition_mk (a1:Option Addr) (a2:Option Addr) (a3:Option Addr) (a4:Option Addr) (a4n a4c:Nat) (a5:Option Addr) (a5n a5c:Nat):MkOk fq158 #[.string (bs []),.pointer a1,.pointer a2,.pointer a3,.slice a4 a4n a4c,.slice a5 a5n a5c] #[.string kDirectiveDefinition,.pointer a1,.pointer a2,.pointer a3,.slice a4 a4n a4c,.slice a5 a5n a5c] tq278:=by
 intro H b hb
 refine NewDirectiveDefinition.enter _ H _ ?_
 unfold NewDirectiveDefinition.W
 refine⟨a1,lcO hb rfl,a2,lcO hb rfl,a3,lcO hb rfl,(a4,a4n,a4c),lcO hb rfl,(a5,a5n,a5c),lcO hb rfl,?_⟩
 exact nbI fun H1 e1 hb1 x1 s1=>rkI ⟨_,rfl,x1.of_nil,.inr (Nat.le_refl _),hb1⟩
def NewOperationDefinition.W (n:Nat) (H:Heap) (R:RR):Prop:=
 storeW H ⟨n,0,none⟩ [(.string (bs [79,112,101,114,97,116,105,111,110,68,101,102,105,110,105,116,105,111,110]))] fun H1=>
 retK (some [(pq n)]) H1 R
theorem NewOperationDefinition.enter (n:Nat) (H:Heap) (R:RR) (h:NewOperationDefinition.W n H R):Fn PP fq72 #[(pq n)] H R:=
 fnS mixed Tryz.func72 (hz []) _ H R (Eq.mp (by unfold NewOperationDefinition.W;kernel_rfl) h)
abbrev kOperationDefinition:ByteArray:=bs [79,112,101,114,97,116,105,111,110,68,101,102,105,110,105,116,105,111,110]
theorem NewOperationDefinition_mk (a1:Option Addr) (a2:ByteArray) (a3:Option Addr) (a4:Option Addr) (a4n a4c:Nat) (a5:Option Addr) (a5n a5c:Nat) (a6:Option Addr):MkOk fq72 #[.string (bs []),.pointer a1,.string a2,.pointer a3,.slice a4 a4n a4c,.slice a5 a5n a5c,.pointer a6] #[.string kOperationDefinition,.pointer a1,.string a2,.pointer a3,.slice a4 a4n a4c,.slice a5 a5n a5c,.pointer a6] tq125:=by
 intro H b hb
 refine NewOperationDefinition.enter _ H _ ?_
 unfold NewOperationDefinition.W
 exact swI hb (by simp) rfl rfl fun H1 e1 hb1 x1 s1=>rkI ⟨b,rfl,x1,.inl rfl,hb1⟩
def NewFragmentDefinition.W (n:Nat) (H:Heap) (R:RR):Prop:=
 lw H n 1 pPtr fun(x1:Option Addr)=>
 lw H n 2 pStr fun(x2:ByteArray)=>
 lw H n 3 pPtr fun(x3:Option Addr)=>
 lw H n 4 pSlc fun(x4:Sl)=>
 lw H n 5 pPtr fun(x5:Option Addr)=>
 lw H n 6 pSlc fun(x6:Sl)=>
 lw H n 7 pPtr fun(x7:Option Addr)=>
 newB H (.cells #[(.string (bs [70,114,97,103,109,101,110,116,68,101,102,105,110,105,116,105,111,110])),(.pointer x1),(.string x2),(.pointer x3),(.slice x4.1 x4.2.1 x4.2.2),(.pointer x5),(.slice x6.1 x6.2.1 x6.2.2),(.pointer x7)] tq222) fun b8 H9=>
 retK (some [(pq b8)]) H9 R
theorem NewFragmentDefinition.enter (n:Nat) (H:Heap) (R:RR) (h:NewFragmentDefinition.W n H R):Fn PP fq140 #[(pq n)] H R:=
 fnS mixed Tryz.func140 (hz [(10,pPtr),(14,pStr),(18,pPtr),(22,pSlc),(26,pPtr),(30,pSlc),(34,pPtr)]) _ H R (Eq.mp (by unfold NewFragmentDefinition.W;kernel_rfl) h)
abbrev kFragmentDefinition:ByteArray:=bs [70,114,97,103,109,101,110,116,68,101,102,105,110,105,116,105,111,110]
theorem NewFragmentDefinition_mk (a1:Option Addr) (a2:ByteArray) (a3:Option Addr) (a4:Option Addr) (a4n a4c:Nat) (a5:Option Addr) (a6:Option Addr) (a6n a6c:Nat) (a7:Option Addr):MkOk fq140 #[.string (bs []),.pointer a1,.string a2,.pointer a3,.slice a4 a4n a4c,.pointer a5,.slice a6 a6n a6c,.pointer a7] #[.string kFragmentDefinition,.pointer a1,.string a2,.pointer a3,.slice a4 a4n a4c,.pointer a5,.slice a6 a6n a6c,.pointer a7] tq222:=by
 intro H b hb
 refine NewFragmentDefinition.enter _ H _ ?_
 unfold NewFragmentDefinition.W
 refine⟨a1,lcO hb rfl,a2,lcO hb rfl,a3,lcO hb rfl,(a4,a4n,a4c),lcO hb rfl,a5,lcO hb rfl,(a6,a6n,a6c),lcO hb rfl,a7,lcO hb rfl,?_⟩
 exact nbI fun H1 e1 hb1 x1 s1=>rkI ⟨_,rfl,x1.of_nil,.inr (Nat.le_refl _),hb1⟩
def NewVariableDefinition.W (n:Nat) (H:Heap) (R:RR):Prop:=
 storeW H ⟨n,0,none⟩ [(.string (bs [86,97,114,105,97,98,108,101,68,101,102,105,110,105,116,105,111,110]))] fun H1=>
 retK (some [(pq n)]) H1 R
theorem NewVariableDefinition.enter (n:Nat) (H:Heap) (R:RR) (h:NewVariableDefinition.W n H R):Fn PP fq134 #[(pq n)] H R:=
 fnS mixed Tryz.func134 (hz []) _ H R (Eq.mp (by unfold NewVariableDefinition.W;kernel_rfl) h)
abbrev kVariableDefinition:ByteArray:=bs [86,97,114,105,97,98,108,101,68,101,102,105,110,105,116,105,111,110]
theorem NewVariableDefinition_mk (a1:Option Addr) (a2:Option Addr) (a3:Value) (a4:Value):MkOk fq134 #[.string (bs []),.pointer a1,.pointer a2,a3,a4] #[.string kVariableDefinition,.pointer a1,.pointer a2,a3,a4] tq208:=by
 intro H b hb
 refine NewVariableDefinition.enter _ H _ ?_
 unfold NewVariableDefinition.W
 exact swI hb (by simp) rfl rfl fun H1 e1 hb1 x1 s1=>rkI ⟨b,rfl,x1,.inl rfl,hb1⟩
def NewField.W (n:Nat) (H:Heap) (R:RR):Prop:=
 storeW H ⟨n,0,none⟩ [(.string (bs [70,105,101,108,100]))] fun H1=>
 retK (some [(pq n)]) H1 R
theorem NewField.enter (n:Nat) (H:Heap) (R:RR) (h:NewField.W n H R):Fn PP fq172 #[(pq n)] H R:=
 fnS mixed Tryz.func172 (hz []) _ H R (Eq.mp (by unfold NewField.W;kernel_rfl) h)
abbrev kField:ByteArray:=bs [70,105,101,108,100]
theorem NewField_mk (a1:Option Addr) (a2:Option Addr) (a3:Option Addr) (a4:Option Addr) (a4n a4c:Nat) (a5:Option Addr) (a5n a5c:Nat) (a6:Option Addr):MkOk fq172 #[.string (bs []),.pointer a1,.pointer a2,.pointer a3,.slice a4 a4n a4c,.slice a5 a5n a5c,.pointer a6] #[.string kField,.pointer a1,.pointer a2,.pointer a3,.slice a4 a4n a4c,.slice a5 a5n a5c,.pointer a6] tq298:=by
 intro H b hb
 refine NewField.enter _ H _ ?_
 unfold NewField.W
 exact swI hb (by simp) rfl rfl fun H1 e1 hb1 x1 s1=>rkI ⟨b,rfl,x1,.inl rfl,hb1⟩
def NewFragmentSpread.W (n:Nat) (H:Heap) (R:RR):Prop:=
 lw H n 1 pPtr fun(x1:Option Addr)=>
 lw H n 2 pPtr fun(x2:Option Addr)=>
 lw H n 3 pSlc fun(x3:Sl)=>
 newB H (.cells #[(.string (bs [70,114,97,103,109,101,110,116,83,112,114,101,97,100])),(.pointer x1),(.pointer x2),(.slice x3.1 x3.2.1 x3.2.2)] tq291) fun b4 H5=>
 retK (some [(pq b4)]) H5 R
theorem NewFragmentSpread.enter (n:Nat) (H:Heap) (R:RR) (h:NewFragmentSpread.W n H R):Fn PP fq170 #[(pq n)] H R:=
 fnS mixed Tryz.func170 (hz [(10,pPtr),(14,pPtr),(18,pSlc)]) _ H R (Eq.mp (by unfold NewFragmentSpread.W;kernel_rfl) h)
abbrev kFragmentSpread:ByteArray:=bs [70,114,97,103,109,101,110,116,83,112,114,101,97,100]
theorem NewFragmentSpread_mk (a1:Option Addr) (a2:Option Addr) (a3:Option Addr) (a3n a3c:Nat):MkOk fq170 #[.string (bs []),.pointer a1,.pointer a2,.slice a3 a3n a3c] #[.string kFragmentSpread,.pointer a1,.pointer a2,.slice a3 a3n a3c] tq291:=by
 intro H b hb
 refine NewFragmentSpread.enter _ H _ ?_
 unfold NewFragmentSpread.W
 refine⟨a1,lcO hb rfl,a2,lcO hb rfl,(a3,a3n,a3c),lcO hb rfl,?_⟩
 exact nbI fun H1 e1 hb1 x1 s1=>rkI ⟨_,rfl,x1.of_nil,.inr (Nat.le_refl _),hb1⟩
def NewInlineFragment.W (n:Nat) (H:Heap) (R:RR):Prop:=
 lw H n 1 pPtr fun(x1:Option Addr)=>
 lw H n 2 pPtr fun(x2:Option Addr)=>
 lw H n 3 pSlc fun(x3:Sl)=>
 lw H n 4 pPtr fun(x4:Option Addr)=>
 newB H (.cells #[(.string (bs [73,110,108,105,110,101,70,114,97,103,109,101,110,116])),(.pointer x1),(.pointer x2),(.slice x3.1 x3.2.1 x3.2.2),(.pointer x4)] tq295) fun b5 H6=>
 retK (some [(pq b5)]) H6 R
theorem NewInlineFragment.enter (n:Nat) (H:Heap) (R:RR) (h:NewInlineFragment.W n H R):Fn PP fq171 #[(pq n)] H R:=
 fnS mixed Tryz.func171 (hz [(10,pPtr),(14,pPtr),(18,pSlc),(22,pPtr)]) _ H R (Eq.mp (by unfold NewInlineFragment.W;kernel_rfl) h)
abbrev kInlineFragment:ByteArray:=bs [73,110,108,105,110,101,70,114,97,103,109,101,110,116]
theorem NewInlineFragment_mk (a1:Option Addr) (a2:Option Addr) (a3:Option Addr) (a3n a3c:Nat) (a4:Option Addr):MkOk fq171 #[.string (bs []),.pointer a1,.pointer a2,.slice a3 a3n a3c,.pointer a4] #[.string kInlineFragment,.pointer a1,.pointer a2,.slice a3 a3n a3c,.pointer a4] tq295:=by
 intro H b hb
 refine NewInlineFragment.enter _ H _ ?_
 unfold NewInlineFragment.W
 refine⟨a1,lcO hb rfl,a2,lcO hb rfl,(a3,a3n,a3c),lcO hb rfl,a4,lcO hb rfl,?_⟩
 exact nbI fun H1 e1 hb1 x1 s1=>rkI ⟨_,rfl,x1.of_nil,.inr (Nat.le_refl _),hb1⟩
def NewSelectionSet.W (n:Nat) (H:Heap) (R:RR):Prop:=
 storeW H ⟨n,0,none⟩ [(.string (bs [83,101,108,101,99,116,105,111,110,83,101,116]))] fun H1=>
 retK (some [(pq n)]) H1 R
theorem NewSelectionSet.enter (n:Nat) (H:Heap) (R:RR) (h:NewSelectionSet.W n H R):Fn PP fq99 #[(pq n)] H R:=
 fnS mixed Tryz.func99 (hz []) _ H R (Eq.mp (by unfold NewSelectionSet.W;kernel_rfl) h)
abbrev kSelectionSet:ByteArray:=bs [83,101,108,101,99,116,105,111,110,83,101,116]
theorem NewSelectionSet_mk (a1:Option Addr) (a2:Option Addr) (a2n a2c:Nat):MkOk fq99 #[.string (bs []),.pointer a1,.slice a2 a2n a2c] #[.string kSelectionSet,.pointer a1,.slice a2 a2n a2c] tq164:=by
 intro H b hb
 refine NewSelectionSet.enter _ H _ ?_
 unfold NewSelectionSet.W
 exact swI hb (by simp) rfl rfl fun H1 e1 hb1 x1 s1=>rkI ⟨b,rfl,x1,.inl rfl,hb1⟩
def NewArgument.W (n:Nat) (H:Heap) (R:RR):Prop:=
 storeW H ⟨n,0,none⟩ [(.string (bs [65,114,103,117,109,101,110,116]))] fun H1=>
 retK (some [(pq n)]) H1 R
theorem NewArgument.enter (n:Nat) (H:Heap) (R:RR) (h:NewArgument.W n H R):Fn PP fq204 #[(pq n)] H R:=
 fnS mixed Tryz.func204 (hz []) _ H R (Eq.mp (by unfold NewArgument.W;kernel_rfl) h)
abbrev kArgument:ByteArray:=bs [65,114,103,117,109,101,110,116]
theorem NewArgument_mk (a1:Option Addr) (a2:Option Addr) (a3:Value):MkOk fq204 #[.string (bs []),.pointer a1,.pointer a2,a3] #[.string kArgument,.pointer a1,.pointer a2,a3] tq372:=by
 intro H b hb
 refine NewArgument.enter _ H _ ?_
 unfold NewArgument.W
 exact swI hb (by simp) rfl rfl fun H1 e1 hb1 x1 s1=>rkI ⟨b,rfl,x1,.inl rfl,hb1⟩
def NewDirective.W (n:Nat) (H:Heap) (R:RR):Prop:=
 lw H n 1 pPtr fun(x1:Option Addr)=>
 lw H n 2 pPtr fun(x2:Option Addr)=>
 lw H n 3 pSlc fun(x3:Sl)=>
 newB H (.cells #[(.string (bs [68,105,114,101,99,116,105,118,101])),(.pointer x1),(.pointer x2),(.slice x3.1 x3.2.1 x3.2.2)] tq214) fun b4 H5=>
 retK (some [(pq b4)]) H5 R
theorem NewDirective.enter (n:Nat) (H:Heap) (R:RR) (h:NewDirective.W n H R):Fn PP fq136 #[(pq n)] H R:=
 fnS mixed Tryz.func136 (hz [(10,pPtr),(14,pPtr),(18,pSlc)]) _ H R (Eq.mp (by unfold NewDirective.W;kernel_rfl) h)
abbrev kDirective:ByteArray:=bs [68,105,114,101,99,116,105,118,101]
theorem NewDirective_mk (a1:Option Addr) (a2:Option Addr) (a3:Option Addr) (a3n a3c:Nat):MkOk fq136 #[.string (bs []),.pointer a1,.pointer a2,.slice a3 a3n a3c] #[.string kDirective,.pointer a1,.pointer a2,.slice a3 a3n a3c] tq214:=by
 intro H b hb
 refine NewDirective.enter _ H _ ?_
 unfold NewDirective.W
 refine⟨a1,lcO hb rfl,a2,lcO hb rfl,(a3,a3n,a3c),lcO hb rfl,?_⟩
 exact nbI fun H1 e1 hb1 x1 s1=>rkI ⟨_,rfl,x1.of_nil,.inr (Nat.le_refl _),hb1⟩
def NewVariable.W (n:Nat) (H:Heap) (R:RR):Prop:=
 storeW H ⟨n,0,none⟩ [(.string (bs [86,97,114,105,97,98,108,101]))] fun H1=>
 retK (some [(pq n)]) H1 R
theorem NewVariable.enter (n:Nat) (H:Heap) (R:RR) (h:NewVariable.W n H R):Fn PP fq173 #[(pq n)] H R:=
 fnS mixed Tryz.func173 (hz []) _ H R (Eq.mp (by unfold NewVariable.W;kernel_rfl) h)
abbrev kVariable:ByteArray:=bs [86,97,114,105,97,98,108,101]
theorem NewVariable_mk (a1:Option Addr) (a2:Option Addr):MkOk fq173 #[.string (bs []),.pointer a1,.pointer a2] #[.string kVariable,.pointer a1,.pointer a2] tq301:=by
 intro H b hb
 refine NewVariable.enter _ H _ ?_
 unfold NewVariable.W
 exact swI hb (by simp) rfl rfl fun H1 e1 hb1 x1 s1=>rkI ⟨b,rfl,x1,.inl rfl,hb1⟩
def NewIntValue.W (n:Nat) (H:Heap) (R:RR):Prop:=
 lw H n 1 pPtr fun(x1:Option Addr)=>
 lw H n 2 pStr fun(x2:ByteArray)=>
 newB H (.cells #[(.string (bs [73,110,116,86,97,108,117,101])),(.pointer x1),(.string x2)] tq317) fun b3 H4=>
 retK (some [(pq b3)]) H4 R
theorem NewIntValue.enter (n:Nat) (H:Heap) (R:RR) (h:NewIntValue.W n H R):Fn PP fq178 #[(pq n)] H R:=
 fnS mixed Tryz.func178 (hz [(10,pPtr),(14,pStr)]) _ H R (Eq.mp (by unfold NewIntValue.W;kernel_rfl) h)
abbrev kIntValue:ByteArray:=bs [73,110,116,86,97,108,117,101]
theorem NewIntValue_mk (a1:Option Addr) (a2:ByteArray):MkOk fq178 #[.string (bs []),.pointer a1,.string a2] #[.string kIntValue,.pointer a1,.string a2] tq317:=by
 intro H b hb
 refine NewIntValue.enter _ H _ ?_
 unfold NewIntValue.W
 refine⟨a1,lcO hb rfl,a2,lcO hb rfl,?_⟩
 exact nbI fun H1 e1 hb1 x1 s1=>rkI ⟨_,rfl,x1.of_nil,.inr (Nat.le_refl _),hb1⟩
def NewFloatValue.W (n:Nat) (H:Heap) (R:RR):Prop:=
 lw H n 1 pPtr fun(x1:Option Addr)=>
 lw H n 2 pStr fun(x2:ByteArray)=>
 newB H (.cells #[(.string (bs [70,108,111,97,116,86,97,108,117,101])),(.pointer x1),(.string x2)] tq320) fun b3 H4=>
 retK (some [(pq b3)]) H4 R
theorem NewFloatValue.enter (n:Nat) (H:Heap) (R:RR) (h:NewFloatValue.W n H R):Fn PP fq179 #[(pq n)] H R:=
 fnS mixed Tryz.func179 (hz [(10,pPtr),(14,pStr)]) _ H R (Eq.mp (by unfold NewFloatValue.W;kernel_rfl) h)
abbrev kFloatValue:ByteArray:=bs [70,108,111,97,116,86,97,108,117,101]
theorem NewFloatValue_mk (a1:Option Addr) (a2:ByteArray):MkOk fq179 #[.string (bs []),.pointer a1,.string a2] #[.string kFloatValue,.pointer a1,.string a2] tq320:=by
 intro H b hb
 refine NewFloatValue.enter _ H _ ?_
 unfold NewFloatValue.W
 refine⟨a1,lcO hb rfl,a2,lcO hb rfl,?_⟩
 exact nbI fun H1 e1 hb1 x1 s1=>rkI ⟨_,rfl,x1.of_nil,.inr (Nat.le_refl _),hb1⟩
def NewStringValue.W (n:Nat) (H:Heap) (R:RR):Prop:=
 lw H n 1 pPtr fun(x1:Option Addr)=>
 lw H n 2 pStr fun(x2:ByteArray)=>
 newB H (.cells #[(.string (bs [83,116,114,105,110,103,86,97,108,117,101])),(.pointer x1),(.string x2)] tq369) fun b3 H4=>
 retK (some [(pq b3)]) H4 R
theorem NewStringValue.enter (n:Nat) (H:Heap) (R:RR) (h:NewStringValue.W n H R):Fn PP fq203 #[(pq n)] H R:=
 fnS mixed Tryz.func203 (hz [(10,pPtr),(14,pStr)]) _ H R (Eq.mp (by unfold NewStringValue.W;kernel_rfl) h)
abbrev kStringValue:ByteArray:=bs [83,116,114,105,110,103,86,97,108,117,101]
theorem NewStringValue_mk (a1:Option Addr) (a2:ByteArray):MkOk fq203 #[.string (bs []),.pointer a1,.string a2] #[.string kStringValue,.pointer a1,.string a2] tq369:=by
 intro H b hb
 refine NewStringValue.enter _ H _ ?_
 unfold NewStringValue.W
 refine⟨a1,lcO hb rfl,a2,lcO hb rfl,?_⟩
 exact nbI fun H1 e1 hb1 x1 s1=>rkI ⟨_,rfl,x1.of_nil,.inr (Nat.le_refl _),hb1⟩
def NewBooleanValue.W (n:Nat) (H:Heap) (R:RR):Prop:=
 lw H n 1 pPtr fun(x1:Option Addr)=>
 lw H n 2 pBool fun(x2:Bool)=>
 newB H (.cells #[(.string (bs [66,111,111,108,101,97,110,86,97,108,117,101])),(.pointer x1),(.bool x2)] tq324) fun b3 H4=>
 retK (some [(pq b3)]) H4 R
theorem NewBooleanValue.enter (n:Nat) (H:Heap) (R:RR) (h:NewBooleanValue.W n H R):Fn PP fq181 #[(pq n)] H R:=
 fnS mixed Tryz.func181 (hz [(10,pPtr),(14,pBool)]) _ H R (Eq.mp (by unfold NewBooleanValue.W;kernel_rfl) h)
abbrev kBooleanValue:ByteArray:=bs [66,111,111,108,101,97,110,86,97,108,117,101]
theorem NewBooleanValue_mk (a1:Option Addr) (a2:Bool):MkOk fq181 #[.string (bs []),.pointer a1,.bool a2] #[.string kBooleanValue,.pointer a1,.bool a2] tq324:=by
 intro H b hb
 refine NewBooleanValue.enter _ H _ ?_
 unfold NewBooleanValue.W
 refine⟨a1,lcO hb rfl,a2,lcO hb rfl,?_⟩
 exact nbI fun H1 e1 hb1 x1 s1=>rkI ⟨_,rfl,x1.of_nil,.inr (Nat.le_refl _),hb1⟩
def NewEnumValue.W (n:Nat) (H:Heap) (R:RR):Prop:=
 lw H n 1 pPtr fun(x1:Option Addr)=>
 lw H n 2 pStr fun(x2:ByteArray)=>
 newB H (.cells #[(.string (bs [69,110,117,109,86,97,108,117,101])),(.pointer x1),(.string x2)] tq327) fun b3 H4=>
 retK (some [(pq b3)]) H4 R
theorem NewEnumValue.enter (n:Nat) (H:Heap) (R:RR) (h:NewEnumValue.W n H R):Fn PP fq182 #[(pq n)] H R:=
 fnS mixed Tryz.func182 (hz [(10,pPtr),(14,pStr)]) _ H R (Eq.mp (by unfold NewEnumValue.W;kernel_rfl) h)
abbrev kEnumValue:ByteArray:=bs [69,110,117,109,86,97,108,117,101]
theorem NewEnumValue_mk (a1:Option Addr) (a2:ByteArray):MkOk fq182 #[.string (bs []),.pointer a1,.string a2] #[.string kEnumValue,.pointer a1,.string a2] tq327:=by
 intro H b hb
 refine NewEnumValue.enter _ H _ ?_
 unfold NewEnumValue.W
 refine⟨a1,lcO hb rfl,a2,lcO hb rfl,?_⟩
 exact nbI fun H1 e1 hb1 x1 s1=>rkI ⟨_,rfl,x1.of_nil,.inr (Nat.le_refl _),hb1⟩
def NewListValue.W (n:Nat) (H:Heap) (R:RR):Prop:=
 lw H n 1 pPtr fun(x1:Option Addr)=>
 lw H n 2 pSlc fun(x2:Sl)=>
 newB H (.cells #[(.string (bs [76,105,115,116,86,97,108,117,101])),(.pointer x1),(.slice x2.1 x2.2.1 x2.2.2)] tq360) fun b3 H4=>
 retK (some [(pq b3)]) H4 R
theorem NewListValue.enter (n:Nat) (H:Heap) (R:RR) (h:NewListValue.W n H R):Fn PP fq200 #[(pq n)] H R:=
 fnS mixed Tryz.func200 (hz [(10,pPtr),(14,pSlc)]) _ H R (Eq.mp (by unfold NewListValue.W;kernel_rfl) h)
abbrev kListValue:ByteArray:=bs [76,105,115,116,86,97,108,117,101]
theorem NewListValue_mk (a1:Option Addr) (a2:Option Addr) (a2n a2c:Nat):MkOk fq200 #[.string (bs []),.pointer a1,.slice a2 a2n a2c] #[.string kListValue,.pointer a1,.slice a2 a2n a2c] tq360:=by
 intro H b hb
 refine NewListValue.enter _ H _ ?_
 unfold NewListValue.W
 refine⟨a1,lcO hb rfl,(a2,a2n,a2c),lcO hb rfl,?_⟩
 exact nbI fun H1 e1 hb1 x1 s1=>rkI ⟨_,rfl,x1.of_nil,.inr (Nat.le_refl _),hb1⟩
def NewObjectValue.W (n:Nat) (H:Heap) (R:RR):Prop:=
 lw H n 1 pPtr fun(x1:Option Addr)=>
 lw H n 2 pSlc fun(x2:Sl)=>
 newB H (.cells #[(.string (bs [79,98,106,101,99,116,86,97,108,117,101])),(.pointer x1),(.slice x2.1 x2.2.1 x2.2.2)] tq367) fun b3 H4=>
 retK (some [(pq b3)]) H4 R
theorem NewObjectValue.enter (n:Nat) (H:Heap) (R:RR) (h:NewObjectValue.W n H R):Fn PP fq202 #[(pq n)] H R:=
 fnS mixed Tryz.func202 (hz [(10,pPtr),(14,pSlc)]) _ H R (Eq.mp (by unfold NewObjectValue.W;kernel_rfl) h)
abbrev kObjectValue:ByteArray:=bs [79,98,106,101,99,116,86,97,108,117,101]
theorem NewObjectValue_mk (a1:Option Addr) (a2:Option Addr) (a2n a2c:Nat):MkOk fq202 #[.string (bs []),.pointer a1,.slice a2 a2n a2c] #[.string kObjectValue,.pointer a1,.slice a2 a2n a2c] tq367:=by
 intro H b hb
 refine NewObjectValue.enter _ H _ ?_
 unfold NewObjectValue.W
 refine⟨a1,lcO hb rfl,(a2,a2n,a2c),lcO hb rfl,?_⟩
 exact nbI fun H1 e1 hb1 x1 s1=>rkI ⟨_,rfl,x1.of_nil,.inr (Nat.le_refl _),hb1⟩
def NewObjectField.W (n:Nat) (H:Heap) (R:RR):Prop:=
 lw H n 2 pPtr fun(x1:Option Addr)=>
 lw H n 1 pPtr fun(x2:Option Addr)=>
 lw H n 3 pIf fun(x3:(Nat×Nat))=>
 newB H (.cells #[(.string (bs [79,98,106,101,99,116,70,105,101,108,100])),(.pointer x2),(.pointer x1),(.iface x3.1 (pq x3.2))] tq378) fun b4 H5=>
 retK (some [(pq b4)]) H5 R
theorem NewObjectField.enter (n:Nat) (H:Heap) (R:RR) (h:NewObjectField.W n H R):Fn PP fq209 #[(pq n)] H R:=
 fnS mixed Tryz.func209 (hz [(10,pPtr),(14,pPtr),(18,pIf)]) _ H R (Eq.mp (by unfold NewObjectField.W;kernel_rfl) h)
abbrev kObjectField:ByteArray:=bs [79,98,106,101,99,116,70,105,101,108,100]
theorem NewObjectField_mk (a1:Option Addr) (a2:Option Addr) (a3T a3:Nat):MkOk fq209 #[.string (bs []),.pointer a1,.pointer a2,.iface a3T (pq a3)] #[.string kObjectField,.pointer a1,.pointer a2,.iface a3T (pq a3)] tq378:=by
 intro H b hb
 refine NewObjectField.enter _ H _ ?_
 unfold NewObjectField.W
 refine⟨a2,lcO hb rfl,a1,lcO hb rfl,(a3T,a3),lcO hb rfl,?_⟩
 exact nbI fun H1 e1 hb1 x1 s1=>rkI ⟨_,rfl,x1.of_nil,.inr (Nat.le_refl _),hb1⟩
def NewList.W (n:Nat) (H:Heap) (R:RR):Prop:=
 lw H n 1 pPtr fun(x1:Option Addr)=>
 lw H n 2 pIf fun(x2:(Nat×Nat))=>
 newB H (.cells #[(.string (bs [76,105,115,116])),(.pointer x1),(.iface x2.1 (pq x2.2))] tq305) fun b3 H4=>
 retK (some [(pq b3)]) H4 R
theorem NewList.enter (n:Nat) (H:Heap) (R:RR) (h:NewList.W n H R):Fn PP fq174 #[(pq n)] H R:=
 fnS mixed Tryz.func174 (hz [(10,pPtr),(14,pIf)]) _ H R (Eq.mp (by unfold NewList.W;kernel_rfl) h)
abbrev kList:ByteArray:=bs [76,105,115,116]
theorem NewList_mk (a1:Option Addr) (a2T a2:Nat):MkOk fq174 #[.string (bs []),.pointer a1,.iface a2T (pq a2)] #[.string kList,.pointer a1,.iface a2T (pq a2)] tq305:=by
 intro H b hb
 refine NewList.enter _ H _ ?_
 unfold NewList.W
 refine⟨a1,lcO hb rfl,(a2T,a2),lcO hb rfl,?_⟩
 exact nbI fun H1 e1 hb1 x1 s1=>rkI ⟨_,rfl,x1.of_nil,.inr (Nat.le_refl _),hb1⟩
def NewNonNull.W (n:Nat) (H:Heap) (R:RR):Prop:=
 lw H n 1 pPtr fun(x1:Option Addr)=>
 lw H n 2 pIf fun(x2:(Nat×Nat))=>
 newB H (.cells #[(.string (bs [78,111,110,78,117,108,108])),(.pointer x1),(.iface x2.1 (pq x2.2))] tq308) fun b3 H4=>
 retK (some [(pq b3)]) H4 R
theorem NewNonNull.enter (n:Nat) (H:Heap) (R:RR) (h:NewNonNull.W n H R):Fn PP fq175 #[(pq n)] H R:=
 fnS mixed Tryz.func175 (hz [(10,pPtr),(14,pIf)]) _ H R (Eq.mp (by unfold NewNonNull.W;kernel_rfl) h)
abbrev kNonNull:ByteArray:=bs [78,111,110,78,117,108,108]
theorem NewNonNull_mk (a1:Option Addr) (a2T a2:Nat):MkOk fq175 #[.string (bs []),.pointer a1,.iface a2T (pq a2)] #[.string kNonNull,.pointer a1,.iface a2T (pq a2)] tq308:=by
 intro H b hb
 refine NewNonNull.enter _ H _ ?_
 unfold NewNonNull.W
 refine⟨a1,lcO hb rfl,(a2T,a2),lcO hb rfl,?_⟩
 exact nbI fun H1 e1 hb1 x1 s1=>rkI ⟨_,rfl,x1.of_nil,.inr (Nat.le_refl _),hb1⟩
def NewInputValueDefinition0.W (n:Nat) (H:Heap) (R:RR):Prop:=
 lw H n 1 pPtr fun(x1:Option Addr)=>
 lw H n 2 pPtr fun(x2:Option Addr)=>
 lw H n 3 pPtr fun(x3:Option Addr)=>
 lw H n 4 pIf fun(x4:(Nat×Nat))=>
 lw H n 5 ⟨Unit,fun _=> .nilIface⟩ fun(_x5:Unit)=>
 lw H n 6 pSlc fun(x6:Sl)=>
 newB H (.cells #[(.string (bs [73,110,112,117,116,86,97,108,117,101,68,101,102,105,110,105,116,105,111,110])),(.pointer x1),(.pointer x2),(.pointer x3),(.iface x4.1 (pq x4.2)),.nilIface,(.slice x6.1 x6.2.1 x6.2.2)] tq343) fun b7 H8=>
 retK (some [(pq b7)]) H8 R
theorem NewInputValueDefinition0.enter (n:Nat) (H:Heap) (R:RR) (h:NewInputValueDefinition0.W n H R):Fn PP fq189 #[(pq n)] H R:=
 fnS mixed Tryz.func189 (hz [(10,pPtr),(14,pPtr),(18,pPtr),(22,pIf),(26,⟨Unit,fun _=> .nilIface⟩),(30,pSlc)]) _ H R (Eq.mp (by unfold NewInputValueDefinition0.W;kernel_rfl) h)
theorem NewInputValueDefinition0_mk (a1:Option Addr) (a2:Option Addr) (a3:Option Addr) (a4T a4:Nat) (a6:Option Addr) (a6n a6c:Nat):MkOk fq189 #[.string (bs []),.pointer a1,.pointer a2,.pointer a3,.iface a4T (pq a4),.nilIface,.slice a6 a6n a6c] #[.string kInputValueDefinition,.pointer a1,.pointer a2,.pointer a3,.iface a4T (pq a4),.nilIface,.slice a6 a6n a6c] tq343:=by
 intro H b hb
 refine NewInputValueDefinition0.enter _ H _ ?_
 unfold NewInputValueDefinition0.W
 refine⟨a1,lcO hb rfl,a2,lcO hb rfl,a3,lcO hb rfl,(a4T,a4),lcO hb rfl,(),lcO hb rfl,(a6,a6n,a6c),lcO hb rfl,?_⟩
 exact nbI fun H1 e1 hb1 x1 s1=>rkI ⟨_,rfl,x1.of_nil,.inr (Nat.le_refl _),hb1⟩
end Go.Vx
