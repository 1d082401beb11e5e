/- A part of the proof of what the last text of this claim says: WX2. Conditions: none. -/
import Derived.Test.YtpkfgijailfkjaaGreatDoorZAb
namespace Go.Vx
open Go Go.Proofs
set_option maxRecDepth 100000
def reverseGX.W (f:FuncId) (p:Nat) (ok:Int) (ck:Int) (z:Bool) (H:Heap) (R:RR):Prop:=
 call2W PP fq100 #[(pq p),(.int .i64 ok)] H pTkE ⟨Int×Int×Int×ByteArray×Nat,fun x=>(.tuple #[(.agg #[(.int .i64 x.1),(.int .i64 x.2.1),(.int .i64 x.2.2.1),(.string x.2.2.2.1)]),(.iface tq49 (pq x.2.2.2.2))])⟩ (fun(x1:Int×Int×Int×ByteArray) H3=>
 newB H3 (.cells #[(.int .i64 0),(.int .i64 0),(.int .i64 0),(.string (bs []))] tq87) fun b4 H5=>
 storeW H5 ⟨b4,0,none⟩ [(.int .i64 x1.1),(.int .i64 x1.2.1),(.int .i64 x1.2.2.1),(.string x1.2.2.2)] fun H6=>
 loopK (Sl×Unit) ((none,0,0),()) H6 fun z7 H8 next9=>
 callW PP fq35 #[(pq p),(.int .i64 ck)] H8 pBoE fun(x10:Bool) H11=>
 forkB x10
 (joinPK (Bool×Unit) H11 (fun J12=>
 forkB z
 (J12 ((((z7.1.2.1:Nat):Int)==0),()) H11)
 (J12 (false,()) H11)) fun y13=>
 forkB y13.1
 (lw H11 b4 1 (pInt .i64) fun(x14:Int)=>
 callW PP fq128 #[(pq p),(.int .i64 x14),(.int .i64 ok),(.int .i64 ck)] H11 ⟨Nat,fun x=>(.iface tq49 (pq x))⟩ fun(x15:Nat) H16=>
 retK (some [(.slice z7.1.1 z7.1.2.1 z7.1.2.2),(.iface tq49 (pq x15))]) H16 R)
 (retK (some [(.slice z7.1.1 z7.1.2.1 z7.1.2.2),.nilIface]) H11 R))
 (call2W PP f #[(pq p)] H11 pIfE ⟨Value×Nat,fun x=>(.tuple #[x.1,(.iface tq49 (pq x.2))])⟩ (fun(x17:(Nat×Nat)) H19=>
 newB H19 (.cells #[(.iface x17.1 (pq x17.2))] tq20) fun b20 H21=>
 appK H21 tq20 1 16 z7.1.1 z7.1.2.1 z7.1.2.2 (some ⟨b20,0,none⟩) 1 fun a22 c23 H24=>
 next9 ((a22,(z7.1.2.1+1),c23),()) H24)
 (fun(e18:Value×Nat) H19=>
 retK (some [(.slice z7.1.1 z7.1.2.1 z7.1.2.2),(.iface tq49 (pq e18.2))]) H19 R)))
 (fun(e2:Int×Int×Int×ByteArray×Nat) H3=>
 newB H3 (.cells #[(.int .i64 0),(.int .i64 0),(.int .i64 0),(.string (bs []))] tq87) fun b25 H26=>
 storeW H26 ⟨b25,0,none⟩ [(.int .i64 e2.1),(.int .i64 e2.2.1),(.int .i64 e2.2.2.1),(.string e2.2.2.2.1)] fun H27=>
 retK (some [(.slice none 0 0),(.iface tq49 (pq e2.2.2.2.2))]) H27 R)
theorem reverseArgX.enter (p:Nat) (ok:Int) (ck:Int) (z:Bool) (H:Heap) (R:RR) (h:reverseGX.W fq183 p ok ck z H R):Fn PP fq97 #[(pq p),(.int .i64 ok),(.func (.func fq183) #[] #[]),(.int .i64 ck),(.bool z)] H R:=
 fnS mixed Tryz.func97 ⟨patX [(22,pTkE,⟨Int×Int×Int×ByteArray×Nat,fun x=>(.tuple #[(.agg #[(.int .i64 x.1),(.int .i64 x.2.1),(.int .i64 x.2.2.1),(.string x.2.2.2.1)]),(.iface tq49 (pq x.2.2.2.2))])⟩),(41,pIfE,⟨Value×Nat,fun x=>(.tuple #[x.1,(.iface tq49 (pq x.2))])⟩)] [(31,pBoE),(61,(pInt .i64)),(64,⟨Nat,fun x=>(.iface tq49 (pq x))⟩)],loopL [(0,[Slot.slc 14])],joinL [],joinL [],joinRL [(13,[Slot.bool 57],true)]⟩ _ H R (Eq.mp (by unfold reverseGX.W;kernel_rfl) h)
theorem reverseVarX.enter (p:Nat) (ok:Int) (ck:Int) (z:Bool) (H:Heap) (R:RR) (h:reverseGX.W fq102 p ok ck z H R):Fn PP fq97 #[(pq p),(.int .i64 ok),(.func (.func fq102) #[] #[]),(.int .i64 ck),(.bool z)] H R:=
 fnS mixed Tryz.func97 ⟨patX [(22,pTkE,⟨Int×Int×Int×ByteArray×Nat,fun x=>(.tuple #[(.agg #[(.int .i64 x.1),(.int .i64 x.2.1),(.int .i64 x.2.2.1),(.string x.2.2.2.1)]),(.iface tq49 (pq x.2.2.2.2))])⟩),(41,pIfE,⟨Value×Nat,fun x=>(.tuple #[x.1,(.iface tq49 (pq x.2))])⟩)] [(31,pBoE),(61,(pInt .i64)),(64,⟨Nat,fun x=>(.iface tq49 (pq x))⟩)],loopL [(0,[Slot.slc 14])],joinL [],joinL [],joinRL [(13,[Slot.bool 57],true)]⟩ _ H R (Eq.mp (by unfold reverseGX.W;kernel_rfl) h)
theorem reverseSelX.enter (p:Nat) (ok:Int) (ck:Int) (z:Bool) (H:Heap) (R:RR) (h:reverseGX.W fq98 p ok ck z H R):Fn PP fq97 #[(pq p),(.int .i64 ok),(.func (.func fq98) #[] #[]),(.int .i64 ck),(.bool z)] H R:=
 fnS mixed Tryz.func97 ⟨patX [(22,pTkE,⟨Int×Int×Int×ByteArray×Nat,fun x=>(.tuple #[(.agg #[(.int .i64 x.1),(.int .i64 x.2.1),(.int .i64 x.2.2.1),(.string x.2.2.2.1)]),(.iface tq49 (pq x.2.2.2.2))])⟩),(41,pIfE,⟨Value×Nat,fun x=>(.tuple #[x.1,(.iface tq49 (pq x.2))])⟩)] [(31,pBoE),(61,(pInt .i64)),(64,⟨Nat,fun x=>(.iface tq49 (pq x))⟩)],loopL [(0,[Slot.slc 14])],joinL [],joinL [],joinRL [(13,[Slot.bool 57],true)]⟩ _ H R (Eq.mp (by unfold reverseGX.W;kernel_rfl) h)
theorem reverseConstX.enter (p:Nat) (ok:Int) (ck:Int) (z:Bool) (H:Heap) (R:RR) (h:reverseGX.W fq188 p ok ck z H R):Fn PP fq97 #[(pq p),(.int .i64 ok),(.func (.func fq188) #[] #[]),(.int .i64 ck),(.bool z)] H R:=
 fnS mixed Tryz.func97 ⟨patX [(22,pTkE,⟨Int×Int×Int×ByteArray×Nat,fun x=>(.tuple #[(.agg #[(.int .i64 x.1),(.int .i64 x.2.1),(.int .i64 x.2.2.1),(.string x.2.2.2.1)]),(.iface tq49 (pq x.2.2.2.2))])⟩),(41,pIfE,⟨Value×Nat,fun x=>(.tuple #[x.1,(.iface tq49 (pq x.2))])⟩)] [(31,pBoE),(61,(pInt .i64)),(64,⟨Nat,fun x=>(.iface tq49 (pq x))⟩)],loopL [(0,[Slot.slc 14])],joinL [],joinL [],joinRL [(13,[Slot.bool 57],true)]⟩ _ H R (Eq.mp (by unfold reverseGX.W;kernel_rfl) h)
theorem reverseValueX.enter (p:Nat) (ok:Int) (ck:Int) (z:Bool) (H:Heap) (R:RR) (h:reverseGX.W fq199 p ok ck z H R):Fn PP fq97 #[(pq p),(.int .i64 ok),(.func (.func fq199) #[] #[]),(.int .i64 ck),(.bool z)] H R:=
 fnS mixed Tryz.func97 ⟨patX [(22,pTkE,⟨Int×Int×Int×ByteArray×Nat,fun x=>(.tuple #[(.agg #[(.int .i64 x.1),(.int .i64 x.2.1),(.int .i64 x.2.2.1),(.string x.2.2.2.1)]),(.iface tq49 (pq x.2.2.2.2))])⟩),(41,pIfE,⟨Value×Nat,fun x=>(.tuple #[x.1,(.iface tq49 (pq x.2))])⟩)] [(31,pBoE),(61,(pInt .i64)),(64,⟨Nat,fun x=>(.iface tq49 (pq x))⟩)],loopL [(0,[Slot.slc 14])],joinL [],joinL [],joinRL [(13,[Slot.bool 57],true)]⟩ _ H R (Eq.mp (by unfold reverseGX.W;kernel_rfl) h)
theorem reverseFieldX.enter (p:Nat) (ok:Int) (ck:Int) (z:Bool) (H:Heap) (R:RR) (h:reverseGX.W fq146 p ok ck z H R):Fn PP fq97 #[(pq p),(.int .i64 ok),(.func (.func fq146) #[] #[]),(.int .i64 ck),(.bool z)] H R:=
 fnS mixed Tryz.func97 ⟨patX [(22,pTkE,⟨Int×Int×Int×ByteArray×Nat,fun x=>(.tuple #[(.agg #[(.int .i64 x.1),(.int .i64 x.2.1),(.int .i64 x.2.2.1),(.string x.2.2.2.1)]),(.iface tq49 (pq x.2.2.2.2))])⟩),(41,pIfE,⟨Value×Nat,fun x=>(.tuple #[x.1,(.iface tq49 (pq x.2))])⟩)] [(31,pBoE),(61,(pInt .i64)),(64,⟨Nat,fun x=>(.iface tq49 (pq x))⟩)],loopL [(0,[Slot.slc 14])],joinL [],joinL [],joinRL [(13,[Slot.bool 57],true)]⟩ _ H R (Eq.mp (by unfold reverseGX.W;kernel_rfl) h)
theorem reverseInputX.enter (p:Nat) (ok:Int) (ck:Int) (z:Bool) (H:Heap) (R:RR) (h:reverseGX.W fq153 p ok ck z H R):Fn PP fq97 #[(pq p),(.int .i64 ok),(.func (.func fq153) #[] #[]),(.int .i64 ck),(.bool z)] H R:=
 fnS mixed Tryz.func97 ⟨patX [(22,pTkE,⟨Int×Int×Int×ByteArray×Nat,fun x=>(.tuple #[(.agg #[(.int .i64 x.1),(.int .i64 x.2.1),(.int .i64 x.2.2.1),(.string x.2.2.2.1)]),(.iface tq49 (pq x.2.2.2.2))])⟩),(41,pIfE,⟨Value×Nat,fun x=>(.tuple #[x.1,(.iface tq49 (pq x.2))])⟩)] [(31,pBoE),(61,(pInt .i64)),(64,⟨Nat,fun x=>(.iface tq49 (pq x))⟩)],loopL [(0,[Slot.slc 14])],joinL [],joinL [],joinRL [(13,[Slot.bool 57],true)]⟩ _ H R (Eq.mp (by unfold reverseGX.W;kernel_rfl) h)
theorem reverseEnumX.enter (p:Nat) (ok:Int) (ck:Int) (z:Bool) (H:Heap) (R:RR) (h:reverseGX.W fq151 p ok ck z H R):Fn PP fq97 #[(pq p),(.int .i64 ok),(.func (.func fq151) #[] #[]),(.int .i64 ck),(.bool z)] H R:=
 fnS mixed Tryz.func97 ⟨patX [(22,pTkE,⟨Int×Int×Int×ByteArray×Nat,fun x=>(.tuple #[(.agg #[(.int .i64 x.1),(.int .i64 x.2.1),(.int .i64 x.2.2.1),(.string x.2.2.2.1)]),(.iface tq49 (pq x.2.2.2.2))])⟩),(41,pIfE,⟨Value×Nat,fun x=>(.tuple #[x.1,(.iface tq49 (pq x.2))])⟩)] [(31,pBoE),(61,(pInt .i64)),(64,⟨Nat,fun x=>(.iface tq49 (pq x))⟩)],loopL [(0,[Slot.slc 14])],joinL [],joinL [],joinRL [(13,[Slot.bool 57],true)]⟩ _ H R (Eq.mp (by unfold reverseGX.W;kernel_rfl) h)
theorem reverseOpTypeX.enter (p:Nat) (ok:Int) (ck:Int) (z:Bool) (H:Heap) (R:RR) (h:reverseGX.W fq141 p ok ck z H R):Fn PP fq97 #[(pq p),(.int .i64 ok),(.func (.func fq141) #[] #[]),(.int .i64 ck),(.bool z)] H R:=
 fnS mixed Tryz.func97 ⟨patX [(22,pTkE,⟨Int×Int×Int×ByteArray×Nat,fun x=>(.tuple #[(.agg #[(.int .i64 x.1),(.int .i64 x.2.1),(.int .i64 x.2.2.1),(.string x.2.2.2.1)]),(.iface tq49 (pq x.2.2.2.2))])⟩),(41,pIfE,⟨Value×Nat,fun x=>(.tuple #[x.1,(.iface tq49 (pq x.2))])⟩)] [(31,pBoE),(61,(pInt .i64)),(64,⟨Nat,fun x=>(.iface tq49 (pq x))⟩)],loopL [(0,[Slot.slc 14])],joinL [],joinL [],joinRL [(13,[Slot.bool 57],true)]⟩ _ H R (Eq.mp (by unfold reverseGX.W;kernel_rfl) h)
end Go.Vx
