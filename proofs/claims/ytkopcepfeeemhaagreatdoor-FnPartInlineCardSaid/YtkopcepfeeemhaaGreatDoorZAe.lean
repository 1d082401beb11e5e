/- A part of the proof of what the last text of this claim says: PA6, PA7, PA8, PA9, PA10, PA11. Conditions: none. -/
import Derived.Test.YtkopcepfeeemhaaGreatDoorZAd
set_option maxRecDepth 10000
namespace Go.Vx
open Go Go.Proofs
structure Tk where
 kind:Int
 value:ByteArray
 start:Nat
 stop:Nat
def Tk.vals (t:Tk):List Value:=[.int .i64 t.kind,.string t.value,.int .i64 t.start,.int .i64 t.stop]
def tkL (ts:List Tk):List Value:=ts.flatMap Tk.vals
def TkOk (s:ByteArray) (t:Tk):Prop:=t.kind=16∨t.kind=17→Num s t.start t.kind t.stop∧t.start<t.stop∧t.stop≤s.size∧t.value=s.extract t.start t.stop
structure LexInv (H0 H:Heap) (x:Nat) (σ:LexSt) (ts:List Tk):Prop where
 ext:Ext [] H0 H
 at_:LexAt H x σ
 new:H0.size≤x
 own:OwnS H tq138 4 σ.oa σ.on σ.oc (tkL ts)
 row: ∀r,rowOf σ.oa=some r→H0.size≤r
 le:σ.pos≤σ.s.size
 many:σ.on≤σ.pos
 toks: ∀t∈ts,TkOk σ.s t
theorem LexInv.store {H0 H:Heap} {x:Nat} {σ:LexSt} {ts:List Tk} (h:LexInv H0 H x σ ts) (σ':LexSt) (hs:σ'.s=σ.s) (ha:σ'.oa=σ.oa) (hn:σ'.on=σ.on) (hc:σ'.oc=σ.oc)
 (hp:σ.pos≤σ'.pos∧σ'.pos≤σ.s.size):LexInv H0 (H.setIfInBounds x σ'.obj) x σ' ts:=by
 have e:Ext [x] H (H.setIfInBounds x σ'.obj):=Ext.set (by simp) _
 refine⟨h.ext.setNew h.new _,get_setIf _ _ _ _ h.at_,h.new,?_,by rw[ha];exact h.row,by rw[hs];exact hp.2,by rw[hn];exact Nat.le_trans h.many hp.1,by rw[hs];exact h.toks⟩
 rw[ha,hn,hc]
 refine h.own.ext e fun r hr hm=>?_
 exact h.own.ne h.at_ (by decide) hr (by simpa using hm)
theorem lexStore {H:Heap} {x:Nat} {σ:LexSt} (hx:LexAt H x σ) (k:Nat) (v:Value) (σ':LexSt) (hv:one v=true) (hk:k<5) (he: .cells (writeAt #[.string σ.s,.int .i64 σ.pos,.slice σ.oa σ.on σ.oc,.bool σ.bad,.bool σ.uns] k [v]) tq326=σ'.obj) {K:Heap→Prop}
 (h:K (H.setIfInBounds x σ'.obj)):storeW H ⟨x,k,none⟩ [v] K:=by
 refine swI hx (by simp;omega) rfl (by simp[oneL,hv]) fun H' e _ _ _=>?_
 rw[he] at e
 rw[e];exact h
theorem lexFail_ok (H0 H:Heap) (x:Nat) (σ:LexSt) (ts:List Tk) (h:LexInv H0 H x σ ts):
 Fn PP fq224 #[.pointer (some ⟨x,0,none⟩)] H fun v H'=>v= .tuple #[]∧LexInv H0 H' x {σ with bad:=true} ts:=by
 refine lexFail.enter x H _ ?_
 unfold lexFail.W
 refine lexStore h.at_ 3 _ {σ with bad:=true} rfl (by decide) rfl ?_
 exact rkI ⟨rfl,h.store _ rfl rfl rfl rfl ⟨Nat.le_refl _,h.le⟩⟩
theorem lexAdd_ok (H0 H:Heap) (x:Nat) (σ:LexSt) (ts:List Tk) (h:LexInv H0 H x σ ts) (kind:Int) (to:Nat) (value:ByteArray) (hto:σ.pos<to∧to≤σ.s.size) (hs:σ.s.size<4294967296)
 (htk:TkOk σ.s ⟨kind,value,σ.pos,to⟩):
 Fn PP fq218 #[.pointer (some ⟨x,0,none⟩),.int .i64 kind,.int .i64 to,.string value] H fun v H'=>v= .tuple #[]∧
  ∃a c,LexInv H0 H' x {σ with oa:=a,on:=σ.on+1,oc:=c,pos:=to} (ts++[⟨kind,value,σ.pos,to⟩]):=by
 refine lexAdd.enter x kind to value H _ ?_
 unfold lexAdd.W
 refine⟨(σ.oa,σ.on,σ.oc),lcO h.at_ rfl,?_⟩
 refine⟨_,lcO h.at_ rfl,?_⟩
 refine nbI fun H4 e4 hb4 ext4 hs4=>?_
 refine⟨loadC_ext ext4 (lcO h.at_ rfl) (by simp),?_⟩
 have hx4:=ext4.get _ _ h.at_ (by simp)
 have hm:=h.many
 refine .inr ⟨tkL ts,_,h.own.ext ext4 (by simp),NewsS.of_block hb4 rfl,by simp[Value.oneCell'],by simp only[maxLen];omega,by dsimp only;omega,?_⟩
 intro a' c' H7 own' grow hnil hrow
 dsimp only
 have hx7:H7[x]?=some σ.obj:=grow.ext.get _ _ hx4 (by
  intro hm
  rw[Option.mem_toList] at hm
  exact(h.own.ext ext4 (by simp)).ne hx4 (by decide) hm rfl)
 refine lexStore (σ:=σ) hx7 2 _ {σ with oa:=a',on:=σ.on+1,oc:=c'} rfl (by decide) rfl ?_
 refine lexStore (σ:= {σ with oa:=a',on:=σ.on+1,oc:=c'}) (get_setIf _ _ _ _ hx7) 1 _ {σ with oa:=a',on:=σ.on+1,oc:=c',pos:=to} rfl (by decide) rfl ?_
 refine rkI ⟨rfl,a',c',?_⟩
 have ext7:Ext [] H0 H7:=by
  refine⟨Nat.le_trans (Nat.le_trans h.ext.size ext4.size) grow.size,fun k o hk hn=>?_⟩
  refine grow.ext.get _ _ (ext4.get _ _ (h.ext.get _ _ hk hn) hn) ?_
  intro hm
  rw[Option.mem_toList] at hm
  have:=h.row _ hm
  have:=lt_of_get hk
  omega
 have own2:OwnS H7 tq138 4 a' (σ.on+1) c' (tkL (ts++[⟨kind,value,σ.pos,to⟩])):=by
  have:tkL (ts++[⟨kind,value,σ.pos,to⟩])=tkL ts++[.int .i64 kind,.string value,.int .i64 σ.pos,.int .i64 to]:=by simp[tkL,Tk.vals]
  rw[this];exact own'
 refine⟨(ext7.setNew h.new _).setNew h.new _,get_setIf _ _ _ _ (get_setIf _ _ _ _ hx7),h.new,?_,?_,hto.2,by show σ.on+1≤to;omega,?_⟩
 ·have ne: ∀r,rowOf a'=some r→r∉ [x]:=fun r hr hm=>own2.ne hx7 (by decide) hr (by simpa using hm)
  exact(own2.ext (Ext.set (by simp) _) ne).ext (Ext.set (by simp) _) ne
 ·intro r hr
  rcases hrow with h1|h1
  ·exact h.row r (by rw[←h1];exact hr)
  ·have:r=H4.size:=by
    have:=hr.symm.trans h1;simpa using this
   have:=h.ext.size
   omega
 ·intro t ht
  rcases List.mem_append.1 ht with ht|ht
  ·exact h.toks t ht
  ·rw[List.mem_singleton] at ht;subst ht;exact htk
def Stepped (H0 H:Heap) (x:Nat) (σ:LexSt):Prop:= ∃σ' ts',LexInv H0 H x σ' ts'∧σ'.s=σ.s∧(σ'.bad=true∨σ.pos<σ'.pos)
theorem source_ok (c:Int) (H:Heap):Fn PP fq237 #[.int .i64 c] H fun v H'=>v= .tuple #[.bool (c==9||c==10||c==13||decide (32≤c)),.bool (decide (c≤65535))]∧H=H':=by
 refine source_.enter c H _ ?_
 unfold source_.W
 refine fkI (fun h=>rkI ⟨by simp[retV,h],rfl⟩) (fun h=>?_)
 refine fkI (fun h1=>rkI ⟨by simp[retV,h,h1],rfl⟩) (fun h1=>?_)
 exact fkI (fun h2=>rkI ⟨by simp[retV,h,h1,h2],rfl⟩) (fun h2=>rkI ⟨by simp[retV,h,h1,h2],rfl⟩)
def hexM (c:Int):Int:=if 48≤c∧c≤57 then c -48 else if 97≤c∧c≤102 then c -87 else if 65≤c∧c≤70 then c -55 else -1
theorem hex_ok (c:Int) (H:Heap) (hc:0≤c∧c≤255):Fn PP fq250 #[.int .u8 c] H fun v H'=>v= .int .i64 (hexM c)∧H=H':=by
 refine hexadecimal.enter c H _ ?_
 unfold hexadecimal.W
 repeat' refine fkI (fun _=>?_) (fun _=>?_)
 all_goals refine rkI ⟨?_,rfl⟩
 all_goals simp only[decide_eq_true_eq,decide_eq_false_iff_not] at*
 all_goals simp only[retV,Value.int.injEq,true_and]
 all_goals first|rw[u8w (by omega),i64w (n:=c -48) (by omega)]|rw[u8w (by omega),i64w (n:=c -97) (by omega),i64w (by omega)]|rw[u8w (by omega),i64w (n:=c -65) (by omega),i64w (by omega)]|skip
 all_goals unfold hexM
 all_goals first|(rw[if_pos (by omega)]<;>omega)|(rw[if_neg (by omega),if_pos (by omega)]<;>omega)|(rw[if_neg (by omega),if_neg (by omega),if_pos (by omega)]<;>omega)|(rw[if_neg (by omega),if_neg (by omega),if_neg (by omega)])
def signM (c:Int):Int:=if(c==33)=true then 2 else if(c==36)=true then 3 else if(c==40)=true then 4 else if(c==41)=true then 5 else if(c==58)=true then 7 else if(c==61)=true then 8 else if(c==64)=true then 9 else if(c==91)=true then 10 else if(c==93)=true then 11 else if(c==123)=true then 12 else if(c==124)=true then 13 else if(c==125)=true then 14 else if(c==38)=true then 20 else 0
theorem sign_ok (c:Int) (H:Heap):Fn PP fq219 #[.int .u8 c] H fun v H'=>v= .int .i64 (signM c)∧H=H':=by
 refine sign.enter c H _ ?_
 unfold sign.W
 repeat' refine fkI (fun _=>?_) (fun _=>?_)
 all_goals refine rkI ⟨?_,rfl⟩
 all_goals simp only[retV,signM, *,Bool.false_eq_true,if_false,if_true]
theorem signM_range (c:Int):signM c=0∨2≤signM c∧signM c≤14∨signM c=20:=by
 unfold signM;repeat' split
 all_goals omega
def startsM (s:ByteArray) (a:Nat) (t:ByteArray):Bool:=decide (a+t.size≤s.size)&&((s.extract a (a+t.size)).toList==t.toList)
theorem starts_ok (s t:ByteArray) (a:Nat) (H:Heap) (ha:a≤s.size) (hs:s.size<4294967296) (ht:t.size<1000):
 Fn PP fq80 #[.string s,.int .i64 a,.string t] H fun v H'=>v= .bool (startsM s a t)∧H=H':=by
 refine starts.enter s a t H _ ?_
 unfold starts.W
 rw[wrapN (by omega) _ ht]
 refine fkI (fun h=>?_) (fun h=>rkI ⟨?_,rfl⟩)
 ·have h':a+t.size≤s.size:=by simp at h;omega
  refine⟨by omega,rkI ⟨?_,rfl⟩⟩
  have e:((a+t.size:Nat):Int).toNat=a+t.size:=by omega
  rw[e]
  simp[retV,startsM,h']
 ·have h': ¬a+t.size≤s.size:=by simp at h;omega
  simp[retV,startsM,h']
theorem Encoded_ok (c:Int) (H:Heap):Fn PP fq251 #[.int .i64 c] H fun v H'=>v= .string (Utf8.encode (IntKind.i32.wrap c))∧Ext [] H H':=by
 refine Encoded.enter c H _ ?_
 unfold Encoded.W
 refine nbI fun H4 e4 hb4 ext4 hs4=>?_
 exact⟨_,lcO hb4 rfl,rkI ⟨rfl,ext4⟩⟩
theorem lexNumber_ok (H0 H:Heap) (x:Nat) (σ:LexSt) (ts:List Tk) (h:LexInv H0 H x σ ts) (hs:σ.s.size<4294967296) (hp:σ.pos<σ.s.size):
 Fn PP fq221 #[.pointer (some ⟨x,0,none⟩)] H fun v H'=>v= .tuple #[]∧Stepped H0 H' x σ:=by
 refine lexNumber.enter x H _ ?_
 unfold lexNumber.W
 refine⟨_,lcO h.at_ rfl,?_⟩
 refine(lexNumeral_ok x σ.pos σ H h.at_ hs hp).mono ?_
 rintro _ _ ⟨k,j,rfl,rfl,hkj⟩
 refine⟨(k,j),rfl,fkI (fun h0=>?_) (fun h0=>?_)⟩
 ·refine(lexFail_ok H0 H x σ ts h).mono ?_
  rintro _ H' ⟨rfl,h'⟩
  exact⟨(),rfl,rkI ⟨rfl,_,_,h',rfl,.inl rfl⟩⟩
 ·have hk: ¬k=0:=by simpa using h0
  rcases hkj with⟨h1,_⟩|⟨n,rfl,hk16,hnum,hlt,hle⟩
  ·exact absurd h1 hk
  dsimp only
  refine(lexNext_ok x n σ _ h.at_).mono ?_
  rintro _ _ ⟨rfl,rfl⟩
  refine⟨_,rfl,fun y H'=>H=H',?_,?_⟩
  ·refine fkI (fun _=>rfl) (fun _=>?_)
   refine(isBegin_ok _ _).mono ?_
   rintro _ _ ⟨rfl,rfl⟩
   exact⟨_,rfl,rfl⟩
  rintro⟨b,_⟩ _ rfl
  refine fkI (fun _=>?_) (fun _=>?_)
  ·refine lexStore h.at_ 4 _ {σ with uns:=true} rfl (by decide) rfl ?_
   refine(lexFail_ok H0 _ x _ ts (h.store {σ with uns:=true} rfl rfl rfl rfl ⟨Nat.le_refl _,h.le⟩)).mono ?_
   rintro _ H' ⟨rfl,h'⟩
   exact⟨(),rfl,rkI ⟨rfl,_,_,h',rfl,.inl rfl⟩⟩
  ·refine⟨_,lcO h.at_ rfl,?_⟩
   refine⟨_,lcO h.at_ rfl,?_⟩
   refine⟨by omega,?_⟩
   refine(lexAdd_ok H0 H x σ ts h k n _ ⟨hlt,hle⟩ hs ?_).mono ?_
   ·intro _;exact⟨hnum,hlt,hle,rfl⟩
   ·rintro _ H' ⟨rfl,a,c,h'⟩
    exact⟨(),rfl,rkI ⟨rfl,_,_,h',rfl,.inr hlt⟩⟩
theorem lexComment_ok (H0 H:Heap) (x:Nat) (σ:LexSt) (ts:List Tk) (h:LexInv H0 H x σ ts) (hs:σ.s.size<4294967296) (hp:σ.pos<σ.s.size) (h35:bt σ.s σ.pos=35):
 Fn PP fq217 #[.pointer (some ⟨x,0,none⟩)] H fun v H'=>v= .tuple #[]∧Stepped H0 H' x σ:=by
 refine lexComment.enter x H _ ?_
 unfold lexComment.W
 refine⟨fun _ H'=> ∃p u,σ.pos≤p∧p≤σ.s.size∧LexInv H0 H' x {σ with pos:=p,uns:=u} ts,
  fun _ H'=>match loadC H' false 1 ⟨x,1,none⟩ with|some (.int _ n)=>σ.s.size -n.toNat|_=>0,⟨σ.pos,σ.uns,Nat.le_refl _,h.le,h⟩,?_⟩
 rintro _ H2 ⟨p,u,hp1,hp2,h2⟩
 have done:p=σ.pos→False∨True:=fun _=> .inr trivial
 refine⟨_,lcO h2.at_ rfl,?_⟩
 refine⟨_,lcO h2.at_ rfl,?_⟩
 have stop:p≠σ.pos→retK (some []) H2 fun v H'=>v= .tuple #[]∧Stepped H0 H' x σ:=fun hne=>
  rkI ⟨rfl,_,_,h2,rfl,.inr (by show σ.pos<p;omega)⟩
 refine fkI (fun hlt=>?_) (fun hge=>stop (fun e=>?_))
 ·have hlt':p<σ.s.size:=by simp at hlt;exact hlt
  refine⟨_,lcO h2.at_ rfl,?_⟩
  refine⟨_,lcO h2.at_ rfl,?_⟩
  refine⟨by dsimp only;omega,fkI (fun h10=>?_) (fun h10=>stop (fun e=>?_))⟩
  ·refine⟨_,lcO h2.at_ rfl,?_⟩
   refine⟨_,lcO h2.at_ rfl,?_⟩
   refine⟨by dsimp only;omega,fkI (fun h13=>?_) (fun h13=>stop (fun e=>?_))⟩
   ·refine⟨_,lcO h2.at_ rfl,?_⟩
    refine⟨_,lcO h2.at_ rfl,?_⟩
    refine(Point_ok σ.s p H2 hlt' hs).mono ?_
    rintro _ _ ⟨rfl,rfl⟩
    have hpl:=pointM_le σ.s p hlt'
    generalize pointM σ.s p=cn at hpl⊢
    obtain⟨c,n⟩:=cn
    dsimp only at hpl
    refine⟨(c,n),rfl,fkI (fun h0=>?_) (fun h0=>?_)⟩
    ·refine lexStore h2.at_ 3 _ {σ with pos:=p,uns:=u,bad:=true} rfl (by decide) rfl ?_
     refine lexStore (σ:= {σ with pos:=p,uns:=u,bad:=true}) (get_setIf _ _ _ _ h2.at_) 4 _ {σ with pos:=p,uns:=true,bad:=true} rfl (by decide) rfl ?_
     refine rkI ⟨rfl,_,_,(h2.store {σ with pos:=p,uns:=u,bad:=true} rfl rfl rfl rfl ⟨Nat.le_refl _,h2.le⟩).store {σ with pos:=p,uns:=true,bad:=true} rfl rfl rfl rfl ⟨Nat.le_refl _,h2.le⟩,rfl,.inl rfl⟩
    ·have hn: ¬n=0:=by simp at h0;omega
     refine(source_ok c H2).mono ?_
     rintro _ _ ⟨rfl,rfl⟩
     refine⟨(_,_),rfl,_,lcO h2.at_ rfl,?_⟩
     have step: ∀b:Bool,storeW H2 ⟨x,4,none⟩ [.bool b] fun H19=>loadW H19 false 1 ⟨x,1,none⟩ (pInt .i64) fun(x20:Int)=>storeW H19 ⟨x,1,none⟩ [(.int .i64 (IntKind.i64.wrap (x20+(n:Int))))] fun H21=>
      (∃p' u,σ.pos≤p'∧p'≤σ.s.size∧LexInv H0 H21 x {σ with pos:=p',uns:=u} ts)∧(match loadC H21 false 1 ⟨x,1,none⟩ with|some (.int _ n)=>σ.s.size -n.toNat|_=>0)<(match loadC H2 false 1 ⟨x,1,none⟩ with|some (.int _ n)=>σ.s.size -n.toNat|_=>0):=by
      intro b
      refine lexStore h2.at_ 4 _ {σ with pos:=p,uns:=b} rfl (by decide) rfl ?_
      refine⟨_,lcO (get_setIf _ _ _ _ h2.at_) rfl,?_⟩
      refine lexStore (get_setIf _ _ _ _ h2.at_) 1 _ {σ with pos:=p+n,uns:=b} rfl (by decide) ?_ ?_
      ·dsimp only[writeAt,LexSt.obj]
       rw[wrapN (by omega) n (by omega)];rfl
      ·have h3:=(h2.store {σ with pos:=p,uns:=b} rfl rfl rfl rfl ⟨Nat.le_refl _,h2.le⟩).store {σ with pos:=p+n,uns:=b} rfl rfl rfl rfl ⟨by show p≤p+n;omega,by show p+n≤σ.s.size;omega⟩
       refine⟨⟨p+n,b,by omega,by omega,h3⟩,?_⟩
       rw[lcO h3.at_ rfl,lcO h2.at_ rfl]
       show σ.s.size -((p+n:Nat):Int).toNat<σ.s.size -(p:Int).toNat
       omega
     refine fkI (fun _=>step _) (fun _=>?_)
     refine fkI (fun _=>step _) (fun _=>?_)
     exact fkI (fun _=>step _) (fun _=>step _)
   ·subst e;simp at h13;rw[h35] at h13;simp at h13
  ·subst e;simp at h10;rw[h35] at h10;simp at h10
 ·subst e;simp at hge;omega
theorem LexInv.grow {H0 H H':Heap} {x:Nat} {σ:LexSt} {ts:List Tk} (h:LexInv H0 H x σ ts) (he:Ext [] H H'):LexInv H0 H' x σ ts:=
 ⟨h.ext.trans he,he.get _ _ h.at_ (by simp),h.new,h.own.ext he (by simp),h.row,h.le,h.many,h.toks⟩
theorem LexInv.uns {H0 H:Heap} {x:Nat} {σ:LexSt} {ts:List Tk} (h:LexInv H0 H x σ ts) (u:Bool):LexInv H0 (H.setIfInBounds x {σ with uns:=u}.obj) x {σ with uns:=u} ts:=
 h.store _ rfl rfl rfl rfl ⟨Nat.le_refl _,h.le⟩
theorem encode_size (c:Int):(Utf8.encode c).size≤4:=by
 have key: ∀(k:Nat) (b:Nat→UInt8),(if k<0x80 then(⟨#[b k]⟩:ByteArray) else if k<0x800 then⟨#[b (0xC0+k/64),b (0x80+k% 64)]⟩
  else if k<0x10000 then⟨#[b (0xE0+k/4096),b (0x80+k/64% 64),b (0x80+k% 64)]⟩
  else⟨#[b (0xF0+k/262144),b (0x80+k/4096% 64),b (0x80+k/64% 64),b (0x80+k% 64)]⟩).size≤4:=by
  intro k b
  split
  ·exact(show(1:Nat)≤4 by decide)
  split
  ·exact(show(2:Nat)≤4 by decide)
  split
  ·exact(show(3:Nat)≤4 by decide)
  ·exact(show(4:Nat)≤4 by decide)
 exact key _ _
theorem hexM_range (c:Int):hexM c= -1∨(0≤hexM c∧hexM c≤15):=by
 unfold hexM;split;omega;split;omega;split;omega;omega
theorem lexEscape_ok (H0 H:Heap) (x:Nat) (σ:LexSt) (ts:List Tk) (h:LexInv H0 H x σ ts) (i:Nat) (hs:σ.s.size<4294967296) (hi:i<σ.s.size):
 Fn PP fq239 #[.pointer (some ⟨x,0,none⟩),.int .i64 i] H fun v H'=> ∃(t:ByteArray) (n:Nat) (u:Bool),v= .tuple #[.string t,.int .i64 n]∧LexInv H0 H' x {σ with uns:=u} ts∧
  (n=0∨(2≤n∧i+n≤σ.s.size∧t.size≤4)):=by
 refine lexEscape.enter x i H _ ?_
 unfold lexEscape.W
 rw[wrap1 (by omega)]
 refine(lexNext_ok x (i+1) σ H h.at_).mono ?_
 rintro _ _ ⟨rfl,rfl⟩
 refine⟨_,rfl,?_⟩
 have fin0: ∀(H':Heap) (u:Bool),LexInv H0 H' x {σ with uns:=u} ts→retK (some [.string (bs []),.int .i64 0]) H' fun v H'=> ∃(t:ByteArray) (n:Nat) (u:Bool),v= .tuple #[.string t,.int .i64 n]∧LexInv H0 H' x {σ with uns:=u} ts∧
  (n=0∨(2≤n∧i+n≤σ.s.size∧t.size≤4)):=fun H' u hu=>rkI ⟨_,0,u,rfl,hu,.inl rfl⟩
 refine⟨fun z H'=>H=H'∧ ∃k:Nat,z.1=k∧k≤8,fun z _=>8 -z.1.toNat,⟨rfl,0,rfl,by omega⟩,?_⟩
 rintro⟨_,_⟩ _ ⟨rfl,k,hk,hk8⟩
 dsimp only at hk⊢
 subst hk
 have e8:(bs [34,92,47,98,102,110,114,116]).size=8:=rfl
 have e8':(bs [34,92,47,8,12,10,13,9]).size=8:=rfl
 rw[e8,e8',wrap1 (by omega)]
 refine fkI (fun hlt=>?_) (fun hge=>?_)
 ·have hlt':k<8:=by simp at hlt;omega
  refine⟨by omega,fkI (fun he=>?_) (fun he=>?_)⟩
  ·refine⟨by omega,rkI ⟨_,2,σ.uns,rfl,h,.inr ⟨Nat.le_refl _,?_,?_⟩⟩⟩
   ·have hne:nextM σ.s (i+1)≠0:=by
     intro h0
     rw[h0] at he
     have: ∀k:Nat,k<8→(bt (bs [34,92,47,98,102,110,114,116]) (k:Int)==0)=false:=by decide
     rw[this k hlt'] at he;cases he
    have:=next_lt hne
    omega
   ·rw[ByteArray.size_extract];omega
  ·exact⟨⟨rfl,k+1,rfl,by omega⟩,by omega⟩
 ·refine fkI (fun hu=>fin0 _ _ h) (fun hu=>?_)
  rw[wrapL (k:=i) 2,wrapL (k:=i) 6]
  refine⟨fun z H'=>H=H'∧ ∃k:Nat,z.2.1=k∧i+2≤k∧k≤i+6∧(k=i+2∨k≤σ.s.size)∧0≤z.1∧
   (k=i+2∧z.1=0∨k=i+3∧z.1<16∨k=i+4∧z.1<256∨k=i+5∧z.1<4096∨k=i+6∧z.1<65536),fun z _=>i+6 -z.2.1.toNat,
   ⟨rfl,i+2,rfl,by omega,by omega,.inl rfl,by omega,.inl ⟨rfl,rfl⟩⟩,?_⟩
  rintro⟨c,_,_⟩ _ ⟨rfl,k,hk,hk1,hk2,hks,hc0,hcb⟩
  dsimp only at hk hc0 hcb⊢
  subst hk
  refine fkI (fun hlt=>?_) (fun hge=>?_)
  ·have hlt':k<i+6:=by simp at hlt;omega
   refine(lexNext_ok x k σ H h.at_).mono ?_
   rintro _ _ ⟨rfl,rfl⟩
   refine⟨_,rfl,?_⟩
   have hnr:0≤nextM σ.s k∧nextM σ.s k≤255:=by
    unfold nextM;split
    ·omega
    ·exact bt_range _ _
   refine(hex_ok _ _ hnr).mono ?_
   rintro _ _ ⟨rfl,rfl⟩
   refine⟨_,rfl,fkI (fun hneg=>?_) (fun hpos=>?_)⟩
   ·refine⟨_,lcO h.at_ rfl,fkI (fun _=>?_) (fun _=>?_)⟩
    ·refine lexStore h.at_ 4 _ {σ with uns:=true} rfl (by decide) rfl ?_
     exact fin0 _ _ (h.uns _)
    ·refine(lexNext_ok x k σ H h.at_).mono ?_
     rintro _ _ ⟨rfl,rfl⟩
     refine⟨_,rfl,?_⟩
     refine lexStore h.at_ 4 _ {σ with uns:=nextM σ.s k==123} rfl (by decide) rfl ?_
     exact fin0 _ _ (h.uns _)
   ·have hp:0≤hexM (nextM σ.s k):=by simpa using hpos
    have hr:=hexM_range (nextM σ.s k)
    have hks':k<σ.s.size:=by
     apply next_lt
     intro h0
     rw[h0] at hp
     simp[hexM] at hp
    generalize hexM (nextM σ.s k)=d at hp hr
    rw[i64w (n:=16*c) (by omega),wrap1 (by omega),i64w (n:=16*c+d) (by omega)]
    exact⟨⟨rfl,k+1,rfl,by omega,by omega,.inr hks',by omega,by omega⟩,by omega⟩
  ·have hk6:k=i+6:=by simp at hge;omega
   refine joinPK_and ?_
   refine fkI (fun _=>?_) (fun _=>?_)
   ·refine lexStore h.at_ 4 _ {σ with uns:=true} rfl (by decide) rfl ?_
    exact fin0 _ _ (h.uns _)
   ·refine⟨_,lcO h.at_ rfl,?_⟩
    have last: ∀(H':Heap) (u:Bool),LexInv H0 H' x {σ with uns:=u} ts→callW PP fq251 #[.int .i64 c] H' pStr fun(x23:ByteArray) H24=>retK (some [.string x23,.int .i64 6]) H24
     fun v H'=> ∃(t:ByteArray) (n:Nat) (u:Bool),v= .tuple #[.string t,.int .i64 n]∧LexInv H0 H' x {σ with uns:=u} ts∧(n=0∨(2≤n∧i+n≤σ.s.size∧t.size≤4)):=by
     intro H' u hu
     refine(Encoded_ok c H').mono ?_
     rintro _ H2 ⟨rfl,he⟩
     exact⟨_,rfl,rkI ⟨_,6,u,rfl,hu.grow he,.inr ⟨by omega,by omega,encode_size _⟩⟩⟩
    refine fkI (fun _=>?_) (fun _=>?_)
    ·refine lexStore h.at_ 4 _ {σ with uns:=true} rfl (by decide) rfl ?_
     exact last _ _ (h.uns _)
    ·refine lexStore h.at_ 4 _ {σ with uns:=c==0} rfl (by decide) rfl ?_
     exact last _ _ (h.uns _)
theorem lexText_ok (H0 H:Heap) (x:Nat) (σ:LexSt) (ts:List Tk) (h:LexInv H0 H x σ ts) (hs:σ.s.size<4294967296) (hp:σ.pos<σ.s.size):
 Fn PP fq223 #[.pointer (some ⟨x,0,none⟩)] H fun v H'=>v= .tuple #[]∧Stepped H0 H' x σ:=by
 refine lexText.enter x H _ ?_
 unfold lexText.W
 refine⟨_,lcO h.at_ rfl,?_⟩
 dsimp only
 rw[wrap1 (by omega)]
 refine⟨fun z H'=> ∃(p:Nat) (u:Bool),z.2.1=p∧σ.pos<p∧p≤σ.s.size∧z.1.size≤4*p∧LexInv H0 H' x {σ with uns:=u} ts,fun z _=>σ.s.size -z.2.1.toNat,
  ⟨σ.pos+1,σ.uns,rfl,by omega,by omega,by simp[bs,ByteArray.size],h⟩,?_⟩
 rintro⟨out,_,_⟩ H2 ⟨p,u,hp',hp1,hp2,ho,h2⟩
 dsimp only at hp' ho⊢
 subst hp'
 have fail: ∀(H':Heap) (u:Bool),LexInv H0 H' x {σ with uns:=u} ts→callW PP fq224 #[.pointer (some ⟨x,0,none⟩)] H' ⟨Unit,fun _=> .tuple #[]⟩ fun(_:Unit) H12=>
  retK (some []) H12 fun v H'=>v= .tuple #[]∧Stepped H0 H' x σ:=by
  intro H' u hu
  refine(lexFail_ok H0 H' x _ ts hu).mono ?_
  rintro _ H' ⟨rfl,h'⟩
  exact⟨(),rfl,rkI ⟨rfl,_,_,h',rfl,.inl rfl⟩⟩
 refine⟨_,lcO h2.at_ rfl,?_⟩
 refine fkI (fun hlt=>?_) (fun _=>fail _ _ h2)
 have hlt':p<σ.s.size:=by simp at hlt;exact hlt
 refine⟨_,lcO h2.at_ rfl,?_⟩
 refine⟨by dsimp only;omega,fkI (fun _=>?_) (fun _=>?_)⟩
 ·rw[wrap1 (by omega)]
  refine(lexAdd_ok H0 H2 x _ ts h2 18 (p+1) out ⟨by dsimp only;omega,by dsimp only;omega⟩ hs (by rintro(h|h)<;>simp at h)).mono ?_
  rintro _ H' ⟨rfl,a,c,h'⟩
  exact⟨(),rfl,rkI ⟨rfl,_,_,h',rfl,.inr (by dsimp only;omega)⟩⟩
 refine joinPK_or (fkI (fun _=>fail _ _ h2) (fun _=>fkI (fun _=>?_) (fun _=>?_)))
 ·refine(lexEscape_ok H0 H2 x _ ts h2 p hs hlt').mono ?_
  rintro _ H' ⟨t,n,u',rfl,h',hn⟩
  refine⟨(t,n),rfl,fkI (fun _=>fail _ _ h') (fun h0=>?_)⟩
  have hn0: ¬n=0:=by simp at h0;omega
  have hn':2≤n∧p+n≤σ.s.size∧t.size≤4:=by rcases hn with h|h;exact absurd h hn0;exact h
  dsimp only
  rw[i64w (by omega)]
  refine⟨by omega,⟨p+n,u',by omega,by omega,by omega,?_,h'⟩,by omega⟩
  rw[ByteArray.size_append];omega
 ·refine⟨_,lcO h2.at_ rfl,?_⟩
  refine(Point_ok σ.s p H2 hlt' hs).mono ?_
  rintro _ _ ⟨rfl,rfl⟩
  have hpl:=pointM_le σ.s p hlt'
  generalize pointM σ.s p=cn at hpl⊢
  obtain⟨c,n⟩:=cn
  dsimp only at hpl
  refine⟨(c,n),rfl,(source_ok c H2).mono ?_⟩
  rintro _ _ ⟨rfl,rfl⟩
  refine⟨(_,_),rfl,?_⟩
  refine joinPK_or (fkI (fun _=>?_) (fun h0=>?_))
  ·refine⟨_,lcO h2.at_ rfl,?_⟩
   refine fkI (fun _=>?_) (fun _=>?_)
   ·refine lexStore h2.at_ 4 _ {σ with uns:=true} rfl (by decide) rfl ?_
    exact fail _ _ (h2.uns _)
   ·refine lexStore h2.at_ 4 _ {σ with uns:=((n:Int)==0)} rfl (by decide) rfl ?_
    exact fail _ _ (h2.uns _)
  ·have hn0: ¬n=0:=by simp at h0;omega
   refine⟨_,lcO h2.at_ rfl,?_⟩
   dsimp only
   have step: ∀b:Bool,storeW H2 ⟨x,4,none⟩ [.bool b] fun H32=>loadW H32 false 1 ⟨x,0,none⟩ pStr fun(x33:ByteArray)=>
    (((0:Int)≤(IntKind.i64.wrap ((p:Int)+(n:Int)))∧(IntKind.i64.wrap ((p:Int)+(n:Int)))≤((x33.size:Nat):Int))∧((0:Int)≤(p:Int)∧(p:Int)≤(((IntKind.i64.wrap ((p:Int)+(n:Int))).toNat:Nat):Int)))∧
    (((out.size+(x33.extract (p:Int).toNat (IntKind.i64.wrap ((p:Int)+(n:Int))).toNat).size:Nat):Int)≤9223372036854775807)∧
    ((∃(p':Nat) (u:Bool),(IntKind.i64.wrap ((p:Int)+(n:Int)))=p'∧σ.pos<p'∧p'≤σ.s.size∧(out++(x33.extract (p:Int).toNat (IntKind.i64.wrap ((p:Int)+(n:Int))).toNat)).size≤4*p'∧LexInv H0 H32 x {σ with uns:=u} ts)∧
      σ.s.size -(IntKind.i64.wrap ((p:Int)+(n:Int))).toNat<σ.s.size -(p:Int).toNat):=by
    intro b
    refine lexStore h2.at_ 4 _ {σ with uns:=b} rfl (by decide) rfl ?_
    refine⟨_,lcO (get_setIf _ _ _ _ h2.at_) rfl,?_⟩
    dsimp only
    rw[wrapN (by omega) n (by omega)]
    have e1:((p+n:Nat):Int).toNat=p+n:=by omega
    have e2:(p:Int).toNat=p:=by omega
    rw[e1,e2,ByteArray.size_append,ByteArray.size_extract]
    exact⟨by omega,by omega,⟨p+n,b,rfl,by omega,by omega,by omega,h2.uns _⟩,by omega⟩
   exact fkI (fun _=>step _) (fun _=>step _)
def whiteB (c:Int):Bool:=c==32||c==9
def leadGo (s:ByteArray) (k:Nat):Nat:=if k<s.size∧whiteB (bt s k)=true then leadGo s (k+1) else k
 termination_by s.size -k
 decreasing_by omega
def leadM (s:ByteArray):Nat:=leadGo s 0
theorem leadGo_le (s:ByteArray): ∀(n k:Nat),s.size -k=n→k≤s.size→k≤leadGo s k∧leadGo s k≤s.size:=by
 intro n
 induction n with
 |zero=>intro k h hk;unfold leadGo;rw[if_neg (by omega)];omega
 |succ n ih=>
  intro k h hk
  unfold leadGo
  split
  ·have:=ih (k+1) (by omega) (by omega);omega
  ·omega
theorem leadM_le (s:ByteArray):leadM s≤s.size:=(leadGo_le s _ 0 rfl (Nat.zero_le _)).2
theorem leading_ok (s:ByteArray) (H:Heap) (hs:s.size<4294967296):Fn PP fq135 #[.string s] H fun v H'=>v= .int .i64 (leadM s)∧H=H':=by
 refine leading.enter s H _ ?_
 unfold leading.W
 refine⟨fun z H'=>H=H'∧ ∃k:Nat,z.1=k∧k≤s.size∧leadM s=leadGo s k,fun z _=>s.size -z.1.toNat,⟨rfl,0,rfl,Nat.zero_le _,rfl⟩,?_⟩
 rintro⟨_,_⟩ _ ⟨rfl,k,hk,hks,hl⟩
 dsimp only at hk⊢
 subst hk
 refine⟨(decide (k<s.size)&&whiteB (bt s k),()),?_,?_⟩
 ·refine fkI (fun h=>?_) (fun h=>?_)
  ·have h':k<s.size:=by simp at h;exact h
   refine⟨by omega,fkI (fun h1=>⟨?_,rfl⟩) (fun h1=>⟨by omega,?_,rfl⟩)⟩
   ·simp only[h',decide_true,Bool.true_and,whiteB,h1,Bool.true_or]
   ·simp only[h',decide_true,Bool.true_and,whiteB,h1,Bool.false_or]
  ·have h': ¬k<s.size:=by simp at h;omega
   exact⟨by simp only[h',decide_false,Bool.false_and],rfl⟩
 ·unfold leadGo at hl
  refine fkI (fun h=>?_) (fun h=>?_)
  ·simp only[Bool.and_eq_true,decide_eq_true_eq] at h
   rw[if_pos h] at hl
   rw[wrap1 (by omega)]
   exact⟨⟨rfl,k+1,rfl,h.1,hl⟩,by omega⟩
  ·rw[if_neg (by simpa using h)] at hl
   exact rkI ⟨by rw[hl];rfl,rfl⟩
def StrsAt (H:Heap) (a:Option Addr) (n:Nat) (ss:List ByteArray):Prop:=
 n=ss.length∧(n=0∨ ∃g o c e fr,a=some ⟨g,o,none⟩∧H[g]?=some (.cells c e fr)∧ ∀i s,ss[i]?=some s→c[o+i]?=some (.string s))
theorem StrsAt.ext {S:List Nat} {H H':Heap} {a:Option Addr} {n:Nat} {ss:List ByteArray} (h:StrsAt H a n ss) (he:Ext S H H') (hs: ∀r,rowOf a=some r→r∉S):StrsAt H' a n ss:=by
 refine⟨h.1,h.2.imp id ?_⟩
 rintro⟨g,o,c,e,fr,rfl,hg,hr⟩
 exact⟨g,o,c,e,fr,rfl,he.get _ _ hg (hs g rfl),hr⟩
theorem StrsAt.load {H:Heap} {a:Option Addr} {n:Nat} {ss:List ByteArray} (h:StrsAt H a n ss) {i:Nat} {s:ByteArray} (hi:ss[i]?=some s):
 IxOk a (i:Int) n∧loadC H false 1 ⟨blkOf a,offOf a+(i:Int).toNat*1,none⟩=some (.string s):=by
 have hlt:=(List.getElem?_eq_some_iff.1 hi).1
 rcases h.2 with h0|⟨g,o,c,e,fr,rfl,hg,hr⟩
 ·have:=h.1;omega
 ·refine⟨ix_some (by omega) (by have:=h.1;omega),?_⟩
  have:=hr i s hi
  simp only[blkOf,offOf,loadC,cellAt,hg]
  have e:(i:Int).toNat*1=i:=by omega
  rw[e];simpa using this
theorem StrsAt.of_own {H:Heap} {e:TypeId} {a:Option Addr} {n c:Nat} {ss:List ByteArray} (h:OwnS H e 1 a n c (ss.map .string)):StrsAt H a n ss:=by
 have hl:n=ss.length:=by have:=h.1;simp at this;omega
 refine⟨hl,?_⟩
 rcases h.2 with⟨_,h0,_⟩|⟨g,cur,rfl,hg,_,_,_,ht⟩
 ·exact .inl h0
 ·refine .inr ⟨g,0,cur,e,(0,0),rfl,hg,fun i s hi=>?_⟩
  have hlt:=(List.getElem?_eq_some_iff.1 hi).1
  have h2:(cur.toList.take (n*1))[i]?=some (.string s):=by rw[ht];simp[hi]
  rw[List.getElem?_take,if_pos (by omega)] at h2
  simpa using h2
def commonGo:List ByteArray→Int→Int
 |[],out=>out
 |e::r,out=>commonGo r (if decide ((leadM e:Int)<e.size)&&(decide (out<0)||decide ((leadM e:Int)<out)) then(leadM e:Int) else out)
def commonM (l:List ByteArray):Int:=if 0>commonGo l.tail (-1) then 0 else commonGo l.tail (-1)
theorem common_ok (b o n c:Nat) (ss:List ByteArray) (H:Heap) (h:StrsAt H (some ⟨b,o,none⟩) n ss) (hs: ∀s∈ss,s.size<4294967296) (hn:n<4294967296) (h0:ss≠ []):
 Fn PP fq134 #[.slice (some ⟨b,o,none⟩) n c] H fun v H'=>v= .int .i64 (commonM ss)∧H=H':=by
 refine common.enter b o n c H _ ?_
 unfold common.W
 have hlen:=h.1
 refine⟨fun z H'=>H=H'∧ ∃k:Nat,z.2.1=k∧1≤k∧k≤n∧commonGo ss.tail (-1)=commonGo (ss.drop k) z.1,fun z _=>n -z.2.1.toNat,
  ⟨rfl,1,rfl,Nat.le_refl _,?_,by rw[List.drop_one]⟩,?_⟩
 ·cases ss with
  |nil=>exact absurd rfl h0
  |cons _ _=>simp at hlen;omega
 rintro⟨out,_,_⟩ _ ⟨rfl,k,hk,hk1,hkn,hgo⟩
 dsimp only at hk hgo⊢
 subst hk
 refine fkI (fun hlt=>?_) (fun hge=>?_)
 ·have hlt':k<ss.length:=by simp at hlt;omega
  have hi:ss[k]?=some ss[k]:=List.getElem?_eq_getElem hlt'
  have hd:ss.drop k=ss[k]::ss.drop (k+1):=List.drop_eq_getElem_cons hlt'
  rw[hd] at hgo
  simp only[commonGo] at hgo
  have hz:=hs _ (List.getElem_mem hlt')
  generalize ss[k]=s at hi hgo hz
  refine⟨(h.load hi).1,_,(h.load hi).2,(leading_ok s H hz).mono ?_⟩
  rintro _ _ ⟨rfl,rfl⟩
  refine⟨_,rfl,?_⟩
  refine⟨(decide ((leadM s:Int)<s.size)&&(decide (out<0)||decide ((leadM s:Int)<out)),()),?_,?_⟩
  ·refine⟨(h.load hi).1,_,(h.load hi).2,fkI (fun h1=>fkI (fun h2=>⟨?_,rfl⟩) (fun h2=>⟨?_,rfl⟩)) (fun h1=>⟨?_,rfl⟩)⟩
   ·rw[h1,h2];rfl
   ·rw[h1,h2];rfl
   ·rw[h1];rfl
  ·rw[wrap1 (by omega)]
   dsimp only
   refine⟨fun y H'=>H=H'∧commonGo ss.tail (-1)=commonGo (ss.drop (k+1)) y.1,?_,?_⟩
   ·refine fkI (fun h1=>⟨rfl,?_⟩) (fun h1=>⟨rfl,?_⟩)
    ·rw[hgo,h1];rfl
    ·rw[hgo,h1];rfl
   ·rintro⟨y,_⟩ _ ⟨rfl,hy⟩
    exact⟨⟨rfl,k+1,rfl,by omega,by omega,hy⟩,by omega⟩
 ·have hge':k=ss.length:=by simp at hge;omega
  rw[hge',List.drop_length] at hgo
  simp only[commonGo] at hgo
  refine rkI ⟨?_,rfl⟩
  simp only[retV,commonM,hgo]
def linesGo (s:ByteArray) (fr i:Nat):List ByteArray:=
 if i<s.size then
  if(bt s i !=10&&bt s i !=13)=true then linesGo s fr (i+1)
  else if(bt s i==13&&(decide (i+1<s.size)&&bt s (i+1:Nat)==10))=true then s.extract fr i::linesGo s (i+2) (i+2)
  else s.extract fr i::linesGo s (i+1) (i+1)
 else[s.extract fr s.size]
 termination_by s.size -i
 decreasing_by all_goals omega
def linesM (s:ByteArray):List ByteArray:=linesGo s 0 0
theorem linesGo_ne (s:ByteArray): ∀(n fr i:Nat),s.size -i≤n→linesGo s fr i≠ []∧(linesGo s fr i).length≤n+1∧ ∀e∈linesGo s fr i,e.size≤s.size:=by
 intro n
 induction n with
 |zero=>
  intro fr i h
  unfold linesGo
  rw[if_neg (by omega)]
  refine⟨by simp,by simp,fun e he=>?_⟩
  simp at he;subst he;rw[ByteArray.size_extract];omega
 |succ n ih=>
  intro fr i h
  unfold linesGo
  split
  ·split
   ·have:=ih fr (i+1) (by omega);exact⟨this.1,by omega,this.2.2⟩
   ·split
    ·have:=ih (i+2) (i+2) (by omega)
     refine⟨by simp,by simp;omega,fun e he=>?_⟩
     rcases List.mem_cons.1 he with rfl|he
     ·rw[ByteArray.size_extract];omega
     ·exact this.2.2 e he
    ·have:=ih (i+1) (i+1) (by omega)
     refine⟨by simp,by simp;omega,fun e he=>?_⟩
     rcases List.mem_cons.1 he with rfl|he
     ·rw[ByteArray.size_extract];omega
     ·exact this.2.2 e he
  ·refine⟨by simp,by simp,fun e he=>?_⟩
   simp at he;subst he;rw[ByteArray.size_extract];omega
theorem linesM_ne (s:ByteArray):linesM s≠ []∧(linesM s).length≤s.size+1∧ ∀e∈linesM s,e.size≤s.size:=linesGo_ne s s.size 0 0 (by omega)
structure Fresh (H0 H:Heap) (e:TypeId) (size:Nat) (a:Option Addr) (n c:Nat) (xs:List Value):Prop where
 ext:Ext [] H0 H
 own:OwnS H e size a n c xs
 row: ∀r,rowOf a=some r→H0.size≤r
theorem Fresh.grow {H0 H H':Heap} {e:TypeId} {size:Nat} {a:Option Addr} {n c:Nat} {xs:List Value} (h:Fresh H0 H e size a n c xs) (he:Ext [] H H'):Fresh H0 H' e size a n c xs:=
 ⟨h.ext.trans he,h.own.ext he (by simp),h.row⟩
theorem Fresh.nil (H:Heap) (e:TypeId) (size:Nat):Fresh H H e size none 0 0 []:=⟨Ext.refl _ _,OwnS.nil _ _ _,fun _ h=>by cases h⟩
theorem Fresh.append {H0 H:Heap} {e:TypeId} {size bytes:Nat} {a:Option Addr} {n c:Nat} {xs:List Value} (h:Fresh H0 H e size a n c xs) {b m:Nat} {cs:Array Value} {f:TypeId} {fr:Nat×Nat}
 (hb:H[b]?=some (.cells cs f fr)) (hcs:cs.size=m*size) (h1: ∀u∈cs.toList,u.oneCell'=true) (hn:n+m<4294967296) (hby:bytes<1000) {K:Option Addr→Nat→Heap→Prop}
 (hk: ∀a' c' H',Fresh H0 H' e size a' (n+m) c' (xs++cs.toList)→Grow H H' (rowOf a)→(rowOf a'=rowOf a∨rowOf a'=some H.size)→K a' c' H'):
 appK H e size bytes a n c (some ⟨b,0,none⟩) m K:=by
 refine .inr ⟨xs,_,h.own,NewsS.of_block hb hcs,h1,by simp only[maxLen];omega,?_,?_⟩
 ·have:(n+m)*bytes≤4294967296*1000:=Nat.mul_le_mul (by omega) (by omega)
  omega
 ·intro a' c' H' own' grow hnil hrow
  refine hk a' c' H' ⟨?_,own',?_⟩ grow hrow
  ·refine⟨Nat.le_trans h.ext.size grow.size,fun k o hk hn=>?_⟩
   refine grow.ext.get _ _ (h.ext.get _ _ hk hn) ?_
   intro hm
   rw[Option.mem_toList] at hm
   have:=h.row _ hm
   have:=lt_of_get hk
   omega
  ·intro r hr
   rcases hrow with h1|h1
   ·exact h.row r (by rw[←h1];exact hr)
   ·have:r=H.size:=by
     have:=hr.symm.trans h1;simpa using this
    have:=h.ext.size
    omega
theorem Lines_ok (s:ByteArray) (H:Heap) (hs:s.size<4294967200):
 Fn PP fq133 #[.string s] H fun v H'=> ∃g n c,v= .slice (some ⟨g,0,none⟩) n c∧Fresh H H' tq9 1 (some ⟨g,0,none⟩) n c ((linesM s).map .string):=by
 refine Lines.enter s H _ ?_
 unfold Lines.W
 refine⟨fun z H'=> ∃(fr i:Nat) (ss:List ByteArray),z.2.1=fr∧z.2.2.1=i∧fr≤i∧i≤s.size∧z.1.2.1≤i∧Fresh H H' tq9 1 z.1.1 z.1.2.1 z.1.2.2 (ss.map .string)∧linesM s=ss++linesGo s fr i,
  fun z _=>s.size -z.2.2.1.toNat,⟨0,0,[],rfl,rfl,Nat.le_refl _,Nat.zero_le _,Nat.le_refl _,Fresh.nil H tq9 1,rfl⟩,?_⟩
 rintro⟨⟨a,n,c⟩,_,_,_⟩ H2 ⟨fr,i,ss,hfr,hi,hfi,his,hni,hf,hss⟩
 dsimp only at hfr hi hf hni⊢
 subst hfr hi
 refine fkI (fun hlt=>?_) (fun hge=>?_)
 ·have hlt':i<s.size:=by simp at hlt;exact hlt
  unfold linesGo at hss
  rw[if_pos hlt'] at hss
  refine⟨((bt s i !=10&&bt s i !=13),()),⟨by omega,fkI (fun h1=>⟨by omega,?_,rfl⟩) (fun h1=>⟨?_,rfl⟩)⟩,?_⟩
  ·rw[h1];rfl
  ·rw[h1];rfl
  refine fkI (fun h1=>?_) (fun h1=>?_)
  ·dsimp only at h1
   rw[if_pos h1] at hss
   rw[wrap1 (by omega)]
   exact⟨⟨fr,i+1,ss,rfl,rfl,by omega,by omega,by omega,hf,hss⟩,by omega⟩
  ·dsimp only at h1
   rw[if_neg (by rw[h1];simp)] at hss
   refine⟨by omega,nbI fun H4 e4 hb4 ext4 hs4=>?_⟩
   refine(hf.grow ext4).append hb4 rfl (by simp[Value.oneCell']) (by omega) (by omega) ?_
   intro a' c' H7 hf7 _ _
   rw[wrap1 (k:=i) (by omega)]
   refine⟨((bt s i==13&&(decide (i+1<s.size)&&bt s (i+1:Nat)==10)),()),⟨by omega,?_⟩,?_⟩
   ·refine fkI (fun h2=>fkI (fun h3=>?_) (fun h3=>?_)) (fun h2=>?_)
    ·have h3':i+1<s.size:=by simp at h3;omega
     refine⟨by omega,?_,rfl⟩
     simp only[h2,h3',decide_true,Bool.true_and]
    ·have h3': ¬i+1<s.size:=by simp at h3;omega
     refine⟨?_,rfl⟩
     simp only[h2,h3',decide_false,Bool.true_and,Bool.false_and]
    ·refine⟨?_,rfl⟩
     simp only[h2,Bool.false_and]
   ·have hcell:ss.map Value.string++ #[Value.string (s.extract (fr:Int).toNat (i:Int).toNat)].toList=(ss++[s.extract fr i]).map .string:=by simp
    rw[hcell] at hf7
    refine⟨fun y H'=>H7=H'∧y.1=(if(bt s i==13&&(decide (i+1<s.size)&&bt s (i+1:Nat)==10))=true then((i+1:Nat):Int) else(i:Int)),?_,?_⟩
    ·refine fkI (fun h2=>⟨rfl,?_⟩) (fun h2=>⟨rfl,?_⟩)
     ·dsimp only at h2;rw[if_pos h2]
     ·dsimp only at h2;rw[if_neg (by rw[h2];simp)]
    ·rintro⟨y,_⟩ _ ⟨rfl,hy⟩
     dsimp only at hy⊢
     by_cases h2:(bt s i==13&&(decide (i+1<s.size)&&bt s (i+1:Nat)==10))=true
     ·rw[if_pos h2] at hy hss
      subst hy
      have hl:i+1<s.size:=by simp at h2;omega
      rw[wrap1 (by omega)]
      exact⟨⟨i+2,i+2,ss++[s.extract fr i],rfl,rfl,by omega,by omega,by omega,hf7,by rw[hss];simp⟩,by omega⟩
     ·rw[if_neg h2] at hy hss
      subst hy
      rw[wrap1 (by omega)]
      exact⟨⟨i+1,i+1,ss++[s.extract fr i],rfl,rfl,by omega,by omega,by omega,hf7,by rw[hss];simp⟩,by omega⟩
 ·have hge': ¬i<s.size:=by simp at hge;omega
  unfold linesGo at hss
  rw[if_neg hge'] at hss
  refine⟨by omega,nbI fun H4 e4 hb4 ext4 hs4=>?_⟩
  refine(hf.grow ext4).append hb4 rfl (by simp[Value.oneCell']) (by omega) (by omega) ?_
  intro a' c' H7 hf7 _ _
  have hcell:ss.map Value.string++ #[Value.string (s.extract (fr:Int).toNat s.size)].toList=(linesM s).map .string:=by rw[hss];simp
  rw[hcell] at hf7
  cases a' with
  |none=>
   have:=hf7.own.2
   rcases this with⟨_,h,_⟩|⟨g,cur,h,_⟩
   ·omega
   ·cases h
  |some ad=>
   have:=hf7.own.2
   rcases this with⟨h,_⟩|⟨g,cur,h,_⟩
   ·cases h
   ·cases h
    exact rkI ⟨g,n+1,c',rfl,hf7⟩
def blankM (e:ByteArray):Bool:=decide ((leadM e:Int)=e.size)
def shortM (n:Int) (e:ByteArray):Bool:=blankM e&&(decide (0<e.size)&&decide ((e.size:Int)<n))
def plainM (raw:ByteArray):Bool:=
 !(decide (0<commonM (linesM raw))&&decide ((leadM ((linesM raw).headD (bs [])):Int)<((linesM raw).headD (bs [])).size))&&(linesM raw).tail.all fun e=>!shortM (commonM (linesM raw)) e
theorem commonM_nonneg (l:List ByteArray):0≤commonM l:=by unfold commonM;split<;>omega
theorem plainBlock_ok (raw:ByteArray) (H:Heap) (hs:raw.size<268435456):Fn PP fq82 #[.string raw] H fun v H'=>v= .bool (plainM raw)∧Ext [] H H':=by
 refine plainBlock.enter raw H _ ?_
 unfold plainBlock.W
 refine(Lines_ok raw H (by omega)).mono ?_
 rintro _ H2 ⟨g,n,c,rfl,hf⟩
 refine⟨(some ⟨g,0,none⟩,n,c),rfl,?_⟩
 have hA:=StrsAt.of_own hf.own
 obtain⟨h0,hlen,hsz⟩:=linesM_ne raw
 have hn:=hA.1
 dsimp only
 refine(common_ok g 0 n c _ H2 hA (fun s hs'=>by have:=hsz s hs';omega) (by omega) h0).mono ?_
 rintro _ _ ⟨rfl,rfl⟩
 refine⟨_,rfl,?_⟩
 obtain⟨e0,r0,he0⟩: ∃e0 r0,linesM raw=e0::r0:=by
  cases h:linesM raw with
  |nil=>exact absurd h h0
  |cons a b=>exact⟨a,b,rfl⟩
 have hp:plainM raw=(!(decide (0<commonM (linesM raw))&&decide ((leadM e0:Int)<e0.size))&&r0.all fun e=>!shortM (commonM (linesM raw)) e):=by
  unfold plainM;rw[he0];rfl
 have ht:(linesM raw).tail=r0:=by rw[he0];rfl
 generalize hcm:commonM (linesM raw)=m at hp⊢
 have loop:(decide (0<m)&&decide ((leadM e0:Int)<e0.size))=false→loopK (Int×Unit) (1,()) H2 fun z18 H19 next20=>
  forkB (decide (z18.1<((n:Nat):Int)))
  ((IxOk (some ⟨g,0,none⟩) z18.1 n)∧
    loadW H19 false 1 ⟨(blkOf (some ⟨g,0,none⟩)),(offOf (some ⟨g,0,none⟩)+z18.1.toNat*1),none⟩ pStr fun(x21:ByteArray)=>
    (IxOk (some ⟨g,0,none⟩) z18.1 n)∧
    loadW H19 false 1 ⟨(blkOf (some ⟨g,0,none⟩)),(offOf (some ⟨g,0,none⟩)+z18.1.toNat*1),none⟩ pStr fun(x22:ByteArray)=>
    callW PP fq135 #[(.string x21)] H19 (pInt .i64) fun(x23:Int) H24=>
    loadC H24 false 1 ⟨(blkOf (some ⟨g,0,none⟩)),(offOf (some ⟨g,0,none⟩)+z18.1.toNat*1),none⟩=some (.string x22)∧
    forkB (x23==((x22.size:Nat):Int))
    ((IxOk (some ⟨g,0,none⟩) z18.1 n)∧
      loadW H24 false 1 ⟨(blkOf (some ⟨g,0,none⟩)),(offOf (some ⟨g,0,none⟩)+z18.1.toNat*1),none⟩ pStr fun(x25:ByteArray)=>
      forkB (decide (((x25.size:Nat):Int)>0))
      ((IxOk (some ⟨g,0,none⟩) z18.1 n)∧
        loadW H24 false 1 ⟨(blkOf (some ⟨g,0,none⟩)),(offOf (some ⟨g,0,none⟩)+z18.1.toNat*1),none⟩ pStr fun(x26:ByteArray)=>
        forkB (decide (((x26.size:Nat):Int)<m))
        (retK (some [(.bool false)]) H24 fun v H'=>v= .bool (plainM raw)∧Ext [] H H')
        (next20 ((IntKind.i64.wrap (z18.1+1)),()) H24))
      (next20 ((IntKind.i64.wrap (z18.1+1)),()) H24))
    (next20 ((IntKind.i64.wrap (z18.1+1)),()) H24))
  (retK (some [(.bool true)]) H19 fun v H'=>v= .bool (plainM raw)∧Ext [] H H'):=by
  intro hd
  rw[hd] at hp
  simp only[Bool.not_false,Bool.true_and] at hp
  refine⟨fun z H'=>H2=H'∧ ∃k:Nat,z.1=k∧1≤k∧k≤n∧plainM raw=((linesM raw).drop k).all fun e=>!shortM m e,fun z _=>n -z.1.toNat,
   ⟨rfl,1,rfl,Nat.le_refl _,by rw[hn,he0];simp,by rw[hp,←ht,List.drop_one]⟩,?_⟩
  rintro⟨_,_⟩ _ ⟨rfl,k,hk,hk1,hkn,hgo⟩
  dsimp only at hk⊢
  subst hk
  refine fkI (fun hlt=>?_) (fun hge=>?_)
  ·have hlt':k<(linesM raw).length:=by simp at hlt;omega
   have hi:(linesM raw)[k]?=some (linesM raw)[k]:=List.getElem?_eq_getElem hlt'
   rw[List.drop_eq_getElem_cons hlt'] at hgo
   simp only[List.all_cons] at hgo
   have hz:=hsz _ (List.getElem_mem hlt')
   generalize (linesM raw)[k]=s at hi hgo hz
   have hL:=hA.load hi
   refine⟨hL.1,_,hL.2,hL.1,_,hL.2,(leading_ok s H2 (by omega)).mono ?_⟩
   rintro _ _ ⟨rfl,rfl⟩
   refine⟨_,rfl,hL.2,?_⟩
   rw[wrap1 (by omega)]
   have next:shortM m s=false→(H2=H2∧ ∃k_1:Nat,((k+1:Nat):Int)=k_1∧1≤k_1∧k_1≤n∧plainM raw=((linesM raw).drop k_1).all fun e=>!shortM m e)∧n -((k+1:Nat):Int).toNat<n -(k:Int).toNat:=by
    intro h
    rw[h] at hgo
    exact⟨⟨rfl,k+1,rfl,by omega,by omega,by simpa using hgo⟩,by omega⟩
   refine fkI (fun h1=>?_) (fun h1=>next ?_)
   ·have h1':(leadM s:Int)=s.size:=by simpa using h1
    refine⟨hL.1,_,hL.2,fkI (fun h2=>?_) (fun h2=>next ?_)⟩
    ·have h2':0<s.size:=by have:=of_decide_eq_true h2;omega
     refine⟨hL.1,_,hL.2,fkI (fun h3=>?_) (fun h3=>next ?_)⟩
     ·have:shortM m s=true:=by simp only[shortM,blankM,h1',h2',decide_true,Bool.true_and];exact h3
      rw[this] at hgo
      refine rkI ⟨?_,hf.ext⟩
      rw[hgo];rfl
     ·simp only[shortM,blankM,h1',h2',decide_true,Bool.true_and];exact h3
    ·have h2': ¬0<s.size:=by have:=of_decide_eq_false h2;omega
     simp only[shortM,h2',decide_false,Bool.false_and,Bool.and_false]
   ·have h1': ¬(leadM s:Int)=s.size:=by simpa using h1
    simp only[shortM,blankM,h1',decide_false,Bool.false_and]
  ·have hge':k=(linesM raw).length:=by simp at hge;omega
   rw[hge',List.drop_length] at hgo
   exact rkI ⟨by rw[hgo];rfl,hf.ext⟩
 have hi0:(linesM raw)[0]?=some e0:=by rw[he0];rfl
 have hL:=hA.load hi0
 refine fkI (fun h1=>?_) (fun h1=>loop ?_)
 ·have h1':0<m:=by simpa using h1
  refine⟨hL.1,_,hL.2,hL.1,_,hL.2,(leading_ok e0 H2 (by have:=hsz e0 (by rw[he0];simp);omega)).mono ?_⟩
  rintro _ _ ⟨rfl,rfl⟩
  refine⟨_,rfl,hL.2,fkI (fun h2=>?_) (fun h2=>loop ?_)⟩
  ·refine rkI ⟨?_,hf.ext⟩
   rw[hp,h2];simp[h1',retV]
  ·rw[h2];simp
 ·have h1': ¬0<m:=by simpa using h1
  simp[h1']
def cutM (m:Int) (e:ByteArray):ByteArray:=e.extract (if(e.size:Int)<m then(e.size:Int) else m).toNat e.size
def cutsM (m:Int):List ByteArray→List ByteArray
 |[]=> []
 |e::r=>e::r.map (cutM m)
def joinGoM (out:ByteArray) (k:Nat):List ByteArray→ByteArray
 |[]=>out
 |e::r=>joinGoM ((if 0<k then out++bs [10] else out)++e) (k+1) r
def trimM (l:List ByteArray):List ByteArray:=(l.reverse.dropWhile blankM).reverse
def blockM (raw:ByteArray):ByteArray:=joinGoM (bs []) 0 (trimM ((cutsM (commonM (linesM raw)) (linesM raw)).dropWhile blankM))
theorem OwnS.store {H:Heap} {e:TypeId} {g n c:Nat} {xs:List Value} (h:OwnS H e 1 (some ⟨g,0,none⟩) n c xs) {k o:Nat} (hk:k<n) (ho:o=k) {v:Value} (hv:one v=true) {K:Heap→Prop}
 (hK: ∀H',OwnS H' e 1 (some ⟨g,0,none⟩) n c (xs.set k v)→Ext [g] H H'→H'.size=H.size→K H'):storeW H ⟨g,o,none⟩ [v] K:=by
 subst ho
 obtain⟨cur,_,hg,hnc,hcm,hs,ht⟩:=h.row rfl
 refine swI hg (by simp;omega) rfl (by simp[oneL,hv]) fun H' e1 hg' ext hs'=>hK H' ?_ ext hs'
 refine⟨by rw[List.length_set];exact h.1,.inr ⟨g,_,rfl,hg',hnc,hcm,by simp[writeAt,hs],?_⟩⟩
 simp only[writeAt,Array.toList_setIfInBounds]
 rw[List.take_set,ht]
theorem cutM_size (m:Int) (e:ByteArray):(cutM m e).size≤e.size:=by unfold cutM;rw[ByteArray.size_extract];omega
theorem StrsAt.slice_lo {H:Heap} {a:Option Addr} {n c:Nat} {e:ByteArray} {ss:List ByteArray} (h:StrsAt H a n (e::ss)) (hc:n≤c):StrsAt H (slcA a c 1 1) (n -1) ss:=by
 have hl:=h.1
 refine⟨by simp at hl;omega,?_⟩
 rcases h.2 with h0|⟨g,o,cs,e',fr,rfl,hg,hr⟩
 ·simp at hl;omega
 ·by_cases hc1:c=1
  ·left;omega
  ·right
   refine⟨g,o+1,cs,e',fr,by simp[slcA,slcO,hc1],hg,fun i s hi=>?_⟩
   have:=hr (i+1) s (by simpa using hi)
   rw[show o+1+i=o+(i+1) by omega];exact this
theorem StrsAt.slice_hi {H:Heap} {a:Option Addr} {n c:Nat} {ss:List ByteArray} (h:StrsAt H a n ss) {m:Nat} (hm:m≤n):StrsAt H (slcA a c 0 1) m (ss.take m):=by
 have hl:=h.1
 refine⟨by rw[List.length_take];omega,?_⟩
 rcases h.2 with h0|⟨g,o,cs,e',fr,rfl,hg,hr⟩
 ·left;omega
 ·right
  refine⟨g,o,cs,e',fr,by simp[slcA,slcO],hg,fun i s hi=>?_⟩
  rw[List.getElem?_take] at hi
  split at hi
  ·exact hr i s hi
  ·cases hi
theorem trimM_last {l:List ByteArray} {e:ByteArray} (h:blankM e=true):trimM (l++[e])=trimM l:=by
 unfold trimM;rw[List.reverse_append];simp[h]
theorem trimM_stop {l:List ByteArray} {e:ByteArray} (h:blankM e=false):trimM (l++[e])=l++[e]:=by
 unfold trimM;rw[List.reverse_append];simp[h]
theorem BlockValue_ok (raw:ByteArray) (H:Heap) (hs:raw.size<268435456):Fn PP fq81 #[.string raw] H fun v H'=>v= .string (blockM raw)∧Ext [] H H':=by
 refine BlockValue.enter raw H _ ?_
 unfold BlockValue.W
 refine(Lines_ok raw H (by omega)).mono ?_
 rintro _ H2 ⟨g,n,c,rfl,hf⟩
 refine⟨(some ⟨g,0,none⟩,n,c),rfl,?_⟩
 have hA:=StrsAt.of_own hf.own
 obtain⟨h0,hlen,hsz⟩:=linesM_ne raw
 have hn:=hA.1
 have hgH:H.size≤g:=hf.row g rfl
 dsimp only
 refine(common_ok g 0 n c _ H2 hA (fun s hs'=>by have:=hsz s hs';omega) (by omega) h0).mono ?_
 rintro _ _ ⟨rfl,rfl⟩
 refine⟨_,rfl,?_⟩
 have hm0:=commonM_nonneg (linesM raw)
 have hb:blockM raw=joinGoM (bs []) 0 (trimM ((cutsM (commonM (linesM raw)) (linesM raw)).dropWhile blankM)):=rfl
 generalize commonM (linesM raw)=m at hm0 hb⊢
 generalize linesM raw=L at*
 have hC:(cutsM m L).length=L.length:=by cases L<;>simp[cutsM]
 have hC1:(cutsM m L).take 1=L.take 1:=by cases L<;>simp[cutsM]
 have hCk: ∀k,1≤k→ ∀e,L[k]?=some e→(cutsM m L)[k]?=some (cutM m e):=by
  intro k hk e he
  cases L with
  |nil=>simp at he
  |cons a r=>
   obtain⟨k,rfl⟩: ∃k',k=k'+1:=⟨k -1,by omega⟩
   simp at he
   simp[cutsM,he]
 have hCs: ∀e∈cutsM m L,e.size≤raw.size:=by
  intro e he
  cases L with
  |nil=>simp[cutsM] at he
  |cons a r=>
   simp only[cutsM,List.mem_cons,List.mem_map] at he
   rcases he with rfl|⟨e',he',rfl⟩
   ·exact hsz _ (by simp)
   ·exact Nat.le_trans (cutM_size _ _) (hsz e' (by simp[he']))
 refine⟨fun z H'=> ∃k:Nat,z.1=k∧1≤k∧k≤n∧Fresh H H' tq9 1 (some ⟨g,0,none⟩) n c (((cutsM m L).take k++L.drop k).map .string),fun z _=>n -z.1.toNat,
  ⟨1,rfl,Nat.le_refl _,?_,by rw[hC1,List.take_append_drop];exact hf⟩,?_⟩
 ·cases L with
  |nil=>exact absurd rfl h0
  |cons _ _=>simp at hn;omega
 rintro⟨_,_⟩ H3 ⟨k,hk,hk1,hkn,hf3⟩
 dsimp only at hk⊢
 subst hk
 refine fkI (fun hlt=>?_) (fun hge=>?_)
 ·have hlt':k<L.length:=by simp at hlt;omega
  have hi:L[k]?=some L[k]:=List.getElem?_eq_getElem hlt'
  have hz:=hsz _ (List.getElem_mem hlt')
  generalize L[k]=e at hi hz
  have hck:=hCk k hk1 e hi
  have hcur:((cutsM m L).take k++L.drop k)[k]?=some e:=by
   rw[List.getElem?_append_right (by rw[List.length_take];omega),List.length_take,List.getElem?_drop]
   rw[show k+(k -min k (cutsM m L).length)=k by omega];exact hi
  have hL:=(StrsAt.of_own hf3.own).load hcur
  refine⟨hL.1,_,hL.2,hL.1,_,hL.2,?_⟩
  refine⟨by split<;>omega,hL.1,?_⟩
  refine OwnS.store (k:=k) hf3.own (by omega) (by simp[offOf]) rfl ?_
  intro H4 own4 ext4 hs4
  rw[wrap1 (by omega)]
  refine⟨⟨k+1,rfl,by omega,by omega,⟨?_,?_,hf3.row⟩⟩,by omega⟩
  ·refine⟨Nat.le_trans hf3.ext.size ext4.size,fun j o hj hn=>ext4.get _ _ (hf3.ext.get _ _ hj hn) ?_⟩
   have:=lt_of_get hj
   simp;omega
  ·have:(((cutsM m L).take k++L.drop k).map Value.string).set k (.string (e.extract (if(e.size:Int)<m then(e.size:Int) else m).toNat e.size))=((cutsM m L).take (k+1)++L.drop (k+1)).map .string:=by
    rw[←List.map_set]
    congr 1
    apply List.ext_getElem?
    intro j
    rw[List.getElem?_set]
    by_cases hjk:k=j
    ·subst hjk
     rw[if_pos rfl,if_pos (by rw[List.length_append,List.length_take,List.length_drop];omega)]
     rw[List.getElem?_append_left (by rw[List.length_take];omega),List.getElem?_take,if_pos (Nat.lt_succ_self k),hck]
     rfl
    ·rw[if_neg hjk]
     rcases Nat.lt_or_ge j k with hj|hj
     ·rw[List.getElem?_append_left (by rw[List.length_take];omega),List.getElem?_append_left (by rw[List.length_take];omega),List.getElem?_take,List.getElem?_take,if_pos hj,if_pos (by omega)]
     ·rw[List.getElem?_append_right (by rw[List.length_take];omega),List.getElem?_append_right (by rw[List.length_take];omega),List.length_take,List.length_take,List.getElem?_drop,List.getElem?_drop]
      rw[show k+(j -min k (cutsM m L).length)=j by omega,show k+1+(j -min (k+1) (cutsM m L).length)=j by omega]
   rw[←this];exact own4
 ·have hge':k=L.length:=by simp at hge;omega
  have hcur:(cutsM m L).take k++L.drop k=cutsM m L:=by
   rw[hge',List.drop_length,List.append_nil,←hC,List.take_length]
  rw[hcur] at hf3
  have hS:=StrsAt.of_own hf3.own
  have hnc:n≤c:=(hf3.own.row rfl).choose_spec.2.2.1
  have hcM:c≤maxLen:=(hf3.own.row rfl).choose_spec.2.2.2.1
  simp only[maxLen] at hcM
  clear hcur hC hC1 hCk hsz hf
  generalize cutsM m L=L1 at*
  refine⟨fun y H'=>H3=H'∧ ∃ss,StrsAt H3 y.1.1 y.1.2.1 ss∧y.1.2.1≤n∧y.1.2.1≤y.1.2.2∧y.1.2.2≤c∧ss=L1.dropWhile blankM∧ ∀e∈ss,e.size≤raw.size,?_,?_⟩
  ·refine⟨fun z H'=>H3=H'∧ ∃ss,StrsAt H3 z.1.1 z.1.2.1 ss∧z.1.2.1≤n∧z.1.2.1≤z.1.2.2∧z.1.2.2≤c∧ss.dropWhile blankM=L1.dropWhile blankM∧ ∀e∈ss,e.size≤raw.size,fun z _=>z.1.2.1,
    ⟨rfl,L1,hS,Nat.le_refl _,hnc,Nat.le_refl _,rfl,hCs⟩,?_⟩
   rintro⟨⟨a,n',c'⟩,_⟩ _ ⟨rfl,ss,hss,hn',hc',hcc,hd,hsz⟩
   dsimp only at hss hn' hc' hcc⊢
   cases ss with
   |nil=>
    have hl:=hss.1
    refine fkI (fun hlt=>?_) (fun _=>⟨rfl,[],hss,hn',hc',hcc,by rw[←hd];rfl,hsz⟩)
    simp at hl hlt;omega
   |cons e ss=>
    have hl:=hss.1
    refine fkI (fun _=>?_) (fun hge=>?_)
    ·have hL:=hss.load (i:=0) (s:=e) rfl
     refine⟨hL.1,_,hL.2,hL.1,_,hL.2,(leading_ok e H3 (by have:=hsz e (by simp);omega)).mono ?_⟩
     rintro _ _ ⟨rfl,rfl⟩
     refine⟨_,rfl,hL.2,fkI (fun hb=>?_) (fun hb=>⟨rfl,e::ss,hss,hn',hc',hcc,?_,hsz⟩)⟩
     ·have hb':blankM e=true:=by simpa [blankM] using hb
      simp at hl
      refine⟨by omega,⟨rfl,ss,hss.slice_lo hc',?_,?_,?_,?_,fun e' he'=>hsz e' (by simp[he'])⟩,?_⟩
      ·show n' -1≤n;omega
      ·show n' -1≤c' -1;omega
      ·show c' -1≤c;omega
      ·rw[←hd];simp[hb']
      ·show n' -1<n';omega
     ·have hb':blankM e=false:=by simpa [blankM] using hb
      rw[←hd];simp[hb']
    ·simp at hl hge;omega
  rintro⟨⟨a,n',c'⟩,_⟩ _ ⟨rfl,ss,hss,hn',hc',hcc,hd,hsz⟩
  dsimp only at hss hn' hc' hcc⊢
  rw[←hd] at hb
  clear hd hS hCs
  refine⟨fun y H'=>H3=H'∧ ∃ss',StrsAt H3 y.1.1 y.1.2.1 ss'∧y.1.2.1≤n∧ss'=trimM ss∧ ∀e∈ss',e.size≤raw.size,?_,?_⟩
  ·refine⟨fun z H'=>H3=H'∧ ∃ss',StrsAt H3 z.1.1 z.1.2.1 ss'∧z.1.2.1≤n∧z.1.2.1≤z.1.2.2∧z.1.2.2≤c∧trimM ss'=trimM ss∧ ∀e∈ss',e.size≤raw.size,fun z _=>z.1.2.1,
    ⟨rfl,ss,hss,hn',hc',hcc,rfl,hsz⟩,?_⟩
   rintro⟨⟨a2,n2,c2⟩,_⟩ _ ⟨rfl,s2,hs2,hn2,hc2,hcc2,ht,hsz2⟩
   dsimp only at hs2 hn2 hc2 hcc2⊢
   have hl:=hs2.1
   rcases List.eq_nil_or_concat s2 with rfl|⟨r,e,rfl⟩
   ·refine fkI (fun hlt=>?_) (fun _=>⟨rfl,[],hs2,hn2,ht,hsz2⟩)
    simp at hl hlt;omega
   ·refine fkI (fun _=>?_) (fun hge=>?_)
    ·have hl':n2=r.length+1:=by simpa using hl
     have hw:IntKind.i64.wrap ((n2:Int) -1)=(r.length:Int):=by rw[i64w (by omega)];omega
     rw[hw]
     have hL:=hs2.load (i:=r.length) (s:=e) (by simp)
     refine⟨hL.1,_,hL.2,hL.1,_,hL.2,(leading_ok e H3 (by have:=hsz2 e (by simp);omega)).mono ?_⟩
     rintro _ _ ⟨rfl,rfl⟩
     refine⟨_,rfl,hL.2,fkI (fun hb=>?_) (fun hb=>⟨rfl,_,hs2,hn2,?_,hsz2⟩)⟩
     ·have hb':blankM e=true:=by simpa [blankM] using hb
      have h3:=hs2.slice_hi (c:=c2) (m:=r.length) (by omega)
      simp only[List.concat_eq_append,List.take_left'] at h3
      refine⟨by omega,⟨rfl,r,h3,?_,?_,hcc2,?_,fun e' he'=>hsz2 e' (by simp[he'])⟩,?_⟩
      ·show(r.length:Int).toNat≤n;omega
      ·show(r.length:Int).toNat≤c2;omega
      ·rw[←ht,List.concat_eq_append,trimM_last hb']
      ·show(r.length:Int).toNat<n2;omega
     ·have hb':blankM e=false:=by simpa [blankM] using hb
      rw[←ht,List.concat_eq_append,trimM_stop hb']
    ·simp at hl hge;omega
  rintro⟨⟨a2,n2,c2⟩,_⟩ _ ⟨rfl,s2,hs2,hn2,ht,hsz2⟩
  dsimp only at hs2 hn2⊢
  rw[←ht] at hb
  have hl:=hs2.1
  refine⟨fun z H'=>H3=H'∧ ∃k:Nat,z.2.1=k∧k≤n2∧blockM raw=joinGoM z.1 k (s2.drop k)∧z.1.size≤k*(raw.size+1),fun z _=>n2 -z.2.1.toNat,
   ⟨rfl,0,rfl,Nat.zero_le _,by rw[hb];rfl,(show(0:Nat)≤_ from Nat.zero_le _)⟩,?_⟩
  rintro⟨out,_,_⟩ _ ⟨rfl,j,hj,hjn,hgo,ho⟩
  dsimp only at hj hgo ho⊢
  subst hj
  refine fkI (fun hlt=>?_) (fun hge=>?_)
  ·have hlt':j<s2.length:=by simp at hlt;omega
   have hi:s2[j]?=some s2[j]:=List.getElem?_eq_getElem hlt'
   rw[List.drop_eq_getElem_cons hlt'] at hgo
   simp only[joinGoM] at hgo
   have hz:=hsz2 _ (List.getElem_mem hlt')
   generalize s2[j]=e at hi hgo hz
   have hL:=hs2.load hi
   have hbound:(j+1)*(raw.size+1)≤268435456*268435456:=Nat.mul_le_mul (by omega) (by omega)
   have hsucc:(j+1)*(raw.size+1)=j*(raw.size+1)+raw.size+1:=by rw[Nat.succ_mul];omega
   have e1:(bs [10]).size=1:=rfl
   refine⟨fun y H'=>H3=H'∧y.1=(if 0<j then out++bs [10] else out),?_,?_⟩
   ·refine fkI (fun h1=>⟨?_,rfl,?_⟩) (fun h1=>⟨rfl,?_⟩)
    ·rw[e1];omega
    ·have:0<j:=by simp at h1;omega
     rw[if_pos this]
    ·have: ¬0<j:=by simp at h1;omega
     rw[if_neg this]
   ·rintro⟨y,_⟩ _ ⟨rfl,hy⟩
    dsimp only at hy⊢
    rw[←hy] at hgo
    have hys:y.size≤j*(raw.size+1)+1:=by
     rw[hy];split
     ·rw[ByteArray.size_append,e1];omega
     ·omega
    rw[wrap1 (by omega)]
    refine⟨hL.1,_,hL.2,by omega,⟨rfl,j+1,rfl,by omega,hgo,?_⟩,by omega⟩
    rw[ByteArray.size_append,hsucc];omega
  ·have hge':j=s2.length:=by simp at hge;omega
   rw[hge',List.drop_length] at hgo
   exact rkI ⟨by rw[hgo];rfl,hf3.ext⟩
theorem startsM_le {s t:ByteArray} {a:Nat} (h:startsM s a t=true):a+t.size≤s.size:=by
 unfold startsM at h;simp at h;exact h.1
theorem lexBlock_ok (H0 H:Heap) (x:Nat) (σ:LexSt) (ts:List Tk) (h:LexInv H0 H x σ ts) (hs:σ.s.size<268435456) (hp:σ.pos+3≤σ.s.size):
 Fn PP fq222 #[.pointer (some ⟨x,0,none⟩)] H fun v H'=>v= .tuple #[]∧Stepped H0 H' x σ:=by
 refine lexBlock.enter x H _ ?_
 unfold lexBlock.W
 refine⟨_,lcO h.at_ rfl,?_⟩
 dsimp only
 rw[wrapL (k:=σ.pos) 3]
 refine⟨fun z H'=> ∃(p:Nat) (u:Bool),z.2.1=p∧σ.pos<p∧p≤σ.s.size∧z.1.size≤p∧LexInv H0 H' x {σ with uns:=u} ts,fun z _=>σ.s.size -z.2.1.toNat,
  ⟨σ.pos+3,σ.uns,rfl,by omega,by omega,(show(0:Nat)≤_ from Nat.zero_le _),h⟩,?_⟩
 rintro⟨raw,_,_⟩ H2 ⟨p,u,hp',hp1,hp2,ho,h2⟩
 dsimp only at hp' ho⊢
 subst hp'
 have fail: ∀(H':Heap) (u:Bool),LexInv H0 H' x {σ with uns:=u} ts→callW PP fq224 #[.pointer (some ⟨x,0,none⟩)] H' ⟨Unit,fun _=> .tuple #[]⟩ fun(_:Unit) H12=>
  retK (some []) H12 fun v H'=>v= .tuple #[]∧Stepped H0 H' x σ:=by
  intro H' u hu
  refine(lexFail_ok H0 H' x _ ts hu).mono ?_
  rintro _ H' ⟨rfl,h'⟩
  exact⟨(),rfl,rkI ⟨rfl,_,_,h',rfl,.inl rfl⟩⟩
 refine⟨_,lcO h2.at_ rfl,?_⟩
 refine fkI (fun hlt=>?_) (fun _=>fail _ _ h2)
 have hlt':p<σ.s.size:=by simp at hlt;exact hlt
 refine⟨_,lcO h2.at_ rfl,?_⟩
 refine(starts_ok σ.s _ p H2 (by omega) (by omega) (by decide)).mono ?_
 rintro _ _ ⟨rfl,rfl⟩
 refine⟨_,rfl,fkI (fun hst=>?_) (fun _=>?_)⟩
 ·have hst':p+3≤σ.s.size:=startsM_le hst
  refine⟨_,lcO h2.at_ rfl,?_⟩
  have last: ∀(H':Heap) (u:Bool),LexInv H0 H' x {σ with uns:=u} ts→callW PP fq81 #[(.string raw)] H' pStr fun(x11:ByteArray) H12=>
   callW PP fq218 #[(.pointer (some ⟨x,0,none⟩)),(.int .i64 19),(.int .i64 (IntKind.i64.wrap ((p:Int)+3))),(.string x11)] H12 ⟨Unit,fun _=>(.tuple #[])⟩ fun(_:Unit) H14=>
   retK (some []) H14 fun v H'=>v= .tuple #[]∧Stepped H0 H' x σ:=by
   intro H' u hu
   refine(BlockValue_ok raw H' (by omega)).mono ?_
   rintro _ H4 ⟨rfl,he⟩
   refine⟨_,rfl,?_⟩
   rw[wrapL (k:=p) 3]
   refine(lexAdd_ok H0 H4 x _ ts (hu.grow he) 19 (p+3) _ ⟨by dsimp only;omega,by dsimp only;omega⟩ (by dsimp only;omega) (by rintro(h|h)<;>simp at h)).mono ?_
   rintro _ H5 ⟨rfl,a,c,h'⟩
   exact⟨(),rfl,rkI ⟨rfl,_,_,h',rfl,.inr (by dsimp only;omega)⟩⟩
  refine fkI (fun _=>?_) (fun _=>?_)
  ·refine lexStore h2.at_ 4 _ {σ with uns:=true} rfl (by decide) rfl ?_
   exact last _ _ (h2.uns _)
  ·refine(plainBlock_ok raw H2 (by omega)).mono ?_
   rintro _ H4 ⟨rfl,he⟩
   refine⟨_,rfl,?_⟩
   have h4:=h2.grow he
   refine lexStore h4.at_ 4 _ {σ with uns:=!plainM raw} rfl (by decide) rfl ?_
   exact last _ _ (h4.uns _)
 ·refine⟨_,lcO h2.at_ rfl,?_⟩
  refine(starts_ok σ.s _ p H2 (by omega) (by omega) (by decide)).mono ?_
  rintro _ _ ⟨rfl,rfl⟩
  refine⟨_,rfl,fkI (fun hst=>?_) (fun _=>?_)⟩
  ·have hst':p+4≤σ.s.size:=startsM_le hst
   refine lexStore h2.at_ 4 _ {σ with uns:=true} rfl (by decide) rfl ?_
   have e3:(bs [34,34,34]).size=3:=rfl
   rw[e3,wrapL (k:=p) 4]
   refine⟨by omega,⟨p+4,true,rfl,by omega,by omega,?_,h2.uns _⟩,by omega⟩
   rw[ByteArray.size_append,e3];omega
  ·refine⟨_,lcO h2.at_ rfl,?_⟩
   refine(Point_ok σ.s p H2 hlt' (by omega)).mono ?_
   rintro _ _ ⟨rfl,rfl⟩
   have hpl:=pointM_le σ.s p hlt'
   generalize pointM σ.s p=cn at hpl⊢
   obtain⟨c,n⟩:=cn
   dsimp only at hpl
   refine⟨(c,n),rfl,(source_ok c H2).mono ?_⟩
   rintro _ _ ⟨rfl,rfl⟩
   refine⟨(_,_),rfl,?_⟩
   refine joinPK_or (fkI (fun _=>?_) (fun h0=>?_))
   ·refine⟨_,lcO h2.at_ rfl,?_⟩
    refine fkI (fun _=>?_) (fun _=>?_)
    ·refine lexStore h2.at_ 4 _ {σ with uns:=true} rfl (by decide) rfl ?_
     exact fail _ _ (h2.uns _)
    ·refine lexStore h2.at_ 4 _ {σ with uns:=((n:Int)==0)} rfl (by decide) rfl ?_
     exact fail _ _ (h2.uns _)
   ·have hn0: ¬n=0:=by simp at h0;omega
    refine⟨_,lcO h2.at_ rfl,?_⟩
    dsimp only
    have step: ∀b:Bool,storeW H2 ⟨x,4,none⟩ [.bool b] fun H32=>loadW H32 false 1 ⟨x,0,none⟩ pStr fun(x33:ByteArray)=>
     (((0:Int)≤(IntKind.i64.wrap ((p:Int)+(n:Int)))∧(IntKind.i64.wrap ((p:Int)+(n:Int)))≤((x33.size:Nat):Int))∧((0:Int)≤(p:Int)∧(p:Int)≤(((IntKind.i64.wrap ((p:Int)+(n:Int))).toNat:Nat):Int)))∧
     (((raw.size+(x33.extract (p:Int).toNat (IntKind.i64.wrap ((p:Int)+(n:Int))).toNat).size:Nat):Int)≤9223372036854775807)∧
     ((∃(p':Nat) (u:Bool),(IntKind.i64.wrap ((p:Int)+(n:Int)))=p'∧σ.pos<p'∧p'≤σ.s.size∧(raw++(x33.extract (p:Int).toNat (IntKind.i64.wrap ((p:Int)+(n:Int))).toNat)).size≤p'∧LexInv H0 H32 x {σ with uns:=u} ts)∧
       σ.s.size -(IntKind.i64.wrap ((p:Int)+(n:Int))).toNat<σ.s.size -(p:Int).toNat):=by
     intro b
     refine lexStore h2.at_ 4 _ {σ with uns:=b} rfl (by decide) rfl ?_
     refine⟨_,lcO (get_setIf _ _ _ _ h2.at_) rfl,?_⟩
     dsimp only
     rw[wrapN (by omega) n (by omega)]
     have e1:((p+n:Nat):Int).toNat=p+n:=by omega
     have e2:(p:Int).toNat=p:=by omega
     rw[e1,e2,ByteArray.size_append,ByteArray.size_extract]
     exact⟨by omega,by omega,⟨p+n,b,rfl,by omega,by omega,by omega,h2.uns _⟩,by omega⟩
    exact fkI (fun _=>step _) (fun _=>step _)
theorem LexInv.done {H0 H:Heap} {x:Nat} {σ σ':LexSt} {ts:List Tk} (h:LexInv H0 H x σ' ts) (hs:σ'.s=σ.s) (hp:σ.pos<σ'.pos):Stepped H0 H x σ:=⟨σ',ts,h,hs,.inr hp⟩
theorem lexToken_ok (H0 H:Heap) (x:Nat) (σ:LexSt) (ts:List Tk) (h:LexInv H0 H x σ ts) (hs:σ.s.size<268435456) (hp:σ.pos<σ.s.size):
 Fn PP fq195 #[.pointer (some ⟨x,0,none⟩)] H fun v H'=>v= .tuple #[]∧Stepped H0 H' x σ:=by
 refine lexToken.enter x H _ ?_
 unfold lexToken.W
 refine⟨_,lcO h.at_ rfl,?_⟩
 refine⟨_,lcO h.at_ rfl,?_⟩
 refine⟨by omega,?_⟩
 have key: ∀(b:Bool) (rest:Bool×Unit→Prop),rest (b,())→b=((bt σ.s σ.pos==32)||(bt σ.s σ.pos==9)||(bt σ.s σ.pos==10)||(bt σ.s σ.pos==13)||(bt σ.s σ.pos==44))→
  joinPK (Bool×Unit) H (fun J3=>
   forkB ((bt σ.s σ.pos)==32) (J3 (true,()) H) (forkB ((bt σ.s σ.pos)==9) (J3 (true,()) H) (forkB ((bt σ.s σ.pos)==10) (J3 (true,()) H) (forkB ((bt σ.s σ.pos)==13)
   (J3 (true,()) H) (J3 (((bt σ.s σ.pos)==44),()) H))))) rest:=by
  intro b rest hr hb
  refine⟨(b,()),?_,hr⟩
  refine fkI (fun h1=>⟨by rw[hb,h1];rfl,rfl⟩) (fun h1=>?_)
  refine fkI (fun h2=>⟨by rw[hb,h1,h2];rfl,rfl⟩) (fun h2=>?_)
  refine fkI (fun h3=>⟨by rw[hb,h1,h2,h3];rfl,rfl⟩) (fun h3=>?_)
  refine fkI (fun h4=>⟨by rw[hb,h1,h2,h3,h4];rfl,rfl⟩) (fun h4=>⟨by rw[hb,h1,h2,h3,h4];rfl,rfl⟩)
 refine key _ _ ?_ rfl
 refine fkI (fun _=>?_) (fun _=>?_)
 ·refine⟨_,lcO h.at_ rfl,?_⟩
  refine lexStore h.at_ 1 _ {σ with pos:=σ.pos+1} rfl (by decide) (by dsimp only[writeAt,LexSt.obj];rw[wrap1 (by omega)];rfl) ?_
  exact rkI ⟨rfl,(h.store {σ with pos:=σ.pos+1} rfl rfl rfl rfl ⟨by dsimp only;omega,by dsimp only;omega⟩).done rfl (by dsimp only;omega)⟩
 refine⟨_,lcO h.at_ rfl,?_⟩
 refine⟨_,lcO h.at_ rfl,?_⟩
 refine(starts_ok σ.s _ σ.pos H (by omega) (by omega) (by decide)).mono ?_
 rintro _ _ ⟨rfl,rfl⟩
 refine⟨_,rfl,fkI (fun hst=>?_) (fun _=>?_)⟩
 ·have hst':σ.pos+3≤σ.s.size:=startsM_le hst
  refine lexStore h.at_ 4 _ {σ with uns:=true} rfl (by decide) rfl ?_
  have h2:=h.uns true
  refine⟨_,lcO h2.at_ rfl,?_⟩
  refine lexStore h2.at_ 1 _ {σ with pos:=σ.pos+3,uns:=true} rfl (by decide) (by dsimp only[writeAt,LexSt.obj];rw[wrapL (k:=σ.pos) 3];rfl) ?_
  exact rkI ⟨rfl,(h2.store {σ with pos:=σ.pos+3,uns:=true} rfl rfl rfl rfl ⟨by dsimp only;omega,by dsimp only;omega⟩).done rfl (by dsimp only;omega)⟩
 refine fkI (fun h35=>?_) (fun _=>?_)
 ·refine(lexComment_ok H0 H x σ ts h (by omega) hp (by simpa using h35)).mono ?_
  rintro _ H' ⟨rfl,h'⟩
  exact⟨(),rfl,rkI ⟨rfl,h'⟩⟩
 refine⟨_,lcO h.at_ rfl,?_⟩
 refine⟨_,lcO h.at_ rfl,?_⟩
 refine(starts_ok σ.s _ σ.pos H (by omega) (by omega) (by decide)).mono ?_
 rintro _ _ ⟨rfl,rfl⟩
 refine⟨_,rfl,fkI (fun hst=>?_) (fun _=>?_)⟩
 ·have hst':σ.pos+3≤σ.s.size:=startsM_le hst
  refine⟨_,lcO h.at_ rfl,?_⟩
  dsimp only
  rw[wrapL (k:=σ.pos) 3]
  refine(lexAdd_ok H0 H x σ ts h 6 (σ.pos+3) _ ⟨by omega,by omega⟩ (by omega) (by rintro(h|h)<;>simp at h)).mono ?_
  rintro _ H' ⟨rfl,a,c,h'⟩
  exact⟨(),rfl,rkI ⟨rfl,h'.done rfl (by dsimp only;omega)⟩⟩
 refine(sign_ok _ _).mono ?_
 rintro _ _ ⟨rfl,rfl⟩
 refine⟨_,rfl,fkI (fun hsg=>?_) (fun _=>?_)⟩
 ·refine⟨_,lcO h.at_ rfl,?_⟩
  refine(sign_ok _ _).mono ?_
  rintro _ _ ⟨rfl,rfl⟩
  refine⟨_,rfl,lcO h.at_ rfl,?_⟩
  rw[wrap1 (k:=σ.pos) (by omega)]
  have hr:=signM_range (bt σ.s σ.pos)
  refine(lexAdd_ok H0 H x σ ts h (signM (bt σ.s σ.pos)) (σ.pos+1) _ ⟨by omega,by omega⟩ (by omega) (by rintro(h|h)<;>dsimp only at h<;>omega)).mono ?_
  rintro _ H' ⟨rfl,a,c,h'⟩
  exact⟨(),rfl,rkI ⟨rfl,h'.done rfl (by dsimp only;omega)⟩⟩
 refine(isBegin_ok _ _).mono ?_
 rintro _ _ ⟨rfl,rfl⟩
 refine⟨_,rfl,fkI (fun hbg=>?_) (fun _=>?_)⟩
 ·refine⟨_,lcO h.at_ rfl,?_⟩
  refine⟨fun z H'=>H=H'∧ ∃k:Nat,z.1=k∧σ.pos≤k∧k≤σ.s.size,fun z _=>σ.s.size -z.1.toNat,⟨rfl,σ.pos,rfl,Nat.le_refl _,h.le⟩,?_⟩
  rintro⟨_,_⟩ _ ⟨rfl,k,hk,hk1,hk2⟩
  dsimp only at hk⊢
  subst hk
  refine⟨fun y H'=>H=H'∧(y.1=true→k<σ.s.size)∧(k=σ.pos→y.1=true),?_,?_⟩
  ·refine(lexNext_ok x k σ H h.at_).mono ?_
   rintro _ _ ⟨rfl,rfl⟩
   refine⟨_,rfl,(isBegin_ok _ _).mono ?_⟩
   rintro _ _ ⟨rfl,rfl⟩
   refine⟨_,rfl,fkI (fun h1=>⟨rfl,fun _=>?_,fun _=>rfl⟩) (fun h1=>?_)⟩
   ·apply next_lt
    intro h0
    rw[h0] at h1
    simp[isBeginM] at h1
   ·refine(lexNext_ok x k σ H h.at_).mono ?_
    rintro _ _ ⟨rfl,rfl⟩
    refine⟨_,rfl,(isDigit_ok _ _).mono ?_⟩
    rintro _ _ ⟨rfl,rfl⟩
    refine⟨_,rfl,rfl,fun h2=>?_,fun he=>?_⟩
    ·apply next_lt
     intro h0
     rw[h0] at h2
     simp[isDigitM] at h2
    ·subst he
     have:nextM σ.s σ.pos=bt σ.s σ.pos:=by unfold nextM;rw[if_neg (by omega)]
     rw[this,hbg] at h1
     cases h1
  ·rintro⟨b,_⟩ _ ⟨rfl,hb1,hb2⟩
   dsimp only at hb1 hb2⊢
   refine fkI (fun hb=>?_) (fun hb=>?_)
   ·have:=hb1 hb
    rw[wrap1 (by omega)]
    exact⟨⟨rfl,k+1,rfl,by omega,by omega⟩,by omega⟩
   ·have hne:k≠σ.pos:=fun e=>by rw[hb2 e] at hb;cases hb
    refine⟨_,lcO h.at_ rfl,?_⟩
    refine⟨_,lcO h.at_ rfl,?_⟩
    refine⟨by omega,?_⟩
    refine(lexAdd_ok H0 H x σ ts h 15 k _ ⟨by omega,by omega⟩ (by omega) (by rintro(h|h)<;>simp at h)).mono ?_
    rintro _ H' ⟨rfl,a,c,h'⟩
    exact⟨(),rfl,rkI ⟨rfl,h'.done rfl (by dsimp only;omega)⟩⟩
 refine⟨fun y H'=>H=H',?_,?_⟩
 ·refine fkI (fun _=>rfl) (fun _=>?_)
  refine(isDigit_ok _ _).mono ?_
  rintro _ _ ⟨rfl,rfl⟩
  exact⟨_,rfl,rfl⟩
 rintro⟨b,_⟩ _ rfl
 refine fkI (fun _=>?_) (fun _=>?_)
 ·refine(lexNumber_ok H0 H x σ ts h (by omega) hp).mono ?_
  rintro _ H' ⟨rfl,h'⟩
  exact⟨(),rfl,rkI ⟨rfl,h'⟩⟩
 refine⟨_,lcO h.at_ rfl,?_⟩
 refine⟨_,lcO h.at_ rfl,?_⟩
 refine(starts_ok σ.s _ σ.pos H (by omega) (by omega) (by decide)).mono ?_
 rintro _ _ ⟨rfl,rfl⟩
 refine⟨_,rfl,fkI (fun hst=>?_) (fun _=>?_)⟩
 ·have hst':σ.pos+3≤σ.s.size:=startsM_le hst
  refine(lexBlock_ok H0 H x σ ts h hs hst').mono ?_
  rintro _ H' ⟨rfl,h'⟩
  exact⟨(),rfl,rkI ⟨rfl,h'⟩⟩
 refine fkI (fun _=>?_) (fun _=>?_)
 ·refine(lexText_ok H0 H x σ ts h (by omega) hp).mono ?_
  rintro _ H' ⟨rfl,h'⟩
  exact⟨(),rfl,rkI ⟨rfl,h'⟩⟩
 ·refine(lexFail_ok H0 H x σ ts h).mono ?_
  rintro _ H' ⟨rfl,h'⟩
  exact⟨(),rfl,rkI ⟨rfl,_,_,h',rfl,.inl rfl⟩⟩
def Lexed (s:ByteArray) (H:Heap) (v:Value) (H':Heap):Prop:= ∃a n c ok sure ts,v= .tuple #[.slice a n c,.bool ok,.bool sure]∧Ext [] H H'∧OwnS H' tq138 4 a n c (tkL ts)∧ ∀t∈ts,TkOk s t
theorem lexed_ok (s:ByteArray) (H:Heap) (hs:s.size<268435456):Fn PP fq132 #[.string s] H (Lexed s H):=by
 refine lexed.enter s H _ ?_
 unfold lexed.W
 refine nbI fun H2 e2 hb2 ext2 hs2=>?_
 have start:LexInv H H2 H.size ⟨s,0,none,0,0,false,false⟩ []:=
  ⟨ext2,hb2,Nat.le_refl _,OwnS.nil _ _ _,(fun _ h=>by cases h),Nat.zero_le _,Nat.le_refl _,by simp⟩
 refine⟨fun _ H'=> ∃σ ts,LexInv H H' H.size σ ts∧σ.s=s,fun _ H'=>match loadC H' false 1 ⟨H.size,3,none⟩ with
  |some (.bool false)=>(match loadC H' false 1 ⟨H.size,1,none⟩ with|some (.int _ n)=>s.size -n.toNat+1|_=>0)
  |_=>0,⟨_,_,start,rfl⟩,?_⟩
 rintro _ H3 ⟨σ,ts,h,rfl⟩
 have fin:loadW H3 false 1 ⟨H.size,2,none⟩ pSlc fun(x10:(Option Addr×Nat×Nat))=>
  loadW H3 false 1 ⟨H.size,3,none⟩ pBool fun(x11:Bool)=>loadW H3 false 1 ⟨H.size,4,none⟩ pBool fun(x12:Bool)=>
  retK (some [(.slice x10.1 x10.2.1 x10.2.2),(.bool (!x11)),(.bool (!x12))]) H3 (Lexed σ.s H):=by
  refine⟨(σ.oa,σ.on,σ.oc),lcO h.at_ rfl,_,lcO h.at_ rfl,_,lcO h.at_ rfl,rkI ?_⟩
  exact⟨_,_,_,_,_,ts,rfl,h.ext,h.own,h.toks⟩
 refine⟨_,lcO h.at_ rfl,?_⟩
 refine fkI (fun hb=>?_) (fun _=>fin)
 have hb':σ.bad=false:=by simpa using hb
 refine⟨_,lcO h.at_ rfl,?_⟩
 refine fkI (fun hlt=>?_) (fun _=>fin)
 have hlt':σ.pos<σ.s.size:=by simp at hlt;exact hlt
 refine(lexToken_ok H H3 H.size σ ts h hs hlt').mono ?_
 rintro _ H4 ⟨rfl,σ',ts',h',hs',hstep⟩
 refine⟨(),rfl,⟨σ',ts',h',hs'⟩,?_⟩
 dsimp only
 rw[lcO h'.at_ (o:=3) (g:=false) (m:=1) (v:= .bool σ'.bad) rfl,lcO h'.at_ (o:=1) (g:=false) (m:=1) (v:= .int .i64 σ'.pos) rfl,
  lcO h.at_ (o:=3) (g:=false) (m:=1) (v:= .bool σ.bad) rfl,lcO h.at_ (o:=1) (g:=false) (m:=1) (v:= .int .i64 σ.pos) rfl,hb']
 rcases hstep with h1|h1
 ·rw[h1];dsimp only;omega
 ·cases σ'.bad with
  |true=>dsimp only;omega
  |false=>have:=h'.le;dsimp only;rw[hs'] at this;omega
theorem Lex_ok (s:ByteArray) (H:Heap) (hs:s.size<268435456):Fn PP fq78 #[.string s] H (Lexed s H):=by
 refine Lex.enter s H _ ?_
 unfold Lex.W
 refine(lexed_ok s H hs).mono ?_
 rintro _ H' ⟨a,n,c,ok,sure,ts,rfl,he,ho,ht⟩
 refine⟨((a,n,c),ok,sure),rfl,fkI (fun _=>rkI ?_) (fun hb=>rkI ?_)⟩
 ·exact⟨_,_,_,_,_,[],rfl,he,OwnS.nil _ _ _,by simp⟩
 ·exact⟨_,_,_,_,_,ts,rfl,he,ho,ht⟩
theorem bytes_eq {a b:ByteArray} (h:(a.toList==b.toList)=true):a=b:=by
 have:=eq_of_beq h
 rw[Go.ByteArray.toList_eq,Go.ByteArray.toList_eq] at this
 cases a;cases b
 congr 1
 exact Array.toList_inj.1 this
theorem IsNumber_ok (s:ByteArray) (kind:Int) (H:Heap) (hs:s.size<268435456) (hk:kind=16∨kind=17):
 Fn PP fq50 #[.string s,.int .i64 kind] H fun v H'=> ∃b,v= .bool b∧Ext [] H H'∧(b=true→Num s 0 kind s.size):=by
 refine IsNumber.enter s kind H _ ?_
 unfold IsNumber.W
 refine(Lex_ok s H hs).mono ?_
 rintro _ H' ⟨a,n,c,ok,sure,ts,rfl,he,ho,ht⟩
 have no:retK (some [.bool false]) H' fun v H'=> ∃b,v= .bool b∧Ext [] H H'∧(b=true→Num s 0 kind s.size):=rkI ⟨false,rfl,he,by simp⟩
 refine⟨((a,n,c),ok,sure),rfl,fkI (fun _=>?_) (fun _=>no)⟩
 refine fkI (fun _=>?_) (fun _=>no)
 refine fkI (fun h1=>?_) (fun _=>no)
 have h1':n=1:=by simp at h1;omega
 subst h1'
 obtain⟨t,rfl⟩: ∃t,ts=[t]:=by
  have:=ho.1
  cases ts with
  |nil=>simp[tkL] at this
  |cons t r=>
   cases r with
   |nil=>exact⟨t,rfl⟩
   |cons t2 r=>simp[tkL,Tk.vals] at this
 obtain⟨hl0,r,rfl⟩:=ho.load (k:=0) (v:= .int .i64 t.kind) rfl
 obtain⟨hl1,_⟩:=ho.load (k:=1) (v:= .string t.value) rfl
 refine⟨ix_some (by omega) (by dsimp only;omega),_,hl0,fkI (fun hk2=>?_) (fun _=>no)⟩
 refine⟨ix_some (by omega) (by dsimp only;omega),_,hl1,rkI ⟨_,rfl,he,fun hv=>?_⟩⟩
 have hk':t.kind=kind:=by simpa using hk2
 obtain⟨hnum,h3,h4,h5⟩:=ht t (by simp) (by rw[hk'];exact hk)
 have hv':=bytes_eq hv
 have hz:t.value.size=t.stop -t.start:=by rw[h5,ByteArray.size_extract];omega
 rw[hv'] at hz
 have e1:t.start=0:=by omega
 have e2:t.stop=s.size:=by omega
 rw[e1,e2,hk'] at hnum
 exact hnum
inductive Pts (s:ByteArray) (P:Nat→Int→Prop):Nat→Prop
 |done:Pts s P s.size
 |step (i:Nat) (c:Int) (n:Nat):i<s.size→pointM s i=(c,n)→n≠0→P i c→Pts s P (i+n)→Pts s P i
def TextP (s:ByteArray):Prop:=Pts s (fun _ c=>c≠0∧c≤65535) 0
theorem textable_ok (s:ByteArray) (H:Heap) (hs:s.size<268435456):Fn PP fq51 #[.string s] H fun v H'=> ∃b,v= .bool b∧H=H'∧(b=true→TextP s):=by
 refine textable.enter s H _ ?_
 unfold textable.W
 refine⟨fun z H'=>H=H'∧ ∃k:Nat,z.1=k∧k≤s.size∧(Pts s (fun _ c=>c≠0∧c≤65535) k→TextP s),fun z _=>s.size -z.1.toNat,⟨rfl,0,rfl,Nat.zero_le _,id⟩,?_⟩
 rintro⟨_,_⟩ _ ⟨rfl,k,hk,hks,hT⟩
 dsimp only at hk⊢
 subst hk
 refine fkI (fun hlt=>?_) (fun hge=>?_)
 ·have hlt':k<s.size:=by simp at hlt;exact hlt
  refine(Point_ok s k H hlt' (by omega)).mono ?_
  rintro _ _ ⟨rfl,rfl⟩
  have hpl:=pointM_le s k hlt'
  have hst:=Pts.step (s:=s) (P:=fun _ c=>c≠0∧c≤65535) k (pointM s k).1 (pointM s k).2 hlt' rfl
  generalize pointM s k=cn at hpl hst⊢
  obtain⟨c,n⟩:=cn
  dsimp only at hpl hst
  refine⟨(c,n),rfl,?_⟩
  refine⟨(((n:Int)==0||(c==0||decide (c>65535))),()),?_,?_⟩
  ·refine fkI (fun h1=>⟨by rw[h1];rfl,rfl⟩) (fun h1=>?_)
   refine fkI (fun h2=>⟨by rw[h1,h2];rfl,rfl⟩) (fun h2=>⟨by rw[h1,h2];rfl,rfl⟩)
  ·refine fkI (fun _=>rkI ⟨false,rfl,rfl,by simp⟩) (fun h1=>?_)
   simp at h1
   have hn:n≠0:=by omega
   dsimp only
   rw[wrapN (by omega) n (by omega)]
   exact⟨⟨rfl,k+n,rfl,by omega,fun hp=>hT (hst hn ⟨h1.2.1,by omega⟩ hp)⟩,by omega⟩
 ·have hge':k=s.size:=by simp at hge;omega
  subst hge'
  exact rkI ⟨true,rfl,rfl,fun _=>hT .done⟩
def quotes3:ByteArray:=bs [34,34,34]
def blockRaw (s:ByteArray):ByteArray:=bs [10]++s++bs [10]
def BlockC (s:ByteArray) (i:Nat) (c:Int):Prop:=(c=9∨c=10∨32≤c)∧c≠127∧c≠65279∧c≤65535∧startsM s i quotes3=false
def BlockP (s:ByteArray):Prop:=Pts s (BlockC s) 0∧blockM (blockRaw s)=s∧plainM (blockRaw s)=true
theorem blockable_ok (s:ByteArray) (H:Heap) (hs:s.size<268435450):Fn PP fq52 #[.string s] H fun v H'=> ∃b,v= .bool b∧Ext [] H H'∧(b=true→BlockP s):=by
 refine blockable.enter s H _ ?_
 unfold blockable.W
 refine⟨fun z H'=>H=H'∧ ∃k:Nat,z.1=k∧k≤s.size∧(Pts s (BlockC s) k→Pts s (BlockC s) 0),fun z _=>s.size -z.1.toNat,⟨rfl,0,rfl,Nat.zero_le _,id⟩,?_⟩
 rintro⟨_,_⟩ _ ⟨rfl,k,hk,hks,hT⟩
 dsimp only at hk⊢
 subst hk
 refine fkI (fun hlt=>?_) (fun hge=>?_)
 ·have hlt':k<s.size:=by simp at hlt;exact hlt
  refine(Point_ok s k H hlt' (by omega)).mono ?_
  rintro _ _ ⟨rfl,rfl⟩
  have hpl:=pointM_le s k hlt'
  have hst:=Pts.step (s:=s) (P:=BlockC s) k (pointM s k).1 (pointM s k).2 hlt' rfl
  generalize pointM s k=cn at hpl hst⊢
  obtain⟨c,n⟩:=cn
  dsimp only at hpl hst
  refine⟨(c,n),rfl,?_⟩
  refine⟨fun y H'=>H=H'∧(y.1=false→n≠0∧BlockC s k c),?_,?_⟩
  ·have yes:H=H∧((true:Bool)=false→n≠0∧BlockC s k c):=⟨rfl,by simp⟩
   have last:(n:Int)≠0→(c=9∨c=10∨32≤c)→c≠127→c≠65279→c≤65535→callW PP fq80 #[(.string s),(.int .i64 k),(.string (bs [34,34,34]))] H pBool fun(x9:Bool) H10=>
    H=H10∧(x9=false→n≠0∧BlockC s k c):=by
    intro h0 h1 h2 h3 h4
    refine(starts_ok s _ k H (by omega) (by omega) (by decide)).mono ?_
    rintro _ _ ⟨rfl,rfl⟩
    exact⟨_,rfl,rfl,fun h5=>⟨by omega,h1,h2,h3,h4,h5⟩⟩
   refine fkI (fun _=>yes) (fun h0=>?_)
   have h0':(n:Int)≠0:=by simpa using h0
   have tail:(c=9∨c=10∨32≤c)→forkB (c==127) (H=H∧((true:Bool)=false→n≠0∧BlockC s k c)) (forkB (c==65279) (H=H∧((true:Bool)=false→n≠0∧BlockC s k c))
    (forkB (decide (c>65535)) (H=H∧((true:Bool)=false→n≠0∧BlockC s k c)) (callW PP fq80 #[(.string s),(.int .i64 k),(.string (bs [34,34,34]))] H pBool fun(x9:Bool) H10=>
    H=H10∧(x9=false→n≠0∧BlockC s k c)))):=by
    intro h1
    refine fkI (fun _=>yes) (fun h2=>fkI (fun _=>yes) (fun h3=>fkI (fun _=>yes) (fun h4=>last h0' h1 ?_ ?_ ?_)))
    ·simpa using h2
    ·simpa using h3
    ·simpa using h4
   refine fkI (fun h1=>fkI (fun h2=>fkI (fun _=>yes) (fun h3=>tail ?_)) (fun h2=>tail ?_)) (fun h1=>tail ?_)
   ·have: ¬c<32:=by simpa using h3
    right;right;omega
   ·right;left;simpa using h2
   ·left;simpa using h1
  ·rintro⟨b,_⟩ _ ⟨rfl,hb⟩
   refine fkI (fun _=>rkI ⟨false,rfl,Ext.refl _ _,by simp⟩) (fun h1=>?_)
   obtain⟨hn,hB⟩:=hb h1
   dsimp only
   rw[wrapN (by omega) n (by omega)]
   exact⟨⟨rfl,k+n,rfl,by omega,fun hp=>hT (hst hn hB hp)⟩,by omega⟩
 ·have hge':k=s.size:=by simp at hge;omega
  subst hge'
  have e1:(bs [10]).size=1:=rfl
  have hsz:(bs [10]++s++bs [10]).size=s.size+2:=by rw[ByteArray.size_append,ByteArray.size_append,e1];omega
  have hsz1:(bs [10]++s).size=s.size+1:=by rw[ByteArray.size_append,e1];omega
  refine⟨fun y H'=>Ext [] H H'∧(y.1=true→BlockP s),?_,?_⟩
  ·refine⟨by rw[e1];omega,by rw[hsz1,e1];omega,(BlockValue_ok _ H (by rw[hsz];omega)).mono ?_⟩
   rintro _ H2 ⟨rfl,he⟩
   refine⟨_,rfl,fkI (fun h1=>?_) (fun _=>⟨he,by simp⟩)⟩
   refine⟨by rw[e1];omega,by rw[hsz1,e1];omega,(plainBlock_ok _ H2 (by rw[hsz];omega)).mono ?_⟩
   rintro _ H3 ⟨rfl,he3⟩
   exact⟨_,rfl,he.trans he3,fun h2=>⟨hT .done,bytes_eq h1,h2⟩⟩
  ·rintro⟨b,_⟩ H4 ⟨he,hb⟩
   exact rkI ⟨b,rfl,he,hb⟩
end Go.Vx
