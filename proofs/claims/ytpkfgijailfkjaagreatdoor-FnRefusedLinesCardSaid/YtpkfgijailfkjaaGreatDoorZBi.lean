/- A part of the proof of what the last text of this claim says: PY1, PY2, PY3, PY4, PY5, LZ1, LZ2, LZ3, LZ4, LX1. Conditions: none. -/
import Derived.ProofKit
import Derived.OpenShut
import Derived.Carry
import Derived.ChangeMaps5
import Derived.Test.YtpkfgijailfkjaaGreatDoorCards
import Derived.Test.YtpkfgijailfkjaaGreatDoorTie
import Derived.Lay
import Derived.LaidOnce
import Derived.SevenTiedAt
import Derived.Lib.LaidU8T
import Derived.Test.YtpkfgijailfkjaaGreatDoorZAn
import Derived.Test.YtpkfgijailfkjaaGreatDoorZBg
import Derived.Test.YtpkfgijailfkjaaGreatDoorZBh
set_option maxRecDepth 10000
namespace Go.Vx
open Go Go.Proofs
abbrev pTVn:Pat:=⟨Int×Int×Int×ByteArray,fun x=>(.tuple #[(.agg #[(.int .i64 x.1),(.int .i64 x.2.1),(.int .i64 x.2.2.1),(.string x.2.2.2)]),.nilIface])⟩
def TokAt (E:PEnv) (r:List PTk) (x:Int×Int×Int×ByteArray):Prop:=x.1=kd r∧x.2.1=((startOf E.text r:Nat):Int)∧startOf E.text r≤E.text.size∧x.2.2.1≠0∧ ∀w,kd r=15→(x.2.2.2.toList==w.toList)=isW w r
theorem lookX {E:PEnv} {H:Heap} {t:PTk} {l:List PTk} (px:PX E H (t::l)) {K:(Int×Int×Int×ByteArray)→Heap→Prop} (hk: ∀x H',TokAt E l x→Ext E.S H H'→PX E H' (t::l)→K x H'):
 callW PP fq78 #[.pointer (some ⟨E.p,0,none⟩)] H pTVn K:=by
 rcases px.p with⟨pe,en,h0,_⟩|⟨pe,t',v,en,r,hl,hv,h1,hp,hen,hs,hr⟩
 ·cases h0
 cases hl
 obtain⟨k,V,st',en',hx,hfin⟩: ∃(k:Int) (V:ByteArray→Prop) (st' en':Nat),LxX E.toSrc en k V st' en'∧ ∀w:ByteArray,V w→TokAt E l (k,(st':Int),(en':Int),w):=by
  cases l with
  |nil=>
   obtain⟨en',hx⟩:=hr
   exact⟨1,_,E.text.size,en',hx,fun w _=>⟨rfl,rfl,Nat.le_refl _,by have:=hx.2.2.1;dsimp only;omega,fun _ h=>absurd h (by decide)⟩⟩
  |cons t2 r2=>
   obtain⟨en2,hne,hle2,hx,hr2⟩:=hr
   refine⟨t2.1,_,t2.2.2,en2,hx,fun w hw=>⟨rfl,rfl,hle2,by have:=hx.2.2.1;dsimp only;omega,fun w' hk=>?_⟩⟩
   have hk':t2.1=15:=hk
   have:=hw.1 (by omega) (by omega)
   dsimp only
   rw[this]
   simp[isW,hk']
 have hlt:=px.lt
 obtain⟨n,hprev⟩:=px.ls.prev
 have hpp:E.prev≠E.p:=cells_ne hprev hp (by decide)
 refine(show Fn PP _ _ H fun r H'=> ∃x,TokAt E l x∧r= .tuple #[(.agg #[(.int .i64 x.1),(.int .i64 x.2.1),(.int .i64 x.2.2.1),(.string x.2.2.2)]),.nilIface]∧Ext E.S H H'∧PX E H' (t::l) from ?_).mono ?_
 ·refine lookahead.enter _ H _ ?_
  unfold lookahead.W
  refine nbI fun H1 e1 hb1 x1 s1=>?_
  have hp1:=x1.get _ _ hp (by simp)
  refine⟨(E.prev,E.srcb),lcO hp1 rfl,(en:Int),lcO hp1 rfl,?_⟩
  have ls1:=px.ls.keep x1.of_nil ⟨_,_,hp⟩
  refine(LexI1_X ls1 en en hx (.inl ⟨rfl,by omega⟩)).mono ?_
  rintro _ H2 ⟨u,hu,rfl,x2,n2,hn2⟩
  refine⟨(k,(st':Int),(en':Int),u),rfl,?_⟩
  dsimp only
  have hb12:=x2.get _ _ hb1 (ne_mem (by omega))
  refine swI hb12 (by simp) rfl rfl fun H3 e3 hb3 x3 s3=>?_
  have hb3':H3[H.size]?=some (.cells #[.int .i64 k,.int .i64 st',.int .i64 en',.string u] tq87):=hb3
  have y3:Ext E.S H H3:=by rw[e3];exact(x1.of_nil.trans (x2.mono (by simp[PEnv.S]))).setNew (Nat.le_refl _) _
  have keep: ∀(q:Nat) (d:Array Value) (e:TypeId) (fr:Nat×Nat),H[q]?=some (.cells d e fr)→e≠tq3→H3[q]?=some (.cells d e fr):=by
   intro q d e fr hq h2
   have hq1:=x1.get _ _ hq (by simp)
   have hq2:=x2.get _ _ hq1 (ne_mem (cells_ne hq hprev h2))
   exact x3.get _ _ hq2 (ne_mem (by have:=lt_of_get hq;omega))
  have hn3:=x3.get _ _ hn2 (ne_mem (by omega))
  rw[lcO hb3' rfl]
  refine rkI ⟨_,hfin u hu,rfl,y3,⟨⟨⟨n2,hn3⟩,keep _ _ _ _ px.ls.srcb (by decide),px.ls.src.keep (fun k c e fr hk ho=>keep _ _ _ _ hk ?_) (fun k o hk ho=>y3.get _ _ ho (by have:=px.ls.lo;simp only[PEnv.S,List.mem_cons,List.not_mem_nil,or_false,not_or];omega)),px.ls.lo⟩,.inr ⟨pe,t,v,en,l,rfl,hv,h1,keep _ _ _ _ hp (by decide),hen,hs,hr⟩,px.n⟩⟩
  rcases ho with rfl|rfl<;>decide
 ·rintro _ H' ⟨x,ht,rfl,y,p⟩
  exact⟨x,rfl,hk x H' ht y p⟩
theorem isW_ne {w w':ByteArray} {r:List PTk} (h:isW w r=true) (hne:w≠w'):isW w' r=false:=by
 cases r with
 |nil=>cases h
 |cons t r=>
  change (t.1==15&&t.2.1.toList==w.toList)=true at h
  change (t.1==15&&t.2.1.toList==w'.toList)=false
  rw[bytes_beq] at h⊢
  simp at h⊢
  intro _ h2
  exact hne (h.2.symm.trans h2)
def zzF (r:List PTk):Option FuncId:=
 if isW wFragment' r=true then some fq104
 else if isOp r=true then some fq36
 else if isW wSchema' r=true then some fq105
 else if isW wScalar' r=true then some fq106
 else if isW wType' r=true then some fq107
 else if isW wInterface' r=true then some fq108
 else if isW wUnion' r=true then some fq109
 else if isW wEnum' r=true then some fq110
 else if isW wInput' r=true then some fq111
 else if isW wExtend' r=true then some fq112
 else if isW wDirective' r=true then some fq113
 else none
def zzV:Option FuncId→Value
 |some f=> .tuple #[.func (.func f) #[] #[],.bool true]
 |none=> .tuple #[.nilFunc,.bool false]
theorem zz_ok {v:ByteArray} {r:List PTk} (hv: ∀w:ByteArray,(v.toList==w.toList)=isW w r) (H:Heap):Fn PP fq79 #[.string v] H fun x H'=>x=zzV (zzF r)∧H'=H:=by
 refine zzDefinition.enter v H _ ?_
 unfold zzDefinition.W
 rw[hv,hv,hv,hv,hv,hv,hv,hv,hv,hv,hv,hv,hv]
 have hop:isOp r=(isW wQuery r||isW wMutation r||isW wSubscription r):=rfl
 refine fkI (fun h=>?_) (fun h1=>?_)
 ·have h':isW wFragment' r=true:=h
  refine rkI ⟨?_,rfl⟩
  unfold zzF;rw[if_pos h'];rfl
 have n1: ¬isW wFragment' r=true:=by have h':isW wFragment' r=false:=h1;rw[h'];simp
 have opc:isOp r=true→retK (some [.func (.func fq36) #[] #[],.bool true]) H fun x H'=>x=zzV (zzF r)∧H'=H:=fun h=>by
  refine rkI ⟨?_,rfl⟩
  unfold zzF;rw[if_neg n1,if_pos h];rfl
 refine fkI (fun h=>opc (by rw[hop,show isW wQuery r=true from h];rfl)) (fun hq=>?_)
 refine fkI (fun h=>opc (by rw[hop,show isW wMutation r=true from h];simp)) (fun hm=>?_)
 refine fkI (fun h=>opc (by rw[hop,show isW wSubscription r=true from h];simp)) (fun hs=>?_)
 have n2: ¬isOp r=true:=by rw[hop,show isW wQuery r=false from hq,show isW wMutation r=false from hm,show isW wSubscription r=false from hs];decide
 refine fkI (fun h=>?_) (fun h3=>?_)
 ·have h':isW wSchema' r=true:=h
  refine rkI ⟨?_,rfl⟩
  unfold zzF;rw[if_neg n1,if_neg n2,if_pos h'];rfl
 have n3: ¬isW wSchema' r=true:=by have h':isW wSchema' r=false:=h3;rw[h'];simp
 refine fkI (fun h=>?_) (fun h4=>?_)
 ·have h':isW wScalar' r=true:=h
  refine rkI ⟨?_,rfl⟩
  unfold zzF;rw[if_neg n1,if_neg n2,if_neg n3,if_pos h'];rfl
 have n4: ¬isW wScalar' r=true:=by have h':isW wScalar' r=false:=h4;rw[h'];simp
 refine fkI (fun h=>?_) (fun h5=>?_)
 ·have h':isW wType' r=true:=h
  refine rkI ⟨?_,rfl⟩
  unfold zzF;rw[if_neg n1,if_neg n2,if_neg n3,if_neg n4,if_pos h'];rfl
 have n5: ¬isW wType' r=true:=by have h':isW wType' r=false:=h5;rw[h'];simp
 refine fkI (fun h=>?_) (fun h6=>?_)
 ·have h':isW wInterface' r=true:=h
  refine rkI ⟨?_,rfl⟩
  unfold zzF;rw[if_neg n1,if_neg n2,if_neg n3,if_neg n4,if_neg n5,if_pos h'];rfl
 have n6: ¬isW wInterface' r=true:=by have h':isW wInterface' r=false:=h6;rw[h'];simp
 refine fkI (fun h=>?_) (fun h7=>?_)
 ·have h':isW wUnion' r=true:=h
  refine rkI ⟨?_,rfl⟩
  unfold zzF;rw[if_neg n1,if_neg n2,if_neg n3,if_neg n4,if_neg n5,if_neg n6,if_pos h'];rfl
 have n7: ¬isW wUnion' r=true:=by have h':isW wUnion' r=false:=h7;rw[h'];simp
 refine fkI (fun h=>?_) (fun h8=>?_)
 ·have h':isW wEnum' r=true:=h
  refine rkI ⟨?_,rfl⟩
  unfold zzF;rw[if_neg n1,if_neg n2,if_neg n3,if_neg n4,if_neg n5,if_neg n6,if_neg n7,if_pos h'];rfl
 have n8: ¬isW wEnum' r=true:=by have h':isW wEnum' r=false:=h8;rw[h'];simp
 refine fkI (fun h=>?_) (fun h9=>?_)
 ·have h':isW wInput' r=true:=h
  refine rkI ⟨?_,rfl⟩
  unfold zzF;rw[if_neg n1,if_neg n2,if_neg n3,if_neg n4,if_neg n5,if_neg n6,if_neg n7,if_neg n8,if_pos h'];rfl
 have n9: ¬isW wInput' r=true:=by have h':isW wInput' r=false:=h9;rw[h'];simp
 refine fkI (fun h=>?_) (fun h10=>?_)
 ·have h':isW wExtend' r=true:=h
  refine rkI ⟨?_,rfl⟩
  unfold zzF;rw[if_neg n1,if_neg n2,if_neg n3,if_neg n4,if_neg n5,if_neg n6,if_neg n7,if_neg n8,if_neg n9,if_pos h'];rfl
 have n10: ¬isW wExtend' r=true:=by have h':isW wExtend' r=false:=h10;rw[h'];simp
 refine fkI (fun h=>?_) (fun h11=>?_)
 ·have h':isW wDirective' r=true:=h
  refine rkI ⟨?_,rfl⟩
  unfold zzF;rw[if_neg n1,if_neg n2,if_neg n3,if_neg n4,if_neg n5,if_neg n6,if_neg n7,if_neg n8,if_neg n9,if_neg n10,if_pos h'];rfl
 have n11: ¬isW wDirective' r=true:=by have h':isW wDirective' r=false:=h11;rw[h'];simp
 refine rkI ⟨?_,rfl⟩
 unfold zzF;rw[if_neg n1,if_neg n2,if_neg n3,if_neg n4,if_neg n5,if_neg n6,if_neg n7,if_neg n8,if_neg n9,if_neg n10,if_neg n11];rfl
def wordL (l:List PTk):List PTk:=if kd l=18∨kd l=19 then l.tail else l
theorem tsdPre {E:PEnv} {H:Heap} {l:List PTk} (px:PX E H l) (hne:l≠ []) {U:(Int×Int×Int×ByteArray)→Heap→Prop} {Z:Nat→ByteArray→Heap→Prop}
 (hU:kd (wordL l)≠15→ ∀x H',TokAt E (wordL l) x→Ext E.S H H'→PX E H' l→U x H')
 (hZ:kd (wordL l)=15→ ∀b x H',TokAt E (wordL l) x→Ext E.S H H'→PX E H' l→H'[b]?=some (.cells #[(.int .i64 x.1),(.int .i64 x.2.1),(.int .i64 x.2.2.1),(.string x.2.2.2)] tq87)→Z b x.2.2.2 H'):
 loadW H true 4 ⟨E.p,5,none⟩ ⟨Int×Int×Int×ByteArray,fun x=>(.agg #[(.int .i64 x.1),(.int .i64 x.2.1),(.int .i64 x.2.2.1),(.string x.2.2.2)])⟩ fun(x1:Int×Int×Int×ByteArray)=>
 newB H (.cells #[(.int .i64 0),(.int .i64 0),(.int .i64 0),(.string (bs []))] tq87) fun b2 H3=>
 storeW H3 ⟨b2,0,none⟩ [(.int .i64 x1.1),(.int .i64 x1.2.1),(.int .i64 x1.2.2.1),(.string x1.2.2.2)] fun H4=>
 callW PP fq77 #[(.pointer (some ⟨E.p,0,none⟩))] H4 pBool fun(x5:Bool) H6=>
 forkB x5
 (callW PP fq78 #[(.pointer (some ⟨E.p,0,none⟩))] H6 ⟨Int×Int×Int×ByteArray,fun x=>(.tuple #[(.agg #[(.int .i64 x.1),(.int .i64 x.2.1),(.int .i64 x.2.2.1),(.string x.2.2.2)]),.nilIface])⟩ fun(x7:Int×Int×Int×ByteArray) H8=>
   storeW H8 ⟨b2,0,none⟩ [(.int .i64 x7.1),(.int .i64 x7.2.1),(.int .i64 x7.2.2.1),(.string x7.2.2.2)] fun H9=>
   loadW H9 false 1 ⟨b2,0,none⟩ (pInt .i64) fun(x10:Int)=>
   forkB (x10 !=15)
   (loadW H9 true 4 ⟨b2,0,none⟩ ⟨Int×Int×Int×ByteArray,fun x=>(.agg #[(.int .i64 x.1),(.int .i64 x.2.1),(.int .i64 x.2.2.1),(.string x.2.2.2)])⟩ fun(x11:Int×Int×Int×ByteArray)=>U x11 H9)
   (loadW H9 false 1 ⟨b2,3,none⟩ pStr fun(x14:ByteArray)=>Z b2 x14 H9))
 (loadW H6 false 1 ⟨b2,0,none⟩ (pInt .i64) fun(x20:Int)=>
   forkB (x20 !=15)
   (loadW H6 true 4 ⟨b2,0,none⟩ ⟨Int×Int×Int×ByteArray,fun x=>(.agg #[(.int .i64 x.1),(.int .i64 x.2.1),(.int .i64 x.2.2.1),(.string x.2.2.2)])⟩ fun(x21:Int×Int×Int×ByteArray)=>U x21 H6)
   (loadW H6 false 1 ⟨b2,3,none⟩ pStr fun(x24:ByteArray)=>Z b2 x24 H6)):=by
 obtain⟨t,r,rfl⟩: ∃t r,l=t::r:=by
  cases l with
  |nil=>exact absurd rfl hne
  |cons t r=>exact⟨t,r,rfl⟩
 obtain⟨pe,v,en,hp,hle,hen,hv2⟩: ∃(pe:Int) (v:ByteArray) (en:Nat),H[E.p]?=some (E.obj pe (kd (t::r),v) (startOf E.text (t::r)) en)∧startOf E.text (t::r)≤E.text.size∧0<en∧ ∀w,kd (t::r)=15→(v.toList==w.toList)=isW w (t::r):=by
  rcases px.p with⟨pe,en,h0,_⟩|⟨pe,t',v,en,r',hl,hv,h1,hp,hen,hs,hr⟩
  ·cases h0
  cases hl
  refine⟨pe,v,en,hp,hs,hen,fun w hk=>?_⟩
  have hk':t.1=15:=hk
  have:=hv.1 (by omega) (by omega)
  subst this
  simp[isW,hk']
 have hlt:=px.lt
 refine⟨(kd (t::r),((startOf E.text (t::r):Nat):Int),(en:Int),v),lcO hp rfl,?_⟩
 dsimp only
 refine nbI fun H1 e1 hb1 x1 s1=>?_
 refine swI hb1 (by simp) rfl rfl fun H2 e2 hb2 x2 s2=>?_
 have hb2':H2[H.size]?=some (.cells #[.int .i64 (kd (t::r)),.int .i64 (startOf E.text (t::r):Nat),.int .i64 en,.string v] tq87):=hb2
 have y2:Ext [] H H2:=by rw[e2];exact x1.setNew (Nat.le_refl _) _
 have px2:=px.grow y2
 refine peekDescrX px2 (fkI (fun h=>?_) (fun h=>?_))
 ·have hk:kd (t::r)=18∨kd (t::r)=19:=by simpa using h
  have hw:wordL (t::r)=r:=by unfold wordL;rw[if_pos hk];rfl
  rw[hw] at hU hZ
  refine lookX px2 fun x H3 ht y3 px3=>?_
  have hb3:=y3.get _ _ hb2' (by have:=px.lt;simp only[PEnv.S,List.mem_cons,List.not_mem_nil,or_false,not_or];omega)
  refine swI hb3 (by simp) rfl rfl fun H4 e4 hb4 x4 s4=>?_
  have hb4':H4[H.size]?=some (.cells #[(.int .i64 x.1),(.int .i64 x.2.1),(.int .i64 x.2.2.1),(.string x.2.2.2)] tq87):=hb4
  have y4:Ext E.S H H4:=by rw[e4];exact(y2.of_nil.trans y3).setNew (Nat.le_refl _) _
  have px4:PX E H4 (t::r):=px3.off x4 (by omega) (by have:=px.ls.lo;omega) fun c e fr hc=>by
   rw[hb3] at hc
   injection hc with hc
   injection hc with _ hc
   subst hc
   exact⟨by decide,by decide,by decide,by decide,by decide⟩
  refine⟨x.1,lcO hb4' rfl,fkI (fun h15=>?_) (fun h15=>?_)⟩
  ·exact⟨x,lcO hb4' rfl,hU (by rw[←ht.1];simpa using h15) x H4 ht y4 px4⟩
  ·exact⟨x.2.2.2,lcO hb4' rfl,hZ (by rw[←ht.1];simpa using h15) _ x H4 ht y4 px4 hb4'⟩
 ·have hk: ¬(kd (t::r)=18∨kd (t::r)=19):=by
   intro h2
   rcases h2 with h2|h2<;>simp[h2] at h
  have hw:wordL (t::r)=t::r:=by unfold wordL;rw[if_neg hk]
  rw[hw] at hU hZ
  have ht:TokAt E (t::r) (kd (t::r),((startOf E.text (t::r):Nat):Int),(en:Int),v):=⟨rfl,rfl,hle,by dsimp only;omega,fun w h=>hv2 w h⟩
  refine⟨_,lcO hb2' rfl,fkI (fun h15=>?_) (fun h15=>?_)⟩
  ·exact⟨(kd (t::r),((startOf E.text (t::r):Nat):Int),(en:Int),v),lcO hb2' rfl,hU (by simpa using h15) _ H2 ht y2.of_nil px2⟩
  ·exact⟨_,lcO hb2' rfl,hZ (by simpa using h15) _ _ H2 ht y2.of_nil px2 hb2'⟩
theorem tsd_yes {E:PEnv} {H:Heap} {l:List PTk} (px:PX E H l) (hne:l≠ []) {f:FuncId} {T:TypeId} {g:Gr} (hf:RdI E f #[.pointer (some ⟨E.p,0,none⟩)] T g)
 (henter: ∀(p:Nat) (H:Heap) (R:Value→Heap→Prop),parseTSDG.W f p H R→Fn PP fq37 #[(.pointer (some ⟨p,0,none⟩))] H R) (h15:kd (wordL l)=15) (hz:zzF (wordL l)=some f) {res:Bool×List PTk} (hg:g l=some res):
 Fn PP fq37 #[(.pointer (some ⟨E.p,0,none⟩))] H (PostX E H vF vIe (fun b=>b) (fun _ _=>True) res):=by
 refine henter _ H _ ?_
 unfold parseTSDG.W
 refine tsdPre px hne (fun h=>absurd h15 h) fun _ b x H1 ht y1 px1 hb1=>?_
 refine(zz_ok (fun w=>ht.2.2.2.2 w h15) H1).mono ?_
 rintro _ _ ⟨rfl,rfl⟩
 rw[hz]
 refine⟨(),rfl,?_⟩
 refine(hf _ l res px1 hg).mono ?_
 rintro v H2 ⟨y2,⟨h,z,rfl,hp,_⟩|⟨h,z,rfl,he⟩⟩
 ·exact .inl ⟨(T,z),rfl,rkI ⟨y1.trans y2,.inl ⟨h,(T,z),rfl,hp,trivial⟩⟩⟩
 ·exact .inr ⟨z,rfl,rkI ⟨y1.trans y2,.inr ⟨h,z,rfl,he⟩⟩⟩
theorem tokAt_ne {E:PEnv} {r:List PTk} {x:Int×Int×Int×ByteArray} (h:TokAt E r x):tokEq x tok0=false:=by
 have h2:=h.2.2.2.1
 have h3:(x.2.2.1==tok0.2.2.1)=false:=by
  show(x.2.2.1==(0:Int))=false
  simpa using h2
 unfold tokEq
 rw[h3]
 simp
theorem tsd_no {E:PEnv} {H:Heap} {l:List PTk} (px:PX E H l) (hne:l≠ []) (hz:kd (wordL l)=15→zzF (wordL l)=none) {res:Bool×List PTk} (hr:res=(false,wordL l)):
 Fn PP fq37 #[(.pointer (some ⟨E.p,0,none⟩))] H (PostX E H vF vIe (fun b=>b) (fun _ _=>True) res):=by
 refine parseTSDX_no.enter _ H _ ?_
 unfold parseTSDX_no.W
 refine tsdPre px hne (fun h x H1 ht y1 px1=>?_) fun h15 b x H1 ht y1 px1 hb1=>?_
 ·exact unexpX (l':=wordL l) px1 x (.inr ⟨tokAt_ne ht,ht.2.1,ht.2.2.1⟩) fun b H3 x3 he=>rkI (PostX.no hr b (y1.trans x3.of_nil) he)
 ·refine(zz_ok (fun w=>ht.2.2.2.2 w h15) H1).mono ?_
  rintro _ _ ⟨rfl,rfl⟩
  rw[hz h15]
  refine⟨(),rfl,?_⟩
  refine⟨x,lcO hb1 rfl,?_⟩
  exact unexpX (l':=wordL l) px1 x (.inr ⟨tokAt_ne ht,ht.2.1,ht.2.2.1⟩) fun b H3 x3 he=>rkI (PostX.no hr b (y1.trans x3.of_nil) he)
theorem gDf_at {w:ByteArray} {g:Gr} {l:List PTk} (hw:isW w (wordL l)=true):gDf w g l=g (wordL l).tail:=by
 have h15:=isW_kd hw
 unfold gDf
 unfold wordL at hw h15⊢
 by_cases h:kd l=18∨kd l=19
 ·rw[if_pos h] at hw h15⊢
  rw[gThen_pos (a:=gDescr) (r:=l.tail) (by unfold gDescr;rw[if_pos h]),gThen_pos (a:=gWord w) (r:=l.tail.tail) (by unfold gWord;rw[if_pos hw])]
 ·rw[if_neg h] at hw h15⊢
  rw[gThen_pos (a:=gDescr) (r:=l) (by unfold gDescr;rw[if_neg h]),gThen_pos (a:=gWord w) (r:=l.tail) (by unfold gWord;rw[if_pos hw])]
theorem gWord_at {w:ByteArray} {g:Gr} {l:List PTk} (hw:isW w (wordL l)=true):gThen (gWord w) g l=if kd l=18∨kd l=19 then some (false,l) else g l.tail:=by
 unfold wordL at hw
 by_cases h:kd l=18∨kd l=19
 ·rw[if_pos h]
  have:isW w l=false:=isW_no (by omega)
  unfold gThen gWord
  rw[if_neg (by rw[this];decide)]
 ·rw[if_neg h] at hw⊢
  exact gThen_pos (a:=gWord w) (by unfold gWord;rw[if_pos hw])
def gByWord (n:Nat) (l:List PTk):Option (Bool×List PTk):=
 if kd (wordL l)≠15 then some (false,wordL l)
 else if isW wFragment' (wordL l)=true then gThen (gWord wFragment') (gFragment n) l
 else if isOp (wordL l)=true then gOpDef n l
 else if isW wSchema' (wordL l)=true then(if kd l=18∨kd l=19 then none else gThen (gWord wSchema') (gSchema n) l)
 else if isW wScalar' (wordL l)=true then gDf wScalar' (gScalar n) l
 else if isW wType' (wordL l)=true then gDf wType' (gObject n) l
 else if isW wInterface' (wordL l)=true then gDf wInterface' (gInterface n) l
 else if isW wUnion' (wordL l)=true then gDf wUnion' (gUnion n) l
 else if isW wEnum' (wordL l)=true then gDf wEnum' (gEnum n) l
 else if isW wInput' (wordL l)=true then gDf wInput' (gInputObj n) l
 else if isW wExtend' (wordL l)=true then gThen (gWord wExtend') (gExtend n) l
 else if isW wDirective' (wordL l)=true then gDf wDirective' (gDirDef n) l
 else some (false,wordL l)
theorem isOp_ne {w:ByteArray} {r:List PTk} (h:isW w r=true) (h1:w≠wQuery) (h2:w≠wMutation) (h3:w≠wSubscription):isOp r=false:=by
 unfold isOp
 rw[isW_ne h h1,isW_ne h h2,isW_ne h h3];rfl
theorem gDefinition_word {n:Nat} {l:List PTk} (h12:kd l≠12):gDefinition n l=gByWord n l:=by
 have e0:gDefinition n l=gDefined n l (wordL l) (decide (kd l=18∨kd l=19)):=by
  unfold gDefinition wordL
  rw[if_neg h12]
  by_cases h:kd l=18∨kd l=19
  ·rw[if_pos h,if_pos h,decide_eq_true h]
  ·rw[if_neg h,if_neg h,decide_eq_false h]
 rw[e0]
 have hwl: ¬(kd l=18∨kd l=19)→wordL l=l:=fun h=>by unfold wordL;rw[if_neg h]
 by_cases h15:kd (wordL l)≠15
 ·unfold gDefined gByWord
  rw[if_pos h15,if_pos h15]
 have h15:kd (wordL l)=15:=by simpa using h15
 by_cases h:isW wFragment' (wordL l)=true
 ·have hop:=isOp_ne h (by decide) (by decide) (by decide)
  have e:=gWord_at (g:=gFragment n) h
  by_cases hd:kd l=18∨kd l=19
  ·rw[if_pos hd] at e
   unfold gDefined gByWord
   simp[h15,hop,h,hd,e,isW_ne h (by decide:wFragment'≠wExtend')]
  ·rw[if_neg hd,show l.tail=(wordL l).tail by rw[hwl hd]] at e
   unfold gDefined gByWord
   simp[h15,hop,h,hd,e,isW_ne h (by decide:wFragment'≠wExtend')]
 have nFragment:isW wFragment' (wordL l)=false:=by simpa using h
 clear h
 by_cases h:isW wSchema' (wordL l)=true
 ·have hop:=isOp_ne h (by decide) (by decide) (by decide)
  have e:=gWord_at (g:=gSchema n) h
  by_cases hd:kd l=18∨kd l=19
  ·rw[if_pos hd] at e
   unfold gDefined gByWord
   simp[h15,hop,h,hd,isW_ne h (by decide:wSchema'≠wFragment'),isW_ne h (by decide:wSchema'≠wExtend')]
  ·rw[if_neg hd,show l.tail=(wordL l).tail by rw[hwl hd]] at e
   unfold gDefined gByWord
   simp[h15,hop,h,hd,e,isW_ne h (by decide:wSchema'≠wFragment'),isW_ne h (by decide:wSchema'≠wExtend')]
 have nSchema:isW wSchema' (wordL l)=false:=by simpa using h
 clear h
 by_cases h:isW wScalar' (wordL l)=true
 ·have hop:=isOp_ne h (by decide) (by decide) (by decide)
  have e:=gDf_at (g:=gScalar n) h
  unfold gDefined gByWord
  simp[h15,hop,h,e,isW_ne h (by decide:wScalar'≠wFragment'),isW_ne h (by decide:wScalar'≠wSchema'),isW_ne h (by decide:wScalar'≠wExtend')]
 have nScalar:isW wScalar' (wordL l)=false:=by simpa using h
 clear h
 by_cases h:isW wType' (wordL l)=true
 ·have hop:=isOp_ne h (by decide) (by decide) (by decide)
  have e:=gDf_at (g:=gObject n) h
  unfold gDefined gByWord
  simp[h15,hop,h,e,isW_ne h (by decide:wType'≠wFragment'),isW_ne h (by decide:wType'≠wSchema'),isW_ne h (by decide:wType'≠wScalar'),isW_ne h (by decide:wType'≠wExtend')]
 have nType:isW wType' (wordL l)=false:=by simpa using h
 clear h
 by_cases h:isW wInterface' (wordL l)=true
 ·have hop:=isOp_ne h (by decide) (by decide) (by decide)
  have e:=gDf_at (g:=gInterface n) h
  unfold gDefined gByWord
  simp[h15,hop,h,e,isW_ne h (by decide:wInterface'≠wFragment'),isW_ne h (by decide:wInterface'≠wSchema'),isW_ne h (by decide:wInterface'≠wScalar'),isW_ne h (by decide:wInterface'≠wType'),isW_ne h (by decide:wInterface'≠wExtend')]
 have nInterface:isW wInterface' (wordL l)=false:=by simpa using h
 clear h
 by_cases h:isW wUnion' (wordL l)=true
 ·have hop:=isOp_ne h (by decide) (by decide) (by decide)
  have e:=gDf_at (g:=gUnion n) h
  unfold gDefined gByWord
  simp[h15,hop,h,e,isW_ne h (by decide:wUnion'≠wFragment'),isW_ne h (by decide:wUnion'≠wSchema'),isW_ne h (by decide:wUnion'≠wScalar'),isW_ne h (by decide:wUnion'≠wType'),isW_ne h (by decide:wUnion'≠wInterface'),isW_ne h (by decide:wUnion'≠wExtend')]
 have nUnion:isW wUnion' (wordL l)=false:=by simpa using h
 clear h
 by_cases h:isW wEnum' (wordL l)=true
 ·have hop:=isOp_ne h (by decide) (by decide) (by decide)
  have e:=gDf_at (g:=gEnum n) h
  unfold gDefined gByWord
  simp[h15,hop,h,e,isW_ne h (by decide:wEnum'≠wFragment'),isW_ne h (by decide:wEnum'≠wSchema'),isW_ne h (by decide:wEnum'≠wScalar'),isW_ne h (by decide:wEnum'≠wType'),isW_ne h (by decide:wEnum'≠wInterface'),isW_ne h (by decide:wEnum'≠wUnion'),isW_ne h (by decide:wEnum'≠wExtend')]
 have nEnum:isW wEnum' (wordL l)=false:=by simpa using h
 clear h
 by_cases h:isW wInput' (wordL l)=true
 ·have hop:=isOp_ne h (by decide) (by decide) (by decide)
  have e:=gDf_at (g:=gInputObj n) h
  unfold gDefined gByWord
  simp[h15,hop,h,e,isW_ne h (by decide:wInput'≠wFragment'),isW_ne h (by decide:wInput'≠wSchema'),isW_ne h (by decide:wInput'≠wScalar'),isW_ne h (by decide:wInput'≠wType'),isW_ne h (by decide:wInput'≠wInterface'),isW_ne h (by decide:wInput'≠wUnion'),isW_ne h (by decide:wInput'≠wEnum'),isW_ne h (by decide:wInput'≠wExtend')]
 have nInput:isW wInput' (wordL l)=false:=by simpa using h
 clear h
 by_cases h:isW wDirective' (wordL l)=true
 ·have hop:=isOp_ne h (by decide) (by decide) (by decide)
  have e:=gDf_at (g:=gDirDef n) h
  unfold gDefined gByWord
  simp[h15,hop,h,e,isW_ne h (by decide:wDirective'≠wFragment'),isW_ne h (by decide:wDirective'≠wSchema'),isW_ne h (by decide:wDirective'≠wScalar'),isW_ne h (by decide:wDirective'≠wType'),isW_ne h (by decide:wDirective'≠wInterface'),isW_ne h (by decide:wDirective'≠wUnion'),isW_ne h (by decide:wDirective'≠wEnum'),isW_ne h (by decide:wDirective'≠wInput'),isW_ne h (by decide:wDirective'≠wExtend')]
 have nDirective:isW wDirective' (wordL l)=false:=by simpa using h
 clear h
 by_cases h:isW wExtend' (wordL l)=true
 ·have hop:=isOp_ne h (by decide) (by decide) (by decide)
  have e:=gWord_at (g:=gExtend n) h
  by_cases hd:kd l=18∨kd l=19
  ·rw[if_pos hd] at e
   unfold gDefined gByWord
   simp[h15,hop,h,hd,e,isW_ne h (by decide:wExtend'≠wFragment'),isW_ne h (by decide:wExtend'≠wSchema'),isW_ne h (by decide:wExtend'≠wScalar'),isW_ne h (by decide:wExtend'≠wType'),isW_ne h (by decide:wExtend'≠wInterface'),isW_ne h (by decide:wExtend'≠wUnion'),isW_ne h (by decide:wExtend'≠wEnum'),isW_ne h (by decide:wExtend'≠wInput')]
  ·rw[if_neg hd,show l.tail=(wordL l).tail by rw[hwl hd]] at e
   unfold gDefined gByWord
   simp[h15,hop,h,hd,e,isW_ne h (by decide:wExtend'≠wFragment'),isW_ne h (by decide:wExtend'≠wSchema'),isW_ne h (by decide:wExtend'≠wScalar'),isW_ne h (by decide:wExtend'≠wType'),isW_ne h (by decide:wExtend'≠wInterface'),isW_ne h (by decide:wExtend'≠wUnion'),isW_ne h (by decide:wExtend'≠wEnum'),isW_ne h (by decide:wExtend'≠wInput'),isW_ne h (by decide:wExtend'≠wDirective')]
 have nExtend:isW wExtend' (wordL l)=false:=by simpa using h
 clear h
 by_cases hop:isOp (wordL l)=true
 ·by_cases hd:kd l=18∨kd l=19
  ·have hno:isOp l=false:=by
    cases h:isOp l with
    |false=>rfl
    |true=>have:=isOp_kd h;omega
   have e:gOpDef n l=some (false,l):=by
    unfold gOpDef
    rw[if_neg h12]
    unfold gOperation gThen gOpWord
    rw[if_neg (by rw[hno];decide)]
   unfold gDefined gByWord
   simp[h15,hop,hd,e,nFragment,nExtend]
  ·have e:gOpDef n l=gOperation n l:=by
    unfold gOpDef
    rw[if_neg h12]
   unfold gDefined gByWord
   rw[hwl hd] at*
   simp[h15,hop,e,nFragment,nExtend]
 have nop:isOp (wordL l)=false:=by simpa using hop
 unfold gDefined gByWord
 simp[h15,nop,nFragment,nSchema,nScalar,nType,nInterface,nUnion,nEnum,nInput,nDirective,nExtend]
theorem tsdR {E:PEnv} (n:Nat) {H:Heap} {l:List PTk} (px:PX E H l) (hne:l≠ []) (h12:kd l≠12) {res:Bool×List PTk} (hg:gDefinition n l=some res):
 Fn PP fq37 #[(.pointer (some ⟨E.p,0,none⟩))] H (PostX E H vF vIe (fun b=>b) (fun _ _=>True) res):=by
 rw[gDefinition_word h12] at hg
 unfold gByWord at hg
 by_cases h15:kd (wordL l)≠15
 ·rw[if_pos h15] at hg
  exact tsd_no px hne (fun h=>absurd h h15) (Option.some.inj hg).symm
 rw[if_neg h15] at hg
 have h15:kd (wordL l)=15:=by simpa using h15
 have hz:zzF (wordL l)=zzF (wordL l):=rfl
 conv at hz=>rhs;unfold zzF
 by_cases h1:isW wFragment' (wordL l)=true
 ·rw[if_pos h1] at hg hz
  exact tsd_yes px hne (parseFragmentDefinitionR E n) parseTSDX_parseFragmentDefinition.enter h15 hz hg
 rw[if_neg h1] at hg hz
 by_cases h2:isOp (wordL l)=true
 ·rw[if_pos h2] at hg hz
  exact tsd_yes px hne (parseOperationDefinitionR E n) parseTSDX_parseOperationDefinition.enter h15 hz hg
 rw[if_neg h2] at hg hz
 by_cases h3:isW wSchema' (wordL l)=true
 ·rw[if_pos h3] at hg hz
  have hg3:=(if_none hg).2
  exact tsd_yes px hne (parseSchemaDefinitionR E n) parseTSDX_parseSchemaDefinition.enter h15 hz hg3
 rw[if_neg h3] at hg hz
 by_cases h4:isW wScalar' (wordL l)=true
 ·rw[if_pos h4] at hg hz
  exact tsd_yes px hne (parseScalarTypeDefinitionR E n) parseTSDX_parseScalarTypeDefinition.enter h15 hz hg
 rw[if_neg h4] at hg hz
 by_cases h5:isW wType' (wordL l)=true
 ·rw[if_pos h5] at hg hz
  exact tsd_yes px hne (parseObjectTypeDefinitionR E n) parseTSDX_parseObjectTypeDefinition.enter h15 hz hg
 rw[if_neg h5] at hg hz
 by_cases h6:isW wInterface' (wordL l)=true
 ·rw[if_pos h6] at hg hz
  exact tsd_yes px hne (parseInterfaceTypeDefinitionR E n) parseTSDX_parseInterfaceTypeDefinition.enter h15 hz hg
 rw[if_neg h6] at hg hz
 by_cases h7:isW wUnion' (wordL l)=true
 ·rw[if_pos h7] at hg hz
  exact tsd_yes px hne (parseUnionTypeDefinitionR E n) parseTSDX_parseUnionTypeDefinition.enter h15 hz hg
 rw[if_neg h7] at hg hz
 by_cases h8:isW wEnum' (wordL l)=true
 ·rw[if_pos h8] at hg hz
  exact tsd_yes px hne (parseEnumTypeDefinitionR E n) parseTSDX_parseEnumTypeDefinition.enter h15 hz hg
 rw[if_neg h8] at hg hz
 by_cases h9:isW wInput' (wordL l)=true
 ·rw[if_pos h9] at hg hz
  exact tsd_yes px hne (parseInputObjectTypeDefinitionR E n) parseTSDX_parseInputObjectTypeDefinition.enter h15 hz hg
 rw[if_neg h9] at hg hz
 by_cases h10:isW wExtend' (wordL l)=true
 ·rw[if_pos h10] at hg hz
  exact tsd_yes px hne (parseTypeExtensionDefinitionR E n) parseTSDX_parseTypeExtensionDefinition.enter h15 hz hg
 rw[if_neg h10] at hg hz
 by_cases h11:isW wDirective' (wordL l)=true
 ·rw[if_pos h11] at hg hz
  exact tsd_yes px hne (parseDirectiveDefinitionR E n) parseTSDX_parseDirectiveDefinition.enter h15 hz hg
 rw[if_neg h11] at hg hz
 exact tsd_no px hne (fun _=>hz) (Option.some.inj hg).symm
theorem skipEndX {E:PEnv} {H:Heap} {l:List PTk} {K:Bool→Heap→Prop} (px:PX E H l) (hne:l≠ []) (hn:K false H):
 callW PP fq35 #[.pointer (some ⟨E.p,0,none⟩),.int .i64 1] H ⟨Bool,fun x=> .tuple #[.bool x,.nilIface]⟩ K:=by
 have hk:kd l≠1:=by
  rcases px.p with⟨pe,en,h0,_⟩|⟨pe,t',v,en,r',hl,hv,h1,_⟩
  ·exact absurd h0 hne
  ·rw[hl];exact h1
 refine(show Fn PP _ _ H fun v H'=>v= .tuple #[.bool false,.nilIface]∧H'=H from ?_).mono ?_
 ·refine skip.enter _ _ H _ ?_
  unfold skip.W
  exact⟨_,px.kind,fkI (fun hh=>absurd (by simpa using hh) hk) (fun _=>rkI ⟨rfl,rfl⟩)⟩
 ·rintro _ _ ⟨rfl,rfl⟩
  exact⟨false,rfl,hn⟩
def DocNo (E:PEnv) (A:Heap) (r:List PTk) (v:Value) (H:Heap):Prop:=Ext E.S A H∧ ∃b,v=vBe b∧ErrX E b r H
theorem parseDocumentR {E:PEnv} {H:Heap} {l r:List PTk} (px:PX E H l) (hg:gDocument l=some (false,r)):Fn PP fq17 #[.pointer (some ⟨E.p,0,none⟩)] H (DocNo E H r):=by
 have hne:l≠ []:=fun h=>by unfold gDocument at hg;rw[if_pos h] at hg;cases hg
 have hg1:gDocGo 60 (l.length+1) l=some (false,r):=by unfold gDocument at hg;rw[if_neg hne] at hg;exact hg
 have hlen:=px.n
 refine parseDocumentX.enter _ H _ ?_
 unfold parseDocumentX.W
 refine⟨_,px.start,?_⟩
 refine⟨fun z H'=> ∃(f:Nat) (l':List PTk) (bs:List (Nat×Nat)),gDocGo 60 f l'=some (false,r)∧bs.length+f≤1001∧LstX E H H' l' tq92 z.1 ifV bs,fun z _=>1001 -z.1.2.1,⟨l.length+1,l,[],hg1,by simpa using hlen,LstX.nil E px _ _⟩,?_⟩
 rintro⟨⟨a,m,c⟩,_⟩ H1 ⟨f,l',bs,hgf,hbf,lx⟩
 have hml:=lx.len
 dsimp only at hml lx
 cases f with
 |zero=>cases hgf
 |succ f=>
 have hne':l'≠ []:=fun h=>by
  have h2:gDocGo 60 (f+1) l'=some (true,[]):=by
   show(if l'=[] then _ else _)=_
   rw[if_pos h]
  rw[h2] at hgf;cases hgf
 have hg2:gThen (gDefinition 60) (gDocGo 60 f) l'=some (false,r):=by
  have h2:gDocGo 60 (f+1) l'=gThen (gDefinition 60) (gDocGo 60 f) l':=by
   show(if l'=[] then _ else _)=_
   rw[if_neg hne']
  rw[←h2];exact hgf
 have px1:=lx.px
 refine skipEndX px1 hne' ?_
 refine fkI (fun h=>by cases h) (fun _=>?_)
 refine⟨_,px1.kind,?_⟩
 -- one more, or the refusal
 have item: ∀ {x:Bool×List PTk} {f':FuncId} (_:gDefinition 60 l'=some x) (_:Fn PP f' #[.pointer (some ⟨E.p,0,none⟩)] H1 (PostX E H1 vF vIe (fun b=>b) (fun _ _=>True) x)),
  call2W PP f' #[(.pointer (some ⟨E.p,0,none⟩))] H1 ⟨(Nat×Nat),fun x=>(.tuple #[(.iface x.1 (.pointer (some ⟨x.2,0,none⟩))),.nilIface])⟩ ⟨Nat,fun x=>(.tuple #[.nilIface,(.iface tq49 (.pointer (some ⟨x,0,none⟩)))])⟩ (fun(x14:(Nat×Nat)) H16=>
   newB H16 (.cells #[(.iface x14.1 (.pointer (some ⟨x14.2,0,none⟩)))] tq92) fun b17 H18=>
   appK H18 tq92 1 16 a m c (some ⟨b17,0,none⟩) 1 fun a19 c20 H21=>
   (∃(f:Nat) (l':List PTk) (bs:List (Nat×Nat)),gDocGo 60 f l'=some (false,r)∧bs.length+f≤1001∧LstX E H H21 l' tq92 (a19,(m+1),c20) ifV bs)∧1001 -(m+1)<1001 -m)
  (fun(e15:Nat) H16=>
    retK (some [(.pointer none),(.iface tq49 (.pointer (some ⟨e15,0,none⟩)))]) H16 (DocNo E H r)):=by
  intro x f' hx hf
  refine hf.mono ?_
  rintro v H2 ⟨y2,⟨h,z,rfl,hp,_⟩|⟨h,z,rfl,he⟩⟩
  ·refine .inl ⟨z,rfl,?_⟩
   obtain⟨x1,x2⟩:=x
   have h':x1=true:=h
   subst h'
   have hg3:gDocGo 60 f x2=some (false,r):=by rw[gThen_t hx] at hg2;exact hg2
   have l2:=lx.step y2 hp
   refine l2.push (b:=z) (by unfold plainT;decide) (fun _=>rfl) 16 (by omega) (by omega) fun ad cc H3 l3=>?_
   exact⟨⟨f,x2,bs++[z],hg3,by simp;omega,l3⟩,by omega⟩
  ·refine .inr ⟨z,rfl,?_⟩
   obtain⟨x1,x2⟩:=x
   have h':x1=false:=h
   subst h'
   have hg3:x2=r:=by rw[gThen_f hx] at hg2;exact(Prod.mk.inj (Option.some.inj hg2)).2
   subst hg3
   exact rkI ⟨lx.ext.trans y2,z,rfl,he⟩
 obtain⟨x,hx⟩: ∃x,gDefinition 60 l'=some x:=by
  cases h:gDefinition 60 l' with
  |none=>unfold gThen at hg2;rw[h] at hg2;cases hg2
  |some x=>exact⟨x,rfl⟩
 refine fkI (fun h12=>?_) (fun h12=>?_)
 ·have h12':kd l'=12:=by simpa using h12
  refine item hx ?_
  have hx':gOpDef 60 l'=some x:=by
   unfold gDefinition at hx
   rw[if_pos h12'] at hx
   unfold gOpDef
   rw[if_pos h12']
   exact hx
  refine(parseOperationDefinitionR E 60 H1 l' x px1 hx').mono ?_
  rintro v H2 ⟨y2,⟨h,z,rfl,hp,_⟩|⟨h,z,rfl,he⟩⟩
  ·exact⟨y2,.inl ⟨h,(tq122,z),rfl,hp,trivial⟩⟩
  ·exact⟨y2,.inr ⟨h,z,rfl,he⟩⟩
 have h12':kd l'≠12:=by simpa using h12
 refine fkI (fun h15=>item hx (tsdR 60 px1 hne' h12' hx)) (fun h15=>?_)
 refine fkI (fun h18=>item hx (tsdR 60 px1 hne' h12' hx)) (fun h18=>?_)
 refine fkI (fun h19=>item hx (tsdR 60 px1 hne' h12' hx)) (fun h19=>?_)
 have h15':kd l'≠15:=by simpa using h15
 have h18':kd l'≠18:=by simpa using h18
 have h19':kd l'≠19:=by simpa using h19
 have hx2:x=(false,l'):=by
  unfold gDefinition at hx
  rw[if_neg h12',if_neg (by omega)] at hx
  unfold gDefined at hx
  rw[if_pos h15'] at hx
  exact(Option.some.inj hx).symm
 have hr:r=l':=by
  rw[hx2] at hx
  rw[gThen_f hx] at hg2
  exact(Prod.mk.inj (Option.some.inj hg2)).2.symm
 subst hr
 exact unexpX px1 tok0 (.inl ⟨rfl,rfl⟩) fun b H3 x3 he=>rkI ⟨lx.ext.trans x3.of_nil,b,rfl,he⟩
theorem makeParserX_ok (S:Src) (H:Heap) (hS:SrcAt S H) (l:List PTk) (hn:l.length≤1000) (hr:RestX S l 0):
 Fn PP fq16 #[.pointer (some ⟨S.src,0,none⟩),.agg #[.bool false,.bool false]] H fun v H'=> ∃E:PEnv,E.toSrc=S∧v= .tuple #[.pointer (some ⟨E.p,0,none⟩),.nilIface]∧PX E H' l∧Ext [] H H'∧H.size≤E.p∧H.size≤E.prev:=by
 obtain⟨k,V,st,en,hx,hfin⟩: ∃(k:Int) (V:ByteArray→Prop) (st en:Nat),LxX S 0 k V st en∧ ∀(E:PEnv) (G:Heap) (w:ByteArray),E.toSrc=S→V w→LS E G→G[E.p]?=some (E.obj 0 (k,w) st en)→PX E G l:=by
  cases l with
  |nil=>
   obtain⟨en',hx⟩:=hr
   exact⟨1,_,S.text.size,en',hx,fun E G w hE hw ls hg=>⟨ls,.inl ⟨0,en',rfl,by subst hE;rw[hw] at hg;exact hg⟩,hn⟩⟩
  |cons t2 r2=>
   obtain⟨en2,hne,hle2,hx,hr2⟩:=hr
   exact⟨t2.1,_,t2.2.2,en2,hx,fun E G w hE hw ls hg=>⟨ls,.inr ⟨0,t2,w,en2,r2,rfl,hw,hne,hg,hx.2.2.1,by subst hE;exact hle2,by subst hE;exact hr2⟩,hn⟩⟩
 refine makeParser.enter _ H _ ?_
 unfold makeParser.W
 refine nbI fun H1 e1 hb1 x1 s1=>?_
 refine(LexI_ok H1 S.src).mono ?_
 rintro _ H2 ⟨p,s,rfl,x2,hs2,hp2,hp⟩
 refine⟨(p,s),rfl,?_⟩
 dsimp only
 let E0:PEnv:= {S with p:=p,prev:=p,srcb:=s}
 have hbl:S.body<H.size:=by
  obtain⟨_,_,hb,_⟩:=hS.body
  exact lt_of_get hb
 have z1:=x1.size
 have ls:LS E0 H2:=⟨⟨0,hp2⟩,hs2,(hS.ext x1).ext x2,by show S.body<p∧S.body<p;omega⟩
 refine(LexI1_X ls 0 0 (k:=k) (V:=V) (st:=st) (en:=en) hx (.inr ⟨rfl,hp2⟩)).mono ?_
 rintro _ H3 ⟨u,hu,rfl,x3,n3,hn3⟩
 refine⟨(k,(st:Int),(en:Int),u),rfl,?_⟩
 dsimp only
 have hb13:=x3.get _ _ (x2.get _ _ hb1 (by simp)) (ne_mem (show H.size≠p by omega))
 refine nbI fun H4 e4 hb4 x4 s4=>?_
 refine swI hb4 (by simp) rfl rfl fun H5 e5 hb5 x5 s5=>?_
 have hb5':H5[H3.size]?=some (.cells #[.int .i64 k,.int .i64 st,.int .i64 en,.string u] tq87):=hb5
 have y5:Ext [] H3 H5:=by rw[e5];exact x4.setNew (Nat.le_refl _) _
 have hb15:=y5.get _ _ hb13 (by simp)
 refine⟨(false,false),lcO hb15 rfl,(k,(st:Int),(en:Int),u),lcO hb5' rfl,?_⟩
 dsimp only
 refine nbI fun H6 e6 hb6 x6 s6=>?_
 let E:PEnv:= {S with p:=H5.size,prev:=p,srcb:=s}
 have y6:=y5.trans x6
 have k3:Ext [] H H3:=⟨by have:=x1.size;have:=x2.size;have:=x3.size;omega,fun k o ho _=>x3.get _ _ (x2.get _ _ (x1.get _ _ ho (by simp)) (by simp)) (ne_mem (by show k≠p;have:=lt_of_get ho;omega))⟩
 have lsE:LS E H6:=⟨⟨n3,y6.get _ _ hn3 (by simp)⟩,y6.get _ _ (x3.get _ _ hs2 (ne_mem (cells_ne hs2 hp2 (by decide)))) (by simp),(hS.ext k3).ext y6,by have:=k3.size;have:=y5.size;show S.body<H5.size∧S.body<p;omega⟩
 refine rkI ⟨E,rfl,rfl,hfin E H6 u rfl hu lsE hb6,k3.trans y6,?_,?_⟩
 ·show H.size≤H5.size
  have:=k3.size;have:=y5.size;omega
 ·show H.size≤p
  omega
theorem ParseX_ok (text:ByteArray) (hsm:text.size<268435456) (l r:List PTk) (hn:l.length≤1000) (hr: ∀S:Src,S.text=text→RestX S l 0) (H:Heap) (hT:TabsAt H.size H) (hg:gDocument l=some (false,r)):
 Fn PP fq10 #[(.agg #[(.iface tq9 (.string text)),(.bool false),(.bool false)])] H fun v H'=>Ext [] H H'∧ ∃b,v=vBe b∧ErrAt b (locM text (startOf text r)).1 (locM text (startOf text r)).2 H':=by
 refine ParseX.enter text H _ ?_
 unfold ParseX.W
 refine nbI fun H0 e0 hb0 x0 s0=>?_
 refine⟨text,lcO hb0 rfl,text,lcO hb0 rfl,?_⟩
 dsimp only
 rintro cap _ H1 hcap rfl e1
 have x1:Ext [] H0 H1:=by rw[e1];exact Ext.push _ _ _
 have s1:H1.size=H0.size+1:=by rw[e1];simp
 have hb1:H1[H0.size]?=some (.cells (bytesRow text cap) tq5 ((bytesRow text cap).size,(bytesRow text cap).size+1)):=by rw[e1];exact get_push_new _ _
 refine nbI fun H2 e2 hb2 x2 s2=>?_
 refine(NewSource_ok H2 H1.size H0.size text.size cap hb2).mono ?_
 rintro _ H3 ⟨rfl,x3,nm,hb3⟩
 refine⟨H1.size,rfl,?_⟩
 dsimp only
 have hb13:=x3.get _ _ (x2.get _ _ hb1 (by simp)) (ne_mem (by omega))
 have hb03:=x3.get _ _ (x2.get _ _ (x1.get _ _ hb0 (by simp)) (by simp)) (ne_mem (by omega))
 let S:Src:=⟨H1.size,H0.size,cap,text⟩
 have hS:SrcAt S H3:=by
  refine⟨⟨nm,_,hb3⟩,⟨_,_,hb13,?_,fun i hi=>?_⟩,hcap,hsm,hT.keep (by show H.size≤H0.size;omega) fun k o hk ho=>x3.get _ _ (x2.get _ _ (x1.get _ _ (x0.get _ _ ho (by simp)) (by simp)) (by simp)) (ne_mem (by omega))⟩
  ·show text.size≤_
   simp[bytesRow]
  ·have hi':i<text.data.size:=by simpa using hi
   rw[bytesRow_at text cap i hi']
   have e:((i:Nat):Int).toNat=i:=by omega
   simp only[bt,S]
   rw[e,Array.getElem?_eq_getElem hi']
   rfl
 have y3:Ext [] H H3:=⟨by have:=x3.size;omega,fun k o ho _=>x3.get _ _ (x2.get _ _ (x1.get _ _ (x0.get _ _ ho (by simp)) (by simp)) (by simp)) (ne_mem (by have:=lt_of_get ho;omega))⟩
 refine⟨(false,false),lcO hb03 rfl,?_⟩
 dsimp only
 refine(makeParserX_ok S H3 hS l hn (hr S rfl)).mono ?_
 rintro _ H4 ⟨E,hE,rfl,px,x4,h1,h2⟩
 refine⟨E.p,rfl,?_⟩
 refine(parseDocumentR px hg).mono ?_
 rintro _ H5 ⟨y5,b,rfl,he⟩
 have hE2:E.text=text:=by rw[hE]
 refine .inr ⟨b,rfl,rkI ⟨?_,b,rfl,?_⟩⟩
 ·have y4:=y3.trans x4
  refine⟨by have:=y4.size;have:=y5.size;omega,fun k o ho _=>y5.get _ _ (y4.get _ _ ho (by simp)) ?_⟩
  have:=lt_of_get ho
  have:=y3.size
  simp only[PEnv.S,List.mem_cons,List.not_mem_nil,or_false,not_or]
  omega
 ·unfold ErrX at he
  rw[hE2] at he
  exact he
theorem Refused_ok (text:ByteArray) (ts:List Tk) (r:List PTk) (H:Heap) (hT:TabsAt H.size H) (ha:Ascii text) (h0:0<text.size) (hsz:text.size≤90000) (htok:TokFrom text 0 ts) (hlen:ts.length≤1000) (hg:gDocument (ts.map Tk.p)=some (false,r)):
 Fn PP fq7 #[.string text] H fun v H'=>Ext [] H H'∧v= .tuple #[.int .i64 ((locM text (startOf text r)).1:Nat),.int .i64 (locM text (startOf text r)).2,.bool true]:=by
 refine RefusedX.enter text H _ ?_
 unfold RefusedX.W
 refine(ParseX_ok text (by omega) (ts.map Tk.p) r (by simpa using hlen) (fun S hS=>by subst hS;exact rest_X ha hsz h0 ts 0 htok) H hT hg).mono ?_
 rintro _ H1 ⟨x1,b,rfl,src,lb,c,m1,m2,xs,ps,x3,x4,rr,hb,hlb,hr0,hr1⟩
 refine .inr ⟨b,rfl,?_⟩
 have hl:loadC H1 false 1 ⟨b,5,none⟩=some (.slice (some ⟨lb,0,none⟩) 1 c):=lcO hb rfl
 refine⟨(true,()),⟨(some ⟨lb,0,none⟩,1,c),hl,rfl,rfl⟩,?_⟩
 refine fkI (fun _=>?_) (fun h=>by cases h)
 refine⟨(some ⟨lb,0,none⟩,1,c),hl,ix_some (by omega) (by dsimp only;omega),?_⟩
 refine⟨(((locM text (startOf text r)).1:Nat):Int),lcO hlb hr0,(some ⟨lb,0,none⟩,1,c),hl,ix_some (by omega) (by dsimp only;omega),?_⟩
 exact⟨(locM text (startOf text r)).2,lcO hlb hr1,rkI ⟨x1,rfl⟩⟩
def Tk.sh (k:Nat) (t:Tk):Tk:=⟨t.kind,t.value,k+t.start,k+t.stop⟩
section
variable {pre s:ByteArray}
theorem sh_size:(pre++s).size=pre.size+s.size:=ByteArray.size_append
theorem bt_sh (i:Nat):bt (pre++s) ((pre.size+i:Nat):Int)=bt s (i:Int):=by
 unfold bt
 have e1:(((pre.size+i:Nat):Int)).toNat=pre.size+i:=by omega
 have e2:((i:Nat):Int).toNat=i:=by omega
 rw[e1,e2,ByteArray.data_append,Array.getElem?_append_right (by show pre.data.size≤_;have:pre.data.size=pre.size:=rfl;omega)]
 have e3:pre.size+i -pre.data.size=i:=by have:pre.data.size=pre.size:=rfl;omega
 rw[e3]
theorem nextM_sh (i:Nat):nextM (pre++s) (pre.size+i)=nextM s i:=by
 unfold nextM
 rw[sh_size,bt_sh]
 by_cases h:s.size≤i
 ·rw[if_pos h,if_pos (by omega)]
 ·rw[if_neg h,if_neg (by omega)]
theorem extract_sh (a b:Nat):(pre++s).extract (pre.size+a) (pre.size+b)=s.extract a b:=by
 apply ByteArray.ext
 rw[ByteArray.data_extract,ByteArray.data_extract,ByteArray.data_append]
 apply Array.ext'
 have e:pre.data.toList.length=pre.size:=rfl
 simp only[Array.toList_extract,List.extract_eq_take_drop]
 have e2:(pre.data++s.data).toList=pre.data.toList++s.data.toList:=by simp
 rw[e2,List.drop_append,List.drop_of_length_le (by omega),List.nil_append,e]
 congr 1
 ·omega
 ·congr 1;omega
theorem startsM_sh (a:Nat) (t:ByteArray):startsM (pre++s) (pre.size+a) t=startsM s a t:=by
 unfold startsM
 rw[sh_size,Nat.add_assoc,extract_sh]
 congr 1
 by_cases h:a+t.size≤s.size
 ·rw[decide_eq_true h,decide_eq_true (by omega)]
 ·rw[decide_eq_false h,decide_eq_false (by omega)]
theorem digits_sh {i j:Nat} (h:DigitsTo s i j):DigitsTo (pre++s) (pre.size+i) (pre.size+j):=by
 obtain⟨h1,h2,h3⟩:=h
 refine⟨by omega,fun k hk hk2=>?_,by rw[nextM_sh];exact h3⟩
 obtain⟨q,rfl⟩: ∃q,k=pre.size+q:=⟨k -pre.size,by omega⟩
 rw[nextM_sh]
 exact h2 q (by omega) (by omega)
theorem num_sh {i j:Nat} {kind:Int} (h:Num s i kind j):Num (pre++s) (pre.size+i) kind (pre.size+j):=by
 obtain⟨a,b,k1,c,h1,h2,h3,h4,h5,h6⟩:=h
 refine⟨pre.size+a,pre.size+b,k1,pre.size+c,?_,digits_sh h2,by omega,?_,?_,?_⟩
 ·rw[nextM_sh,h1]
  split<;>omega
 ·rw[bt_sh]
  rintro⟨h,h'⟩
  exact h4 ⟨h,by omega⟩
 ·rcases h5 with⟨h,h',h'',h3⟩|⟨h,h',h''⟩
  ·exact .inl ⟨by rw[nextM_sh];exact h,h',by have:=digits_sh (pre:=pre) h'';rw[show pre.size+b+1=pre.size+(b+1) by omega];exact this,by omega⟩
  ·exact .inr ⟨by rw[nextM_sh];exact h,h',by omega⟩
 ·rcases h6 with⟨h,h',e,he,hd,hlt⟩|⟨h,h',h''⟩
  ·refine .inl ⟨by rw[nextM_sh];exact h,h',pre.size+e,?_,digits_sh hd,by omega⟩
   rw[show pre.size+c+1=pre.size+(c+1) by omega,nextM_sh,he]
   split<;>omega
  ·exact .inr ⟨by rw[nextM_sh];exact h,h',by omega⟩
theorem bt_sh1 (p j:Nat):bt (pre++s) ((pre.size+p+j:Nat):Int)=bt s ((p+j:Nat):Int):=by
 rw[Nat.add_assoc,bt_sh]
theorem str_sh {p e:Nat} (h:StrFrom s p e):StrFrom (pre++s) (pre.size+p) (pre.size+e):=by
 induction h with
 |close p h1 h2=>exact .close _ (by rw[sh_size];omega) (by rw[bt_sh];exact h2)
 |char p e h1 h2 h3 h4 _ ih=>exact .char _ _ (by rw[sh_size];omega) (by rw[bt_sh];exact h2) (by rw[bt_sh];exact h3) (by rw[bt_sh];exact h4) ih
 |esc p e h1 h2 h3 _ ih=>exact .esc _ _ (by rw[sh_size];omega) (by rw[bt_sh];exact h2) (by rw[bt_sh1];exact h3) ih
 |hex p e h1 h2 h3 h4 _ ih=>exact .hex _ _ (by rw[sh_size];omega) (by rw[bt_sh];exact h2) (by rw[bt_sh1];exact h3) (fun j hj=>by rw[show pre.size+p+2+j=pre.size+p+(2+j) by omega,bt_sh1,show p+(2+j)=p+2+j by omega];exact h4 j hj) ih
theorem blk_sh {p e:Nat} (h:BlkFrom s p e):BlkFrom (pre++s) (pre.size+p) (pre.size+e):=by
 induction h with
 |close p h1=>exact .close _ (by rw[startsM_sh];exact h1)
 |char p e h1 h2 h3 h4 _ ih=>exact .char _ _ (by rw[sh_size];omega) (by rw[startsM_sh];exact h2) (by rw[bt_sh];exact h3) (by rw[startsM_sh];exact h4) ih
theorem cm_sh {p e:Nat} (h:CmFrom s p e):CmFrom (pre++s) (pre.size+p) (pre.size+e):=by
 induction h with
 |stop p h1=>exact .stop _ (by rw[sh_size,bt_sh];exact h1.elim (fun h=> .inl (by omega)) .inr)
 |char p e h1 h2 _ ih=>exact .char _ _ (by rw[sh_size];omega) (by rw[bt_sh];exact h2) ih
theorem tk_sh {t:Tk} (h:TkFull s t):TkFull (pre++s) (t.sh pre.size):=by
 cases h with
 |dots p h1=>exact .dots (pre.size+p) (by rw[startsM_sh];exact h1)
 |sign p h1 h2=>
  have:=TkFull.sign (s:=pre++s) (pre.size+p) (by rw[sh_size];omega) (by rw[bt_sh];exact h2)
  rw[bt_sh] at this
  exact this
 |name p e h1 h2 h3 h4 h5=>
  have:=TkFull.name (s:=pre++s) (pre.size+p) (pre.size+e) (by omega) (by rw[sh_size];omega) (by rw[bt_sh];exact h3) (fun j hj hj2=>by
   obtain⟨q,rfl⟩: ∃q,j=pre.size+q:=⟨j -pre.size,by omega⟩
   rw[bt_sh];exact h4 q (by omega) (by omega)) (by rw[nextM_sh];exact h5)
  rw[extract_sh] at this
  exact this
 |num k p e h1 h2 h3 h4 h5 h6=>
  have:=TkFull.num (s:=pre++s) k (pre.size+p) (pre.size+e) h1 (num_sh h2) (by omega) (by rw[sh_size];omega) (by rw[nextM_sh];exact h5) (by rw[nextM_sh];exact h6)
  rw[extract_sh] at this
  exact this
 |str v p e h1 h2 h3 h4=>exact .str v (pre.size+p) (pre.size+e) (by rw[sh_size];omega) (by rw[bt_sh];exact h2) (by rw[startsM_sh];exact h3) (str_sh h4)
 |blk v p e h1 h2=>exact .blk v (pre.size+p) (pre.size+e) (by rw[startsM_sh];exact h1) (blk_sh h2)
theorem tok_sh {p:Nat} {ts:List Tk} (h:TokFrom s p ts):TokFrom (pre++s) (pre.size+p) (ts.map (Tk.sh pre.size)):=by
 induction h with
 |done=>
  have:=TokFrom.done (s:=pre++s)
  rw[sh_size] at this
  exact this
 |white p l h1 h2 _ ih=>exact .white _ _ (by rw[sh_size];omega) (by rw[bt_sh];exact h2) ih
 |comment p q l h1 h2 h3 _ ih=>exact .comment _ _ _ (by rw[sh_size];omega) (by rw[bt_sh];exact h2) (cm_sh h3) ih
 |tok t l h1 _ ih=>exact .tok (t.sh pre.size) _ (tk_sh h1) ih
theorem tok_behind {ts:List Tk} (h:TokFrom s 0 ts) (hp: ∀i:Nat,i<pre.size→bt (pre++s) (i:Int)=32∨bt (pre++s) (i:Int)=10):TokFrom (pre++s) 0 (ts.map (Tk.sh pre.size)):=by
 have key: ∀j,j≤pre.size→TokFrom (pre++s) (pre.size -j) (ts.map (Tk.sh pre.size)):=by
  intro j
  induction j with
  |zero=>intro _;exact tok_sh h
  |succ j ih=>
   intro hj
   have h1:=ih (by omega)
   rw[show pre.size -j=pre.size -(j+1)+1 by omega] at h1
   refine .white _ _ (by rw[sh_size];omega) ?_ h1
   rcases hp (pre.size -(j+1)) (by omega) with h|h
   ·exact .inl h
   ·exact .inr (.inr (.inl h))
 have:=key pre.size (Nat.le_refl _)
 rw[Nat.sub_self] at this
 exact this
end
def shp (k:Nat) (t:PTk):PTk:=(t.1,t.2.1,k+t.2.2)
def shr (k:Nat) (x:Bool×List PTk):Bool×List PTk:=(x.1,x.2.map (shp k))
def Nt (k:Nat) (g:Gr):Prop:= ∀l,g (l.map (shp k))=(g l).map (shr k)
section
variable {k:Nat}
theorem kd_sh (l:List PTk):kd (l.map (shp k))=kd l:=by cases l<;>rfl
theorem isW_sh (w:ByteArray) (l:List PTk):isW w (l.map (shp k))=isW w l:=by cases l<;>rfl
theorem isOp_sh (l:List PTk):isOp (l.map (shp k))=isOp l:=by unfold isOp;rw[isW_sh,isW_sh,isW_sh]
theorem tail_sh (l:List PTk):(l.map (shp k)).tail=l.tail.map (shp k):=by cases l<;>rfl
theorem nt_then {a b:Gr} (ha:Nt k a) (hb:Nt k b):Nt k (gThen a b):=by
 intro l
 unfold gThen
 rw[ha]
 cases h:a l with
 |none=>rfl
 |some x=>
  obtain⟨x1,x2⟩:=x
  cases x1 with
  |false=>rfl
  |true=>exact hb x2
theorem nt_if {p:List PTk→Prop} [∀l,Decidable (p l)] {a b:Gr} (hp: ∀l,p (l.map (shp k))↔p l) (ha:Nt k a) (hb:Nt k b):Nt k (fun l=>if p l then a l else b l):=by
 intro l
 show(if p (l.map (shp k)) then a (l.map (shp k)) else b (l.map (shp k)))=(if p l then a l else b l).map (shr k)
 by_cases h:p l
 ·rw[if_pos h,if_pos ((hp l).2 h)];exact ha l
 ·rw[if_neg h,if_neg fun h'=>h ((hp l).1 h')];exact hb l
theorem nt_tail {a:Gr} (ha:Nt k a):Nt k (fun l=>a l.tail):=by
 intro l
 show a (l.map (shp k)).tail=_
 rw[tail_sh];exact ha l.tail
theorem nt_end:Nt k (fun l=>some (true,l)):=fun _=>rfl
theorem nt_no:Nt k (fun l=>some (false,l)):=fun _=>rfl
theorem nt_none:Nt k (fun _=>none):=fun _=>rfl
theorem nt_next:Nt k (fun l=>some (true,l.tail)):=nt_tail nt_end
theorem kd_iff (c:Int): ∀l:List PTk,kd (l.map (shp k))=c↔kd l=c:=fun l=>by rw[kd_sh]
theorem w_iff (w:ByteArray) (b:Bool): ∀l:List PTk,isW w (l.map (shp k))=b↔isW w l=b:=fun l=>by rw[isW_sh]
theorem str_iff: ∀l:List PTk,(kd (l.map (shp k))=18∨kd (l.map (shp k))=19)↔(kd l=18∨kd l=19):=fun l=>by rw[kd_sh]
theorem nt_sign (c:Int):Nt k (gSign c):=nt_if (kd_iff c) nt_next nt_no
theorem nt_name:Nt k gName:=nt_sign 15
theorem nt_word (w:ByteArray):Nt k (gWord w):=nt_if (w_iff w true) nt_next nt_no
theorem nt_opt (c:Int):Nt k (gOpt c):=nt_if (kd_iff c) nt_next nt_end
theorem nt_many {it:Gr} (h:Nt k it) (c:Int): ∀n,Nt k (gMany it c n)
 |0=>nt_none
 |n+1=>nt_if (kd_iff c) nt_next (nt_then h (nt_many h c n))
theorem nt_loop {it:Gr} (h:Nt k it) (c:Int):Nt k (gLoop it c):=by
 intro l
 unfold gLoop
 rw[List.length_map]
 exact nt_many h c _ l
theorem nt_list {it:Gr} (h:Nt k it) (o c:Int):Nt k (gList o it c):=
 nt_if (kd_iff o) (nt_if (p:=fun l=>kd l.tail=c) (fun l=>by rw[tail_sh,kd_sh]) nt_no (nt_tail (nt_loop h c))) nt_no
theorem nt_body {it:Gr} (h:Nt k it) (o c:Int):Nt k (gBody o it c):=
 nt_if (p:=fun l=>kd l=o∧kd l.tail≠c) (fun l=>by rw[tail_sh,kd_sh,kd_sh]) (nt_tail (nt_loop h c)) nt_none
theorem nt_sep {it:Gr} (h:Nt k it) (c:Int): ∀n,Nt k (gSep it c n)
 |0=>nt_none
 |n+1=>nt_then h (nt_if (kd_iff c) (nt_tail (nt_sep h c n)) nt_end)
theorem nt_sepL {it:Gr} (h:Nt k it) (c:Int):Nt k (gSepL it c):=by
 intro l
 unfold gSepL
 rw[List.length_map]
 exact nt_sep h c _ l
theorem nt_text {a:Gr} (h:Nt k a):Nt k (gText a):=nt_if str_iff nt_none h
theorem nt_typed: ∀n,Nt k (gTyped n)
 |0=>nt_none
 |n+1=>nt_if (kd_iff 10) (nt_tail (nt_then (nt_typed n) (nt_if (kd_iff 11) (nt_tail (nt_opt 2)) nt_none))) (nt_if (kd_iff 15) (nt_tail (nt_opt 2)) nt_none)
theorem nt_value: ∀n c,Nt k (gValue n c)
 |0,_=>nt_none
 |n+1,c=>nt_if (kd_iff 3) (nt_if (p:=fun _=>c=true) (fun _=>Iff.rfl) nt_no (nt_tail nt_name))
  (nt_if (p:=fun l=>kd l=16∨kd l=17∨kd l=18∨kd l=19) (fun l=>by rw[kd_sh]) nt_next
    (nt_if (kd_iff 15) (nt_if (w_iff wNull true) nt_none nt_next)
      (nt_if (kd_iff 10) (nt_tail (nt_loop (nt_value n c) 11))
        (nt_if (kd_iff 12) (nt_tail (nt_loop (nt_then nt_name (nt_then (nt_sign 7) (nt_value n c))) 14)) nt_no))))
theorem nt_args (n:Nat):Nt k (gArgs n):=nt_if (kd_iff 4) (nt_list (nt_then nt_name (nt_then (nt_sign 7) (nt_value n false))) 4 5) nt_end
theorem nt_dirsGo (n:Nat): ∀f,Nt k (gDirsGo n f)
 |0=>nt_none
 |f+1=>nt_if (kd_iff 9) (nt_then (nt_then (nt_sign 9) (nt_then nt_name (nt_args n))) (nt_dirsGo n f)) nt_end
theorem nt_dirs (n:Nat):Nt k (gDirs n):=by
 intro l
 unfold gDirs
 rw[List.length_map]
 exact nt_dirsGo n _ l
theorem nt_spread (n:Nat) {sels:Gr} (hs:Nt k sels):Nt k (gSpread n sels):=
 nt_if (p:=fun l=>kd l=15∧isW wOn l=false) (fun l=>by rw[kd_sh,isW_sh]) (nt_tail (nt_dirs n))
  (nt_if str_iff nt_none (nt_if (w_iff wOn true) (nt_tail (nt_then nt_name (nt_then (nt_dirs n) hs))) (nt_then (nt_dirs n) hs)))
theorem nt_field (n:Nat) {sels:Gr} (hs:Nt k sels):Nt k (gField n sels):=
 nt_then nt_name (nt_then (nt_if (kd_iff 7) (nt_tail nt_name) nt_end) (nt_then (nt_args n) (nt_then (nt_dirs n) (nt_if (kd_iff 12) hs nt_end))))
theorem nt_sels: ∀n,Nt k (gSels n)
 |0=>nt_none
 |n+1=>nt_list (it:=gSel n (gSels n)) (nt_if (kd_iff 6) (nt_tail (nt_spread n (nt_sels n))) (nt_field n (nt_sels n))) 12 14
theorem nt_default (n:Nat):Nt k (gDefault n):=nt_if (kd_iff 8) (nt_tail (nt_value n true)) nt_end
theorem nt_vars (n:Nat):Nt k (gVars n):=
 nt_if (kd_iff 4) (nt_list (nt_then (nt_sign 3) (nt_then nt_name (nt_then (nt_sign 7) (nt_then (nt_typed n) (nt_then (nt_default n) (nt_if (kd_iff 9) nt_none nt_end)))))) 4 5) nt_end
theorem nt_descr:Nt k gDescr:=nt_if str_iff nt_next nt_end
theorem nt_inputs (n:Nat) (o c:Int):Nt k (gInputs n o c):=
 nt_body (nt_then nt_descr (nt_then nt_name (nt_then (nt_sign 7) (nt_then (nt_typed n) (nt_then (nt_default n) (nt_dirs n)))))) o c
theorem nt_inputsOpt (n:Nat):Nt k (gInputsOpt n):=nt_if (kd_iff 4) (nt_inputs n 4 5) nt_end
theorem nt_fields (n:Nat):Nt k (gFields n):=
 nt_body (nt_then nt_descr (nt_then nt_name (nt_then (nt_inputsOpt n) (nt_then (nt_sign 7) (nt_then (nt_typed n) (nt_dirs n)))))) 12 14
theorem nt_opWord:Nt k gOpWord:=nt_if (p:=fun l=>isOp l=true) (fun l=>by rw[isOp_sh]) nt_next nt_no
theorem nt_operation (n:Nat):Nt k (gOperation n):=nt_then nt_opWord (nt_then (nt_opt 15) (nt_then (nt_vars n) (nt_then (nt_dirs n) (nt_sels n))))
theorem nt_fragment (n:Nat):Nt k (gFragment n):=
 nt_if (w_iff wOn true) nt_no (nt_then nt_name (nt_if (kd_iff 4) nt_none (nt_text (nt_then (nt_word wOn) (nt_then nt_name (nt_then (nt_dirs n) (nt_sels n)))))))
theorem nt_schema (n:Nat):Nt k (gSchema n):=nt_then (nt_dirs n) (nt_list (nt_then nt_opWord (nt_then (nt_sign 7) nt_name)) 12 14)
theorem nt_scalar (n:Nat):Nt k (gScalar n):=nt_then nt_name (nt_dirs n)
theorem nt_impl:Nt k gImpl:=nt_text (nt_if (w_iff wImplements' true) (nt_tail (nt_then (nt_opt 20) (nt_sepL nt_name 20))) nt_end)
theorem nt_object (n:Nat):Nt k (gObject n):=nt_then nt_name (nt_then nt_impl (nt_then (nt_dirs n) (nt_fields n)))
theorem nt_interface (n:Nat):Nt k (gInterface n):=nt_then nt_name (nt_if (w_iff wImplements' true) nt_none (nt_then (nt_dirs n) (nt_fields n)))
theorem nt_union (n:Nat):Nt k (gUnion n):=
 nt_then nt_name (nt_then (nt_dirs n) (nt_if (p:=fun r=>kd r=8∧kd r.tail≠13) (fun l=>by rw[tail_sh,kd_sh,kd_sh]) (nt_tail (nt_sepL nt_name 13)) nt_none))
theorem nt_enum (n:Nat):Nt k (gEnum n):=nt_then nt_name (nt_then (nt_dirs n) (nt_body (nt_then nt_descr (nt_then nt_name (nt_dirs n))) 12 14))
theorem nt_inputObj (n:Nat):Nt k (gInputObj n):=nt_then nt_name (nt_then (nt_dirs n) (nt_inputs n 12 14))
theorem nt_dirDef (n:Nat):Nt k (gDirDef n):=
 nt_then (nt_sign 9) (nt_then nt_name (nt_then (nt_inputsOpt n) (nt_text (nt_if (w_iff wRepeatable true) nt_none (nt_then (nt_word wOn) (nt_if (kd_iff 13) nt_none (nt_sepL nt_name 13)))))))
theorem nt_extend (n:Nat):Nt k (gExtend n):=nt_if (w_iff wType' true) (nt_tail (nt_object n)) nt_none
theorem if_map {α β:Type} {c:Prop} [Decidable c] {f:α→β} {a b:Option β} {a' b':Option α} (ha:a=a'.map f) (hb:b=b'.map f):(if c then a else b)=(if c then a' else b').map f:=by
 by_cases h:c
 ·rw[if_pos h,if_pos h];exact ha
 ·rw[if_neg h,if_neg h];exact hb
theorem nt_defined (n:Nat) (l r:List PTk) (d:Bool):gDefined n (l.map (shp k)) (r.map (shp k)) d=(gDefined n l r d).map (shr k):=by
 unfold gDefined
 rw[kd_sh,isOp_sh,isW_sh,isW_sh,isW_sh,isW_sh,isW_sh,isW_sh,isW_sh,isW_sh,isW_sh,isW_sh,tail_sh]
 exact if_map rfl (if_map rfl (if_map (nt_operation n r) (if_map (nt_fragment n r.tail) (if_map (if_map rfl (nt_schema n r.tail)) (if_map (nt_scalar n r.tail) (if_map (nt_object n r.tail) (if_map (nt_interface n r.tail) (if_map (nt_union n r.tail) (if_map (nt_enum n r.tail) (if_map (nt_inputObj n r.tail) (if_map (nt_dirDef n r.tail) (if_map (nt_extend n r.tail) rfl))))))))))))
theorem nt_definition (n:Nat):Nt k (gDefinition n):=by
 intro l
 unfold gDefinition
 rw[kd_sh,tail_sh]
 exact if_map (nt_sels n l) (if_map (nt_defined n l l.tail true) (nt_defined n l l false))
theorem nt_docGo (n:Nat): ∀f,Nt k (gDocGo n f)
 |0=>nt_none
 |f+1=>by
  intro l
  cases l with
  |nil=>rfl
  |cons t r=>exact nt_then (nt_definition n) (nt_docGo n f) (t::r)
theorem nt_document:Nt k gDocument:=by
 intro l
 cases l with
 |nil=>rfl
 |cons t r=>
  show gDocGo 60 (((t::r).map (shp k)).length+1) ((t::r).map (shp k))=_
  rw[List.length_map]
  exact nt_docGo 60 _ (t::r)
end
theorem doc_sh {k:Nat} {l r:List PTk} (h:gDocument l=some (false,r)):gDocument (l.map (shp k))=some (false,r.map (shp k)):=by
 rw[nt_document l,h];rfl
theorem map_sh (k:Nat) (ts:List Tk):(ts.map (Tk.sh k)).map Tk.p=(ts.map Tk.p).map (shp k):=by
 rw[List.map_map,List.map_map]
 rfl
theorem start_sh (pre s:ByteArray) (r:List PTk):startOf (pre++s) (r.map (shp pre.size))=pre.size+startOf s r:=by
 cases r with
 |nil=>exact ByteArray.size_append
 |cons t r=>rfl
theorem leGo_nil {s:ByteArray} {i:Nat} (h:s.size≤i):leGo s i=[]:=by rw[leGo];simp[show ¬i<s.size by omega]
theorem leGo_step {s:ByteArray} {i:Nat} (h:i<s.size):leGo s i=if bt s i=13∧i+1<s.size∧bt s ((i+1:Nat):Int)=10 then(i,i+2)::leGo s (i+2) else if bt s i=13∨bt s i=10 then(i,i+1)::leGo s (i+1) else leGo s (i+1):=by
 rw[leGo];simp[h]
def shl (k:Nat) (p:Nat×Nat):Nat×Nat:=(k+p.1,k+p.2)
theorem leGo_sh (pre s:ByteArray): ∀(n i:Nat),s.size -i=n→leGo (pre++s) (pre.size+i)=(leGo s i).map (shl pre.size):=by
 intro n
 induction n using Nat.strongRecOn with
 |_ n ih=>
  intro i hn
  by_cases h:i<s.size
  ·rw[leGo_step h,leGo_step (by rw[sh_size];omega),bt_sh,Nat.add_assoc,bt_sh,sh_size]
   by_cases h1:bt s i=13∧i+1<s.size∧bt s ((i+1:Nat):Int)=10
   ·rw[if_pos h1,if_pos ⟨h1.1,by omega,h1.2.2⟩]
    rw[Nat.add_assoc,ih (s.size -(i+2)) (by omega) (i+2) rfl]
    rfl
   ·rw[if_neg h1,if_neg (fun h2=>h1 ⟨h2.1,by omega,h2.2.2⟩)]
    by_cases h2:bt s i=13∨bt s i=10
    ·rw[if_pos h2,if_pos h2,ih (s.size -(i+1)) (by omega) (i+1) rfl]
     rfl
    ·rw[if_neg h2,if_neg h2,ih (s.size -(i+1)) (by omega) (i+1) rfl]
  ·rw[leGo_nil (s:=s) (by omega),leGo_nil (s:=pre++s) (by rw[sh_size];omega)];rfl
theorem locGo_sh (k pos:Nat): ∀(l:List (Nat×Nat)) (line d:Nat) (col:Int),locGo (k+pos) (l.map (shl k)) (line+d) col=((locGo pos l line col).1+d,(locGo pos l line col).2)
 |[],_,_,_=>rfl
 |p::r,line,d,col=>by
  show(if k+p.1<k+pos then locGo (k+pos) (r.map (shl k)) (line+d+1) (((k+pos:Nat):Int)+1 -((k+p.2:Nat):Int)) else(line+d,col))=_
  have e:locGo pos (p::r) line col=if p.1<pos then locGo pos r (line+1) ((pos:Int)+1 -p.2) else(line,col):=rfl
  rw[e]
  by_cases h:p.1<pos
  ·rw[if_pos h,if_pos (by omega),show line+d+1=line+1+d by omega,show((k+pos:Nat):Int)+1 -((k+p.2:Nat):Int)=(pos:Int)+1 -p.2 by omega]
   exact locGo_sh k pos r (line+1) d _
  ·rw[if_neg h,if_neg (by omega)]
theorem locGo_line (pos:Nat): ∀(l:List (Nat×Nat)) (line:Nat) (col:Int),line≤(locGo pos l line col).1
 |[],_,_=>Nat.le_refl _
 |p::r,line,col=>by
  have e:locGo pos (p::r) line col=if p.1<pos then locGo pos r (line+1) ((pos:Int)+1 -p.2) else(line,col):=rfl
  rw[e]
  by_cases h:p.1<pos
  ·rw[if_pos h]
   have:=locGo_line pos r (line+1) ((pos:Int)+1 -p.2)
   omega
  ·rw[if_neg h];exact Nat.le_refl _
def repB (c:UInt8) (n:Nat):ByteArray:=⟨(List.replicate n c).toArray⟩
theorem repB_size (c:UInt8) (n:Nat):(repB c n).size=n:=by show(List.replicate n c).toArray.size=n;simp
theorem repB_succ (c:UInt8) (n:Nat):repB c n++bs [c]=repB c (n+1):=by
 apply ByteArray.ext
 rw[ByteArray.data_append]
 show(List.replicate n c).toArray++ #[c]=(List.replicate (n+1) c).toArray
 rw[List.replicate_succ']
 apply Array.ext'
 simp
theorem bt_rep (c:UInt8) (n:Nat) (s:ByteArray) (i:Nat) (h:i<n):bt (repB c n++s) (i:Int)=(c.toNat:Int):=by
 unfold bt
 have e2:((i:Nat):Int).toNat=i:=by omega
 rw[e2,ByteArray.data_append]
 have e3:(repB c n).data=(List.replicate n c).toArray:=rfl
 rw[e3,Array.getElem?_append_left (by simpa using h)]
 simp[h]
theorem leGo_feeds (n:Nat) (s:ByteArray): ∀j,j≤n→ ∀(line:Nat) (pos:Nat) (_col:Int),locGo (n+pos) (leGo (repB 10 n++s) (n -j)) line (((n+pos:Nat):Int)+1 -((n -j:Nat):Int))=locGo (n+pos) (leGo (repB 10 n++s) n) (line+j) ((pos:Int)+1):=by
 intro j
 induction j with
 |zero=>
  intro _ line pos _
  rw[Nat.sub_zero,show((n+pos:Nat):Int)+1 -(n:Int)=(pos:Int)+1 by omega];rfl
 |succ j ih=>
  intro hj line pos col
  have hsz:(repB 10 n++s).size=n+s.size:=by rw[sh_size,repB_size]
  have hb:bt (repB 10 n++s) ((n -(j+1):Nat):Int)=10:=bt_rep 10 n s _ (by omega)
  rw[leGo_step (by omega),hb,if_neg (by simp),if_pos (.inr rfl)]
  show(if n -(j+1)<n+pos then locGo (n+pos) (leGo (repB 10 n++s) (n -(j+1)+1)) (line+1) (((n+pos:Nat):Int)+1 -((n -(j+1)+1:Nat):Int)) else _)=_
  rw[if_pos (by omega),show n -(j+1)+1=n -j by omega,ih (by omega) (line+1) pos col,show line+1+j=line+(j+1) by omega]
theorem locM_feeds (n:Nat) (s:ByteArray) (pos:Nat):locM (repB 10 n++s) (n+pos)=((locM s pos).1+n,(locM s pos).2):=by
 have h:=leGo_feeds n s n (Nat.le_refl _) 1 pos 0
 rw[Nat.sub_self] at h
 unfold locM
 rw[show((n+pos:Nat):Int)+1=((n+pos:Nat):Int)+1 -((0:Nat):Int) by omega,h]
 have e:=leGo_sh (repB 10 n) s s.size 0 (by omega)
 rw[repB_size,Nat.add_zero] at e
 rw[e]
 exact locGo_sh n pos _ 1 n _
theorem leGo_blanks (n:Nat) (s:ByteArray): ∀j,j≤n→leGo (repB 32 n++s) (n -j)=leGo (repB 32 n++s) n:=by
 intro j
 induction j with
 |zero=>intro _;rfl
 |succ j ih=>
  intro hj
  have hsz:(repB 32 n++s).size=n+s.size:=by rw[sh_size,repB_size]
  have hb:bt (repB 32 n++s) ((n -(j+1):Nat):Int)=32:=bt_rep 32 n s _ (by omega)
  rw[leGo_step (by omega),hb,if_neg (by simp),if_neg (by simp),show n -(j+1)+1=n -j by omega]
  exact ih (by omega)
theorem locM_blanks (n:Nat) (s:ByteArray) (pos:Nat):locM (repB 32 n++s) (n+pos)=((locM s pos).1,if(locM s pos).1=1 then(locM s pos).2+n else(locM s pos).2):=by
 have h:=leGo_blanks n s n (Nat.le_refl _)
 rw[Nat.sub_self] at h
 have e:=leGo_sh (repB 32 n) s s.size 0 (by omega)
 rw[repB_size,Nat.add_zero] at e
 unfold locM
 rw[h,e]
 cases hl:leGo s 0 with
 |nil=>
  have e0: ∀c:Int,locGo pos [] 1 c=(1,c):=fun _=>rfl
  rw[e0,if_pos rfl]
  show(1,((n+pos:Nat):Int)+1)=(1,(pos:Int)+1+n)
  congr 1
  omega
 |cons p r=>
  have e1: ∀(c:Int),locGo pos (p::r) 1 c=if p.1<pos then locGo pos r 2 ((pos:Int)+1 -p.2) else(1,c):=fun _=>rfl
  have e2: ∀(c:Int),locGo (n+pos) ((p::r).map (shl n)) 1 c=if n+p.1<n+pos then locGo (n+pos) (r.map (shl n)) 2 (((n+pos:Nat):Int)+1 -((n+p.2:Nat):Int)) else(1,c):=fun _=>rfl
  rw[e1,e2]
  by_cases hp:p.1<pos
  ·rw[if_pos hp,if_pos (by omega),show((n+pos:Nat):Int)+1 -((n+p.2:Nat):Int)=(pos:Int)+1 -p.2 by omega]
   have h3:=locGo_sh n pos r 2 0 ((pos:Int)+1 -p.2)
   rw[Nat.add_zero] at h3
   have h4:=locGo_line pos r 2 ((pos:Int)+1 -p.2)
   rw[h3,if_neg (by omega)]
   rfl
  ·rw[if_neg hp,if_neg (by omega),if_pos rfl]
   congr 1
   omega
theorem bt_app (s x:ByteArray) (i:Nat) (h:i<s.size):bt (s++x) (i:Int)=bt s (i:Int):=by
 unfold bt
 have e2:((i:Nat):Int).toNat=i:=by omega
 rw[e2,ByteArray.data_append,Array.getElem?_append_left (by exact h)]
theorem locGo_app (s x:ByteArray) (pos:Nat) (hp:pos<s.size): ∀(n i line:Nat) (col:Int),pos -i=n→locGo pos (leGo (s++x) i) line col=locGo pos (leGo s i) line col:=by
 have stop: ∀(t:ByteArray) (i:Nat),pos≤i→ ∀line col,locGo pos (leGo t i) line col=(line,col):=by
  intro t i hi line col
  cases hl:leGo t i with
  |nil=>rfl
  |cons p r=>
   have:=leGo_mem t (t.size -i) i rfl p (by rw[hl];simp)
   show(if p.1<pos then _ else _)=_
   rw[if_neg (by omega)]
 intro n
 induction n using Nat.strongRecOn with
 |_ n ih=>
  intro i line col hn
  by_cases hi:pos≤i
  ·rw[stop _ i hi,stop _ i hi]
  ·have hsz:(s++x).size=s.size+x.size:=ByteArray.size_append
   rw[leGo_step (s:=s) (by omega),leGo_step (s:=s++x) (by omega),bt_app s x i (by omega),bt_app s x (i+1) (by omega)]
   by_cases h1:bt s i=13∧i+1<s.size∧bt s ((i+1:Nat):Int)=10
   ·rw[if_pos h1,if_pos ⟨h1.1,by omega,h1.2.2⟩]
    show(if i<pos then locGo pos (leGo (s++x) (i+2)) (line+1) _ else _)=(if i<pos then locGo pos (leGo s (i+2)) (line+1) _ else _)
    rw[if_pos (by omega),if_pos (by omega)]
    exact ih (pos -(i+2)) (by omega) (i+2) _ _ rfl
   ·rw[if_neg h1,if_neg (fun h2=>h1 ⟨h2.1,by omega,h2.2.2⟩)]
    by_cases h2:bt s i=13∨bt s i=10
    ·rw[if_pos h2,if_pos h2]
     show(if i<pos then locGo pos (leGo (s++x) (i+1)) (line+1) _ else _)=(if i<pos then locGo pos (leGo s (i+1)) (line+1) _ else _)
     rw[if_pos (by omega),if_pos (by omega)]
     exact ih (pos -(i+1)) (by omega) (i+1) _ _ rfl
    ·rw[if_neg h2,if_neg h2]
     exact ih (pos -(i+1)) (by omega) (i+1) _ _ rfl
theorem locM_app (s x:ByteArray) (pos:Nat) (hp:pos<s.size):locM (s++x) pos=locM s pos:=locGo_app s x pos hp pos 0 1 _ (by omega)
theorem ascii9_ok (s:ByteArray) (hs:s.size≤1000) (H:Heap):Fn PP fq5 #[.string s] H fun v H'=> ∃b:Bool,v= .bool b∧H'=H∧(b=true→Ascii s):=by
 refine ascii9.enter s H _ ?_
 unfold ascii9.W
 refine⟨fun z H'=>H'=H∧ ∃k:Nat,z.1=(k:Int)∧k≤s.size∧ ∀i,i<k→bt s (i:Int)<128,fun z _=>1001 -z.1.toNat,⟨rfl,0,rfl,Nat.zero_le _,fun i hi=>by omega⟩,?_⟩
 rintro⟨_,_⟩ H2 ⟨hHH,k,hz,hk,hall⟩
 dsimp only at hz⊢
 subst hz hHH
 refine fkI (fun hlt=>?_) (fun hge=>?_)
 ·have hlt':k<s.size:=by simp at hlt;omega
  refine⟨⟨by omega,by omega⟩,fkI (fun _=>rkI ⟨false,rfl,rfl,fun h=>by cases h⟩) (fun h128=>?_)⟩
  have h':bt s (k:Int)<128:=by simp at h128;omega
  rw[wrap1 (k:=k) (by omega)]
  refine⟨⟨rfl,k+1,rfl,by omega,fun i hi=>?_⟩,by omega⟩
  by_cases he:i=k
  ·rw[he];exact h'
  ·exact hall i (by omega)
 ·have hge':s.size≤k:=by simp at hge;omega
  refine rkI ⟨true,rfl,rfl,fun _ i hi=>hall i (by omega)⟩
theorem locGo_bound (pos M:Nat): ∀(l:List (Nat×Nat)) (line:Nat) (col:Int),(∀p∈l,p.2≤M)→(-(M:Int)≤col∧col≤(pos:Int)+1)→(locGo pos l line col).1≤line+l.length∧ -(M:Int)≤(locGo pos l line col).2∧(locGo pos l line col).2≤(pos:Int)+1
 |[],line,col,_,h=>⟨Nat.le_refl _,h⟩
 |p::r,line,col,hl,h=>by
  have e:locGo pos (p::r) line col=if p.1<pos then locGo pos r (line+1) ((pos:Int)+1 -p.2) else(line,col):=rfl
  rw[e]
  by_cases hp:p.1<pos
  ·rw[if_pos hp]
   have hp2:=hl p (by simp)
   obtain⟨h1,h2⟩:=locGo_bound pos M r (line+1) ((pos:Int)+1 -p.2) (fun q hq=>hl q (by simp[hq])) ⟨by omega,by omega⟩
   exact⟨by simp only[List.length_cons];omega,h2⟩
  ·rw[if_neg hp]
   exact⟨by simp only[List.length_cons];omega,h⟩
theorem leGo_len (s:ByteArray): ∀(n i:Nat),s.size -i=n→(leGo s i).length≤n:=by
 intro n
 induction n using Nat.strongRecOn with
 |_ n ih=>
  intro i hn
  by_cases h:i<s.size
  ·rw[leGo_step h]
   split
   ·have:=ih (s.size -(i+2)) (by omega) (i+2) rfl
    simp only[List.length_cons];omega
   ·split
    ·have:=ih (s.size -(i+1)) (by omega) (i+1) rfl
     simp only[List.length_cons];omega
    ·have:=ih (s.size -(i+1)) (by omega) (i+1) rfl
     omega
  ·rw[leGo_nil (by omega)];exact Nat.zero_le _
theorem locM_bound (s:ByteArray) (pos:Nat) (hs:s.size≤1000) (hp:pos≤1000):(locM s pos).1≤1001∧ -1000≤(locM s pos).2∧(locM s pos).2≤1001:=by
 have h:=locGo_bound pos s.size (leGo s 0) 1 ((pos:Int)+1) (fun p hp=>(leGo_mem s s.size 0 (by omega) p hp).2.2) ⟨by omega,by omega⟩
 have h2:=leGo_len s s.size 0 (by omega)
 unfold locM
 obtain⟨h3,h4,h5⟩:=h
 exact⟨by omega,by omega,by omega⟩
structure RefT (text:ByteArray) (pos:Nat):Prop where
 ts: ∃(ts:List Tk) (r:List PTk),TokFrom text 0 ts∧ts.length≤text.size∧gDocument (ts.map Tk.p)=some (false,r)∧pos=startOf text r
 le:pos≤text.size
theorem RefT.pos0 {text:ByteArray} {pos:Nat} (h:RefT text pos):0<text.size:=by
 obtain⟨ts,r,h1,h2,h3,h4⟩:=h.ts
 rcases Nat.eq_zero_or_pos text.size with h0|h0
 ·have:ts=[]:=List.length_eq_zero_iff.1 (by omega)
  subst this
  cases h3
 ·exact h0
theorem RefT.run {text:ByteArray} {pos:Nat} (h:RefT text pos) (ha:Ascii text) (hs:text.size≤1000) {H:Heap} (hT:TabsAt H.size H) {K:(Int×Int×Bool)→Heap→Prop}
 (hk: ∀H',Ext [] H H'→K (((locM text pos).1:Nat),(locM text pos).2,true) H'):callW PP fq7 #[.string text] H ⟨Int×Int×Bool,fun x=>(.tuple #[(.int .i64 x.1),(.int .i64 x.2.1),(.bool x.2.2)])⟩ K:=by
 have h0:=h.pos0
 obtain⟨ts,r,h1,h2,h3,rfl⟩:=h.ts
 refine(Refused_ok text ts r H hT ha h0 (by omega) h1 (by omega) h3).mono ?_
 rintro _ H' ⟨x,rfl⟩
 exact⟨_,rfl,hk H' x⟩
theorem RefT.behind {text:ByteArray} {pos:Nat} (h:RefT text pos) (pre:ByteArray) (hp: ∀i:Nat,i<pre.size→bt (pre++text) (i:Int)=32∨bt (pre++text) (i:Int)=10):RefT (pre++text) (pre.size+pos):=by
 have hle:=h.le
 obtain⟨ts,r,h1,h2,h3,rfl⟩:=h.ts
 exact⟨⟨ts.map (Tk.sh pre.size),r.map (shp pre.size),tok_behind h1 hp,by rw[List.length_map,sh_size];omega,by rw[map_sh];exact doc_sh h3,(start_sh _ _ _).symm⟩,by rw[sh_size];omega⟩
theorem TabsAt.later {H H':Heap} (h:TabsAt H.size H) (x:Ext [] H H'):TabsAt H'.size H':=h.keep x.size fun k o _ ho=>x.get _ _ ho (by simp)
theorem RefAt_run {text:ByteArray} (ha:Ascii text) (hs:text.size≤1000) {H:Heap} {K:(Int×Bool)→Heap→Prop}
 (hk: ∀(z:Int) (sure:Bool) H',Ext [] H H'→(sure=true→ ∃pos:Nat,z=(pos:Int)∧RefT text pos)→K (z,sure) H'):callW PP fq6 #[.string text] H ⟨Int×Bool,fun x=>(.tuple #[(.int .i64 x.1),(.bool x.2)])⟩ K:=by
 refine(RefusedAt_ok text H hs ha).mono ?_
 rintro _ H' ⟨x,z,sure,rfl,h⟩
 refine⟨(z,sure),rfl,hk z sure H' x fun hu=>?_⟩
 obtain⟨ts,r,h1,h2,h3,h4,h5⟩:=h hu
 exact⟨_,h4,⟨ts,r,h1,h2,h3,rfl⟩,h5⟩
theorem forkB_true {b:Bool} {A B:Prop} (h:b=true) (a:A):forkB b A B:=fkI (fun _=>a) fun h'=>by rw[h] at h';cases h'
theorem FnRefusedLines_ok (text:ByteArray) (lines blanks:Int) (hl:0≤lines) (hb:0≤blanks) (H:Heap) (hT:TabsAt H.size H):Fn PP fq4 #[.string text,.int .u8 lines,.int .u8 blanks] H fun v H'=>v= .bool true∧Ext [] H H':=by
 refine FnRefusedLines.enter _ _ _ H _ ?_
 unfold FnRefusedLines.W
 refine fkI (fun _=>rkI ⟨rfl,Ext.refl _ _⟩) (fun _=>?_)
 refine⟨fun y H'=>H'=H∧(y.1=false→text.size≤300∧Ascii text∧lines≤20∧blanks≤20),fkI (fun _=>⟨rfl,fun h=>by cases h⟩) (fun hsz=>?_),?_⟩
 ·have hsz':text.size≤300:=by simp at hsz;omega
  refine(ascii9_ok text (by omega) H).mono ?_
  rintro _ _ ⟨b,rfl,rfl,ha⟩
  refine⟨b,rfl,fkI (fun _=>⟨rfl,fun h=>by cases h⟩) (fun hb'=>fkI (fun _=>⟨rfl,fun h=>by cases h⟩) (fun h20=>⟨rfl,fun h2=>⟨hsz',ha (by simpa using hb'),by simp at h20;omega,?_⟩⟩))⟩
  have h3:decide (blanks>20)=false:=h2
  simp at h3
  omega
 rintro⟨b,_⟩ _ ⟨rfl,hfacts⟩
 refine fkI (fun _=>rkI ⟨rfl,Ext.refl _ _⟩) (fun hb0=>?_)
 obtain⟨hsz,ha,hl20,hb20⟩:=hfacts hb0
 refine RefAt_run ha (by omega) fun z sure H1 x1 hsure=>?_
 refine⟨(!sure||decide (z<0),()),fkI (fun h=>⟨?_,rfl⟩) (fun h=>⟨?_,rfl⟩),?_⟩
 ·have h':sure=false:=by simpa using h
  rw[h'];rfl
 ·have h':sure=true:=by simpa using h
  rw[h'];rfl
 refine fkI (fun _=>rkI ⟨rfl,x1⟩) (fun h=>?_)
 have hsu:sure=true:=by
  cases sure with
  |true=>rfl
  |false=>cases h
 obtain⟨pos,rfl,href⟩:=hsure hsu
 have hT1:=hT.later x1
 obtain⟨n,rfl⟩: ∃n:Nat,lines=(n:Int):=⟨lines.toNat,by omega⟩
 obtain⟨m,rfl⟩: ∃m:Nat,blanks=(m:Int):=⟨blanks.toNat,by omega⟩
 refine⟨fun z H'=>H'=H1∧ ∃k:Nat,k≤n∧z.2.1=(k:Int)∧z.1=repB 10 k,fun z _=>100 -z.2.1.toNat,⟨rfl,0,Nat.zero_le _,rfl,rfl⟩,?_⟩
 rintro⟨z1,z2,_⟩ _ ⟨rfl,k,hk,hz2,hz1⟩
 dsimp only at hz2 hz1⊢
 subst hz1 hz2
 refine fkI (fun hlt=>?_) (fun hge=>?_)
 ·have hlt':k<n:=by simp at hlt;omega
  refine⟨by rw[repB_size];have:(bs [10]).size=1:=rfl;omega,⟨rfl,k+1,by omega,?_,repB_succ 10 k⟩,?_⟩
  ·rw[u8w (by omega)];omega
  ·rw[u8w (by omega)];omega
 have hkn:k=n:=by simp at hge;omega
 subst hkn
 refine⟨fun z H'=>H'=_∧ ∃j:Nat,j≤m∧z.2.1=(j:Int)∧z.1=repB 32 j,fun z _=>100 -z.2.1.toNat,⟨rfl,0,Nat.zero_le _,rfl,rfl⟩,?_⟩
 rintro⟨z1,z2,_⟩ H1 ⟨rfl,j,hj,hz2,hz1⟩
 dsimp only at hz2 hz1⊢
 subst hz1 hz2
 refine fkI (fun hlt=>?_) (fun hge=>?_)
 ·have hlt':j<m:=by simp at hlt;omega
  refine⟨by rw[repB_size];have:(bs [32]).size=1:=rfl;omega,⟨rfl,j+1,by omega,?_,repB_succ 32 j⟩,?_⟩
  ·rw[u8w (by omega)];omega
  ·rw[u8w (by omega)];omega
 have hjm:j=m:=by simp at hge;omega
 subst hjm
 have asc: ∀(c:UInt8) (q:Nat),c.toNat<128→Ascii (repB c q++text):=by
  intro c q hc i hi
  rw[sh_size,repB_size] at hi
  by_cases hiq:i<q
  ·rw[bt_rep c q text i hiq];omega
  ·have:=bt_sh (pre:=repB c q) (s:=text) (i -q)
   rw[repB_size,show q+(i -q)=i by omega] at this
   rw[this]
   exact ha _ (by omega)
 have ref1:RefT (repB 10 k++text) (k+pos):=by
  have:=href.behind (repB 10 k) (fun i hi=>by rw[repB_size] at hi;exact .inr (bt_rep 10 k text i hi))
  rw[repB_size] at this
  exact this
 have ref2:RefT (repB 32 j++text) (j+pos):=by
  have:=href.behind (repB 32 j) (fun i hi=>by rw[repB_size] at hi;exact .inl (bt_rep 32 j text i hi))
  rw[repB_size] at this
  exact this
 have hpos:pos≤1000:=by have:=href.le;omega
 have hbd:=locM_bound text pos (by omega) hpos
 have f1:=locM_feeds k text pos
 have f2:=locM_blanks j text pos
 refine href.run ha (by omega) hT1 fun H2 x2=>?_
 have hT2:=hT1.later x2
 refine⟨by rw[repB_size];omega,?_⟩
 refine ref1.run (asc 10 k (by decide)) (by rw[sh_size,repB_size];omega) hT2 fun H3 x3=>?_
 have hT3:=hT2.later x3
 refine⟨by rw[repB_size];omega,?_⟩
 refine ref2.run (asc 32 j (by decide)) (by rw[sh_size,repB_size];omega) hT3 fun H4 x4=>?_
 have xx:=x1.trans (x2.trans (x3.trans x4))
 rw[f1,f2]
 generalize locM text pos=P at hbd
 obtain⟨ln,cl⟩:=P
 dsimp only at hbd⊢
 have w1:IntKind.i64.wrap (k:Int)=(k:Int):=i64w (by omega)
 have w2:IntKind.i64.wrap (j:Int)=(j:Int):=i64w (by omega)
 have w3:IntKind.i64.wrap ((ln:Int)+(k:Int))=((ln+k:Nat):Int):=by rw[i64w (by omega)];omega
 have w4:IntKind.i64.wrap (cl+(j:Int))=cl+j:=i64w (by omega)
 rw[w1,w2,w3,w4]
 refine fkI (fun h1=>?_) (fun h1=>?_)
 ·have hl1:ln=1:=by simp at h1;omega
  refine⟨(true,()),forkB_true rfl (forkB_true rfl (forkB_true rfl (forkB_true (by simp) (forkB_true (by simp) (forkB_true (by simp) ⟨?_,rfl⟩))))),rkI ⟨rfl,xx⟩⟩
  rw[if_pos hl1]
  simp
 ·have hl1: ¬ln=1:=by simp at h1;omega
  refine⟨(true,()),forkB_true rfl (forkB_true rfl (forkB_true rfl (forkB_true (by simp) (forkB_true (by simp) (forkB_true (by simp) ⟨?_,rfl⟩))))),rkI ⟨rfl,xx⟩⟩
  rw[if_neg hl1]
  simp
theorem mores (i:Nat) (hi:i<5): ∃w:ByteArray,#[Value.string (bs [32,97]),Value.string (bs [32,125]),Value.string (bs [32,123,32,98,32,125]),Value.string (bs [32,41]),Value.string (bs [32,10,32,97])][i]?=some (.string w)∧w.size≤6∧Ascii w:=by
 have fin: ∀l:List UInt8,l.length≤6→(∀c∈l,c.toNat<128)→(bs l).size≤6∧Ascii (bs l):=by
  intro l hl hc
  have e:(bs l).size=l.length:=by show l.toArray.size=_;simp
  refine⟨by omega,fun i hi=>?_⟩
  have hi':i<l.length:=by omega
  unfold bt
  have e2:((i:Nat):Int).toNat=i:=by omega
  have e3:(bs l).data=l.toArray:=rfl
  rw[e2,e3]
  simp only[List.getElem?_toArray,List.getElem?_eq_getElem hi',Option.getD_some]
  have:=hc l[i] (List.getElem_mem hi')
  omega
 match i,hi with
 |0,_=>exact⟨_,rfl,fin _ (by decide) (by decide)⟩
 |1,_=>exact⟨_,rfl,fin _ (by decide) (by decide)⟩
 |2,_=>exact⟨_,rfl,fin _ (by decide) (by decide)⟩
 |3,_=>exact⟨_,rfl,fin _ (by decide) (by decide)⟩
 |4,_=>exact⟨_,rfl,fin _ (by decide) (by decide)⟩
theorem FnRefusedBehind_ok (text:ByteArray) (more:Int) (hm:0≤more) (H:Heap) (hT:TabsAt H.size H):Fn PP fq3 #[.string text,.int .u8 more] H fun v H'=>v= .bool true∧Ext [] H H':=by
 refine FnRefusedBehind.enter _ _ H _ ?_
 unfold FnRefusedBehind.W
 refine fkI (fun _=>rkI ⟨rfl,Ext.refl _ _⟩) (fun _=>?_)
 refine⟨fun y H'=>H'=H∧(y.1=false→text.size≤300∧Ascii text),fkI (fun _=>⟨rfl,fun h=>by cases h⟩) (fun hsz=>?_),?_⟩
 ·have hsz':text.size≤300:=by simp at hsz;omega
  refine(ascii9_ok text (by omega) H).mono ?_
  rintro _ _ ⟨b,rfl,rfl,ha⟩
  exact⟨b,rfl,rfl,fun h=>⟨hsz',ha (by simpa using h)⟩⟩
 rintro⟨b,_⟩ _ ⟨rfl,hfacts⟩
 refine fkI (fun _=>rkI ⟨rfl,Ext.refl _ _⟩) (fun hb0=>?_)
 obtain⟨hsz,ha⟩:=hfacts hb0
 refine RefAt_run ha (by omega) fun z sure H1 x1 hsure=>?_
 refine⟨(!sure||(decide (z<0)||decide (z≥((text.size:Nat):Int))),()),fkI (fun h=>⟨?_,rfl⟩) (fun h=>fkI (fun h2=>⟨?_,rfl⟩) (fun h2=>⟨?_,rfl⟩)),?_⟩
 ·have h':sure=false:=by simpa using h
  rw[h'];rfl
 ·have h':sure=true:=by simpa using h
  have h2':decide (z<0)=true:=h2
  rw[h',h2'];rfl
 ·have h':sure=true:=by simpa using h
  have h2':decide (z<0)=false:=h2
  rw[h',h2'];rfl
 refine fkI (fun _=>rkI ⟨rfl,x1⟩) (fun h=>?_)
 have hsu:sure=true∧ ¬z≥((text.size:Nat):Int):=by
  have h':(!sure||(decide (z<0)||decide (z≥((text.size:Nat):Int))))=false:=h
  simp only[Bool.or_eq_false_iff,decide_eq_false_iff_not] at h'
  exact⟨by simpa using h'.1,h'.2.2⟩
 obtain⟨pos,rfl,href⟩:=hsure hsu.1
 have hlt:pos<text.size:=by have:=hsu.2;omega
 have hT1:=hT.later x1
 refine nbI fun H2 e2 hb2 x2 s2=>?_
 have hT2:=hT1.later x2
 have hmod:Int.tmod more 5=more% 5:=Int.tmod_eq_emod_of_nonneg hm
 have hr:0≤more% 5∧more% 5<5:=by omega
 rw[hmod]
 obtain⟨i,hi,hi5⟩: ∃i:Nat,more% 5=(i:Int)∧i<5:=⟨(more% 5).toNat,by omega,by omega⟩
 rw[hi]
 refine⟨ix_some (by omega) (by omega),?_⟩
 obtain⟨w,hw,hwsz,hwa⟩:=mores i hi5
 have e0:0+((i:Nat):Int).toNat*1=i:=by omega
 rw[e0]
 refine⟨w,lcO hb2 hw,by omega,?_⟩
 have hsa:(text++w).size=text.size+w.size:=ByteArray.size_append
 have ha2:Ascii (text++w):=by
  intro q hq
  rw[hsa] at hq
  by_cases h1:q<text.size
  ·rw[bt_app text w q h1];exact ha q h1
  ·have h2:=bt_sh (pre:=text) (s:=w) (q -text.size)
   rw[show text.size+(q -text.size)=q by omega] at h2
   rw[h2]
   exact hwa _ (by omega)
 refine RefAt_run ha2 (by omega) fun z2 sure2 H3 x3 hsure2=>?_
 have hT3:=hT2.later x3
 refine⟨(!sure2||(z2 !=(pos:Int)),()),fkI (fun h=>⟨?_,rfl⟩) (fun h=>⟨?_,rfl⟩),?_⟩
 ·have h':sure2=false:=by simpa using h
  rw[h'];rfl
 ·have h':sure2=true:=by simpa using h
  rw[h'];rfl
 refine fkI (fun _=>rkI ⟨rfl,x1.trans (x2.trans x3)⟩) (fun h=>?_)
 have hsu2:sure2=true∧z2=(pos:Int):=by
  have h':(!sure2||(z2 !=(pos:Int)))=false:=h
  simp only[Bool.or_eq_false_iff] at h'
  exact⟨by simpa using h'.1,by simpa using h'.2⟩
 obtain⟨pos2,hp2,href2⟩:=hsure2 hsu2.1
 have hpp:pos2=pos:=by have:=hsu2.2;omega
 subst hpp
 refine href.run ha (by omega) hT3 fun H4 x4=>?_
 have hT4:=hT3.later x4
 refine href2.run ha2 (by omega) hT4 fun H5 x5=>?_
 rw[locM_app text w pos2 hlt]
 refine⟨(true,()),forkB_true rfl (forkB_true rfl (forkB_true (by simp) ⟨by simp,rfl⟩)),rkI ⟨rfl,x1.trans (x2.trans (x3.trans (x4.trans x5)))⟩⟩
end Go.Vx
set_option maxRecDepth 100000
namespace Go.Vx
open Go Go.Proofs Go.RowKit Go.ChangeShapes Go.WideShapes
theorem sameBelow {w w':World} (hs:Same w w') (he:Ext [] w.heap w'.heap):Below w.heap.size w w':=by
 refine⟨hs.os,hs.tape,hs.output,he.size,fun k hk=>?_⟩
 have:w.heap[k]?=some w.heap[k]:=Array.getElem?_eq_getElem hk
 rw[this]
 exact he.get k _ this (by simp)
theorem seat_laidOut:laidOutB Tryz.prog=true:=by kernel_rfl
theorem seat_own:ownKnob Tryz.prog.godebug=none:=by kernel_rfl
theorem rd9:Tryz.prog.readableRec 9=true:=by kernel_rfl
theorem rd5:Tryz.prog.readableRec 5=true:=by kernel_rfl
theorem sz9:9<Tryz.prog.types.size:=of_decide_eq_true (by kernel_rfl)
theorem sz5:5<Tryz.prog.types.size:=of_decide_eq_true (by kernel_rfl)
def u8ren:Shelf.Ren:=⟨fun x=>x,fun t=>if t=119 then 347 else if t=138 then 349 else if t=139 then 350 else t,fun g=>if g=3 then 0 else if g=4 then 1 else g⟩
theorem u8types:U8Types Tryz.prog u8ren:= {t5:=by kernel_rfl,t119:=by kernel_rfl,t138:=by kernel_rfl,t139:=by kernel_rfl}
theorem u8extra:U8Extra Tryz.prog u8ren:= {n3:=by kernel_rfl,n4:=by kernel_rfl,y3:=by kernel_rfl,y4:=by kernel_rfl,c5:=by kernel_rfl,c119:=by kernel_rfl,c138:=by kernel_rfl}
theorem first_data:YtpkfgijailfkjaaGreatDoor.Rows.laid_unicode_utf8_first=Lib.firstData:=by kernel_rfl
theorem accept_data:(YtpkfgijailfkjaaGreatDoor.Rows.laid_unicode_utf8_acceptRanges:DataW Unit)=Lib.acceptData:=by kernel_rfl
abbrev laid3:List (String×DataW Unit):=[("unicode/utf8.acceptRanges",YtpkfgijailfkjaaGreatDoor.Rows.laid_unicode_utf8_acceptRanges),("bytes.ErrTooLarge",YtpkfgijailfkjaaGreatDoor.Rows.laid_bytes_ErrTooLarge),("unicode/utf8.first",YtpkfgijailfkjaaGreatDoor.Rows.laid_unicode_utf8_first)]
theorem tabs_of_laid (w:World) (h:laidMetH Tryz.prog laid3 w):TabsAt w.heap.size w.heap:=by
 rw[MakeChecks.laidMetH_plain _ _ _ (by kernel_rfl)] at h
 have h3:=Lib.laidMet.reads h (n:= "unicode/utf8.first") (d:=YtpkfgijailfkjaaGreatDoor.Rows.laid_unicode_utf8_first) (by simp)
 have h4:=Lib.laidMet.reads h (n:= "unicode/utf8.acceptRanges") (d:=YtpkfgijailfkjaaGreatDoor.Rows.laid_unicode_utf8_acceptRanges) (by simp)
 rw[first_data] at h3
 rw[accept_data] at h4
 have hT:Lib.Utf8Tabs 0 1 w:=utf8Tabs_of_readsT u8types u8extra h3 h4
 have lt_of: ∀(g o:Nat) (v:Value),w.cell? ⟨g,o,none⟩=some v→g<w.heap.size:=by
  intro g o v hv
  refine Decidable.byContradiction fun hn=>?_
  simp[World.cell?,Array.getElem?_eq_none (Nat.le_of_not_lt hn)] at hv
 refine⟨fun w' e=>?_,lt_of _ _ _ (hT.1 0 (by omega)),lt_of _ _ _ (hT.2 0 (by omega)).1⟩
 refine⟨fun c hc=>?_,fun i hi=>?_⟩
 ·rw[←hT.1 c hc];simp only[World.cell?,e]
 ·constructor
  ·rw[←(hT.2 i hi).1];simp only[World.cell?,e]
  ·rw[←(hT.2 i hi).2];simp only[World.cell?,e]
theorem contract2 (f:FuncId) (fn:Func) (hp:fn.params= #[9,5]) (hr:fn.resultTypes= #[4]) (spec:ChangeSpec) (hv:spec.vars=[])
 (hs: ∀(H:Type) (d1 d2:DataW H),spec.fn H [d1,d2]= {results:=[.lit (.bool true)],args:=[d1,d2]})
 (hF: ∀(text:ByteArray) (more:Int),0≤more∧more≤255→ ∀H:Heap,TabsAt H.size H→Go.Vx.Fn PP f #[.string text,.int .u8 more] H fun v H'=>v= .bool true∧Ext [] H H')
 (H:Type) (enc:TypeId×Value→H) (W:World) (base:Nat) (args:Array Value) (ds gs:List (DataW H)) (before:List MemPlace)
 (hTb:TabsAt W.heap.size W.heap)
 (hval: ∀(j:Nat) t v,fn.params[j]?=some t→args[j]?=some v→Value.okWide Tryz.prog W .any base t v)
 (hW:DataW.Whole enc Tryz.prog fn.params.toList spec.vars false W args.toList ds gs before):
 Calls Tryz.prog f args W fun e W'=> ∃v,e= .returned v∧spec.post enc Tryz.prog fn false true false false W args v W':=by
 have hW':=hW
 obtain⟨p,q,hA,hV,rfl,hfz,hnd⟩:=hW
 rw[hp] at hA hval
 rw[hv] at hV
 obtain⟨v0,vs0,d0,ds0,p0,q0,hargs,rfl,rfl,h0,r0⟩:=trodAll_cons hA
 obtain⟨v1,vs1,d1,ds1,p1,q1,rfl,rfl,rfl,h1,r1⟩:=trodAll_cons r0
 obtain⟨rfl,rfl,rfl⟩:=trodAll_nil r1
 obtain rfl:args= #[v0,v1]:=by cases args;simp_all
 obtain⟨rfl,rfl⟩:=trodVars_none hV
 have k0:=h0
 obtain⟨text,rfl,_,_,_⟩:=Go.ChangeMaps.open_string Tryz.underlying9 (hval 0 9 v0 rfl rfl) h0
 have k1:=h1
 obtain⟨more,rfl,_,_,w1⟩:=open_int Tryz.underlying5 (hval 1 5 v1 rfl rfl) h1
 have b1:0≤more∧more≤255:=by simpa [Lit.wf,IntKind.min,IntKind.max,IntKind.signed,IntKind.bits] using w1
 have walk:Calls Tryz.prog f #[.string text,.int .u8 more] W fun e W'=>e= .returned (.bool true)∧Below W.heap.size W W':=by
  refine(hF text more b1 W.heap hTb W rfl).mono fun e W' he=>?_
  obtain⟨v,rfl,hsame,rfl,hx⟩:=he
  exact⟨rfl,sameBelow hsame hx⟩
 have hlt:=hW'.lt
 refine walk.mono fun e W' ⟨he,hb⟩=>?_
 subst he
 refine⟨_,rfl,_,_,_,[],p0++(p1++[]),[],hW',?_,?_,?_,hb.frame _,fun h=>by cases h⟩
 ·rw[hr,List.append_nil,hs]
  exact trodAll_mk1 (shut_bool Tryz.underlying4 true)
 ·rw[hp,List.append_nil,hs]
  exact trodAll_cons_mk (Below.trod seat_laidOut rd9 sz9 k0 hb fun x hx=>hlt x (by simp[hx])) (trodAll_cons_mk (Below.trod seat_laidOut rd5 sz5 k1 hb fun x hx=>hlt x (by simp[hx])) trodAll_mk0)
 ·rw[hv,List.append_nil,hs]
  rfl
theorem contract3 (f:FuncId) (fn:Func) (hp:fn.params= #[9,5,5]) (hr:fn.resultTypes= #[4]) (spec:ChangeSpec) (hv:spec.vars=[])
 (hs: ∀(H:Type) (d1 d2 d3:DataW H),spec.fn H [d1,d2,d3]= {results:=[.lit (.bool true)],args:=[d1,d2,d3]})
 (hF: ∀(text:ByteArray) (lines blanks:Int),0≤lines∧lines≤255→0≤blanks∧blanks≤255→ ∀H:Heap,TabsAt H.size H→Go.Vx.Fn PP f #[.string text,.int .u8 lines,.int .u8 blanks] H fun v H'=>v= .bool true∧Ext [] H H')
 (H:Type) (enc:TypeId×Value→H) (W:World) (base:Nat) (args:Array Value) (ds gs:List (DataW H)) (before:List MemPlace)
 (hTb:TabsAt W.heap.size W.heap)
 (hval: ∀(j:Nat) t v,fn.params[j]?=some t→args[j]?=some v→Value.okWide Tryz.prog W .any base t v)
 (hW:DataW.Whole enc Tryz.prog fn.params.toList spec.vars false W args.toList ds gs before):
 Calls Tryz.prog f args W fun e W'=> ∃v,e= .returned v∧spec.post enc Tryz.prog fn false true false false W args v W':=by
 have hW':=hW
 obtain⟨p,q,hA,hV,rfl,hfz,hnd⟩:=hW
 rw[hp] at hA hval
 rw[hv] at hV
 obtain⟨v0,vs0,d0,ds0,p0,q0,hargs,rfl,rfl,h0,r0⟩:=trodAll_cons hA
 obtain⟨v1,vs1,d1,ds1,p1,q1,rfl,rfl,rfl,h1,r1⟩:=trodAll_cons r0
 obtain⟨v2,vs2,d2,ds2,p2,q2,rfl,rfl,rfl,h2,r2⟩:=trodAll_cons r1
 obtain⟨rfl,rfl,rfl⟩:=trodAll_nil r2
 obtain rfl:args= #[v0,v1,v2]:=by cases args;simp_all
 obtain⟨rfl,rfl⟩:=trodVars_none hV
 have k0:=h0
 obtain⟨text,rfl,_,_,_⟩:=Go.ChangeMaps.open_string Tryz.underlying9 (hval 0 9 v0 rfl rfl) h0
 have k1:=h1
 obtain⟨lines,rfl,_,_,w1⟩:=open_int Tryz.underlying5 (hval 1 5 v1 rfl rfl) h1
 have b1:0≤lines∧lines≤255:=by simpa [Lit.wf,IntKind.min,IntKind.max,IntKind.signed,IntKind.bits] using w1
 have k2:=h2
 obtain⟨blanks,rfl,_,_,w2⟩:=open_int Tryz.underlying5 (hval 2 5 v2 rfl rfl) h2
 have b2:0≤blanks∧blanks≤255:=by simpa [Lit.wf,IntKind.min,IntKind.max,IntKind.signed,IntKind.bits] using w2
 have walk:Calls Tryz.prog f #[.string text,.int .u8 lines,.int .u8 blanks] W fun e W'=>e= .returned (.bool true)∧Below W.heap.size W W':=by
  refine(hF text lines blanks b1 b2 W.heap hTb W rfl).mono fun e W' he=>?_
  obtain⟨v,rfl,hsame,rfl,hx⟩:=he
  exact⟨rfl,sameBelow hsame hx⟩
 have hlt:=hW'.lt
 refine walk.mono fun e W' ⟨he,hb⟩=>?_
 subst he
 refine⟨_,rfl,_,_,_,[],p0++(p1++(p2++[])),[],hW',?_,?_,?_,hb.frame _,fun h=>by cases h⟩
 ·rw[hr,List.append_nil,hs]
  exact trodAll_mk1 (shut_bool Tryz.underlying4 true)
 ·rw[hp,List.append_nil,hs]
  exact trodAll_cons_mk (Below.trod seat_laidOut rd9 sz9 k0 hb fun x hx=>hlt x (by simp[hx])) (trodAll_cons_mk (Below.trod seat_laidOut rd5 sz5 k1 hb fun x hx=>hlt x (by simp[hx])) (trodAll_cons_mk (Below.trod seat_laidOut rd5 sz5 k2 hb fun x hx=>hlt x (by simp[hx])) trodAll_mk0))
 ·rw[hv,List.append_nil,hs]
  rfl
end Go.Vx
