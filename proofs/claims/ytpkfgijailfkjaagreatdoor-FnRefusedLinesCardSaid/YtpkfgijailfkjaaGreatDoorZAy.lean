/- A part of the proof of what the last text of this claim says: PX1, PL7, SP1, SP2, SP3, SP4, SP5, SP6, SP7, SP8, SP9, SP10, SP11, SP12. Conditions: none. -/
import Derived.Test.YtpkfgijailfkjaaGreatDoorZAb
import Derived.Test.YtpkfgijailfkjaaGreatDoorZAh
import Derived.Test.YtpkfgijailfkjaaGreatDoorZAj
import Derived.Test.YtpkfgijailfkjaaGreatDoorZAl
import Derived.Test.YtpkfgijailfkjaaGreatDoorZAn
import Derived.Test.YtpkfgijailfkjaaGreatDoorZAt
import Derived.Test.YtpkfgijailfkjaaGreatDoorZAu
import Derived.Test.YtpkfgijailfkjaaGreatDoorZAw
import Derived.Test.YtpkfgijailfkjaaGreatDoorZAx
set_option maxRecDepth 10000
namespace Go.Vx
open Go Go.Proofs
def Vr (t:PTk) (v:ByteArray):Prop:=(t.1≠18→t.1≠19→v=t.2.1)∧(t.1≠15→t.1≠18→t.1≠19→(v.toList==wOn.toList)=false∧(v.toList==wImplements'.toList)=false)
def RestX (E:Src):List PTk→Nat→Prop
 |[],en=> ∃en',LxX E en 1 (fun v=>v=eB) E.text.size en'
 |t::r,en=> ∃en',t.1≠1∧t.2.2≤E.text.size∧LxX E en t.1 (Vr t) t.2.2 en'∧RestX E r en'
def startOf (s:ByteArray):List PTk→Nat
 |[]=>s.size
 |t::_=>t.2.2
structure PX (E:PEnv) (H:Heap) (l:List PTk):Prop where
 ls:LS E H
 p:(∃(pe:Int) (en:Nat),l=[]∧H[E.p]?=some (E.obj pe (1,eB) E.text.size en))∨
  ∃(pe:Int) (t:PTk) (v:ByteArray) (en:Nat) (r:List PTk),l=t::r∧Vr t v∧t.1≠1∧H[E.p]?=some (E.obj pe (t.1,v) t.2.2 en)∧0<en∧t.2.2≤E.text.size∧RestX E.toSrc r en
 n:l.length≤1000
theorem PX.obj {E:PEnv} {H:Heap} {l:List PTk} (h:PX E H l): ∃(pe:Int) (v:ByteArray) (en:Nat),H[E.p]?=some (E.obj pe (kd l,v) (startOf E.text l) en)∧startOf E.text l≤E.text.size∧
 (kd l≠15→kd l≠18→kd l≠19→(v.toList==wOn.toList)=false∧(v.toList==wImplements'.toList)=false)∧ ∀w,kd l=15→(v.toList==w.toList)=isW w l:=by
 rcases h.p with⟨pe,en,rfl,hp⟩|⟨pe,t,v,en,r,rfl,hv,h1,hp,_,hs,_⟩
 ·exact⟨pe,eB,en,hp,Nat.le_refl _,fun _ _ _=>⟨by rw[bytes_beq];exact decide_eq_false fun h=>absurd (congrArg ByteArray.size h) (by decide),by rw[bytes_beq];exact decide_eq_false fun h=>absurd (congrArg ByteArray.size h) (by decide)⟩,fun w hk=>absurd hk (by decide)⟩
 ·refine⟨pe,v,en,hp,hs,hv.2,fun w hk=>?_⟩
  have hk':t.1=15:=hk
  have:=hv.1 (by omega) (by omega)
  subst this
  simp[isW,hk']
theorem isW_kd {w:ByteArray} {l:List PTk} (h:isW w l=true):kd l=15:=by
 cases l with
 |nil=>cases h
 |cons t r=>simp[isW] at h;exact h.1
theorem isW_no {w:ByteArray} {l:List PTk} (h:kd l≠15):isW w l=false:=by
 cases hw:isW w l with
 |false=>rfl
 |true=>exact absurd (isW_kd hw) h
theorem PX.lt {E:PEnv} {H:Heap} {l:List PTk} (h:PX E H l):E.p<H.size∧E.prev<H.size:=by
 obtain⟨pe,v,en,hp,_⟩:=h.obj
 obtain⟨n,hn⟩:=h.ls.prev
 exact⟨lt_of_get hp,lt_of_get hn⟩
theorem PX.grow {E:PEnv} {H H':Heap} {l:List PTk} (h:PX E H l) (he:Ext [] H H'):PX E H' l:=by
 obtain⟨pe,v,en,hp,_⟩:=h.obj
 refine⟨h.ls.keep he.of_nil ⟨_,_,hp⟩,?_,h.n⟩
 rcases h.p with⟨pe,en,h1,hp⟩|⟨pe,t,v,en,r,h1,hv,h2,hp,h3⟩
 ·exact .inl ⟨pe,en,h1,he.get _ _ hp (by simp)⟩
 ·exact .inr ⟨pe,t,v,en,r,h1,hv,h2,he.get _ _ hp (by simp),h3⟩
theorem PX.off {E:PEnv} {H H':Heap} {l:List PTk} (h:PX E H l) {b:Nat} (he:Ext [b] H H') (hp:b≠E.p) (hb:E.body<b) (ht: ∀c e fr,H[b]?=some (.cells c e fr)→e≠tq90∧e≠tq3∧e≠tq52∧e≠tq68∧e≠tq5):PX E H' l:=by
 have key: ∀(k:Nat) (d:Array Value) (e:TypeId) (fr:Nat×Nat),H[k]?=some (.cells d e fr)→(e=tq90∨e=tq3∨e=tq52∨e=tq68∨e=tq5)→H'[k]?=some (.cells d e fr):=by
  intro k d e fr hk ho
  refine he.get _ _ hk ?_
  simp only[List.mem_singleton]
  rintro rfl
  obtain⟨h1,h2,h3,h4,h5⟩:=ht _ _ _ hk
  rcases ho with h|h|h|h|h
  ·exact h1 h
  ·exact h2 h
  ·exact h3 h
  ·exact h4 h
  ·exact h5 h
 obtain⟨n,hn⟩:=h.ls.prev
 refine⟨⟨⟨n,key _ _ _ _ hn (by simp)⟩,key _ _ _ _ h.ls.srcb (by simp),h.ls.src.keep (fun k c e fr hk ho=>key _ _ _ _ hk ?_) (fun k o hk ho=>he.get _ _ ho (by simp;omega)),h.ls.lo⟩,?_,h.n⟩
 ·rcases ho with rfl|rfl<;>simp
 ·rcases h.p with⟨pe,en,h1,hp⟩|⟨pe,t,v,en,r,h1,hv,h2,hp,h3⟩
  ·exact .inl ⟨pe,en,h1,key _ _ _ _ hp (by simp)⟩
  ·exact .inr ⟨pe,t,v,en,r,h1,hv,h2,key _ _ _ _ hp (by simp),h3⟩
def ErrX (E:PEnv) (b:Nat) (l:List PTk) (G:Heap):Prop:=ErrAt b (locM E.text (startOf E.text l)).1 (locM E.text (startOf E.text l)).2 G
theorem ErrX.grow {E:PEnv} {b:Nat} {l:List PTk} {G G':Heap} (h:ErrX E b l G) (he:Ext [] G G'):ErrX E b l G':=by
 obtain⟨src,lb,c,m1,m2,xs,ps,x3,x4,r,h1,h2,h3⟩:=h
 exact⟨src,lb,c,m1,m2,xs,ps,x3,x4,r,he.get _ _ h1 (by simp),he.get _ _ h2 (by simp),h3⟩
theorem ErrAt.off {b:Nat} {ln:Nat} {cl:Int} {G G':Heap} (h:ErrAt b ln cl G) {k:Nat} (he:Ext [k] G G') (ht: ∀c e fr,G[k]?=some (.cells c e fr)→e≠tq57∧e≠tq59):ErrAt b ln cl G':=by
 obtain⟨src,lb,c,m1,m2,xs,ps,x3,x4,r,h1,h2,h3⟩:=h
 refine⟨src,lb,c,m1,m2,xs,ps,x3,x4,r,he.get _ _ h1 ?_,he.get _ _ h2 ?_,h3⟩
 ·simp only[List.mem_singleton];rintro rfl;exact(ht _ _ _ h1).1 rfl
 ·simp only[List.mem_singleton];rintro rfl;exact(ht _ _ _ h2).2 rfl
def PostX (E:PEnv) (H:Heap) {α β:Type} (val:α→Value) (no:β→Value) (err:β→Nat) (Q:α→Heap→Prop) (res:Bool×List PTk) (v:Value) (H':Heap):Prop:=
 Ext E.S H H'∧((res.1=true∧ ∃x,v=val x∧PX E H' res.2∧Q x H')∨(res.1=false∧ ∃y,v=no y∧ErrX E (err y) res.2 H'))
def Rd (E:PEnv) (f:FuncId) (args:Array Value) {α β:Type} (val:α→Value) (no:β→Value) (err:β→Nat) (g:Gr) (Q:α→Heap→Prop):Prop:=
 ∀(H:Heap) (l:List PTk) (res:Bool×List PTk),PX E H l→g l=some res→Fn PP f args H (PostX E H val no err Q res)
theorem Rd.call {E:PEnv} {f:FuncId} {args:Array Value} {p q:Pat} {err:q.α→Nat} {g g2:Gr} {Q:p.α→Heap→Prop} {H:Heap} {l:List PTk} {res:Bool×List PTk} {K:p.α→Heap→Prop} {L:q.α→Heap→Prop}
 (hf:Rd E f args p.to q.to err g Q) (px:PX E H l) (hg:gThen g g2 l=some res)
 (hk: ∀x H' r,Ext E.S H H'→PX E H' r→Q x H'→g l=some (true,r)→g2 r=some res→K x H')
 (hl: ∀y H' r,Ext E.S H H'→res=(false,r)→ErrX E (err y) r H'→L y H'):call2W PP f args H p q K L:=by
 unfold gThen at hg
 split at hg
 ·cases hg
 ·rename_i r hr
  cases hg
  refine(hf H l _ px hr).mono ?_
  rintro v H' ⟨x,⟨h,_⟩|⟨_,y,rfl,he⟩⟩
  ·cases h
  ·exact .inr ⟨y,rfl,hl y H' r x rfl he⟩
 ·rename_i r hr
  refine(hf H l _ px hr).mono ?_
  rintro v H' ⟨x,⟨_,z,rfl,hp,hq⟩|⟨h,_⟩⟩
  ·exact .inl ⟨z,rfl,hk z H' r x hp hq hr hg⟩
  ·cases h
def gEnd:Gr:=fun l=>some (true,l)
theorem gThen_end (g:Gr) (l:List PTk):gThen g gEnd l=g l:=by
 unfold gThen gEnd
 split<;>simp_all
theorem Rd.last {E:PEnv} {f:FuncId} {args:Array Value} {p q:Pat} {err:q.α→Nat} {g:Gr} {Q:p.α→Heap→Prop} {H:Heap} {l:List PTk} {res:Bool×List PTk} {K:p.α→Heap→Prop} {L:q.α→Heap→Prop}
 (hf:Rd E f args p.to q.to err g Q) (px:PX E H l) (hg:g l=some res)
 (hk: ∀x H' r,Ext E.S H H'→PX E H' r→Q x H'→res=(true,r)→K x H')
 (hl: ∀y H' r,Ext E.S H H'→res=(false,r)→ErrX E (err y) r H'→L y H'):call2W PP f args H p q K L:=by
 refine Rd.call hf px (g2:=gEnd) (by rw[gThen_end];exact hg) (fun x H' r x1 px1 hq _ h2=>hk x H' r x1 px1 hq ?_) hl
 unfold gEnd at h2
 exact(Option.some.inj h2).symm
theorem CmFrom.run {s:ByteArray} {p q:Nat} (h:CmFrom s p q) (ha:Ascii s):CmRun s p q:=by
 induction h with
 |stop p h=>exact .stop p h
 |char p e hp hc _ ih=>exact .step p e hp (hc.imp id fun h=>by omega) (ha p hp) ih
theorem sfx_cut {s:ByteArray} {p e:Nat} (h1:p≤e) (h2:e≤s.size):Sfx s p (s.extract p e++s.extract e s.size):=by
 refine⟨s.extract 0 p,by rw[ByteArray.size_extract];omega,?_⟩
 apply ba_ext
 have hl:s.data.toList.length=s.size:=by rw[Array.length_toList];rfl
 simp only[ByteArray.data_append,Array.toList_append,list_of_extract,List.drop_zero,Nat.sub_zero]
 rw[show(s.data.toList.drop e).take (s.size -e)=s.data.toList.drop e from List.take_of_length_le (by rw[List.length_drop];omega)]
 have e1:s.data.toList.drop e=(s.data.toList.drop p).drop (e -p):=by rw[List.drop_drop];congr 1;omega
 rw[e1,List.take_append_drop,List.take_append_drop]
theorem bt_extract {s:ByteArray} {p e j:Nat} (h:j<e -p) (he:e≤s.size):bt (s.extract p e) (j:Nat)=bt s ((p+j:Nat):Int):=by
 obtain⟨x,hx,hxb⟩:=list_bt (s:=s) (k:=p+j) (by omega)
 have h9:(s.extract p e).data.toList[j]?=some x:=by
  rw[list_of_extract,List.getElem?_take,if_pos (by omega),List.getElem?_drop]
  exact hx
 rw[bt_list h9,←hxb]
theorem sign_mem {c:Int} (h0:0<signM c): ∃d:UInt8,(d.toNat:Int)=c∧(d,signM c)∈signL:=by
 by_cases h33:c=33
 ·subst h33;exact⟨33,rfl,by decide⟩
 by_cases h36:c=36
 ·subst h36;exact⟨36,rfl,by decide⟩
 by_cases h40:c=40
 ·subst h40;exact⟨40,rfl,by decide⟩
 by_cases h41:c=41
 ·subst h41;exact⟨41,rfl,by decide⟩
 by_cases h58:c=58
 ·subst h58;exact⟨58,rfl,by decide⟩
 by_cases h61:c=61
 ·subst h61;exact⟨61,rfl,by decide⟩
 by_cases h64:c=64
 ·subst h64;exact⟨64,rfl,by decide⟩
 by_cases h91:c=91
 ·subst h91;exact⟨91,rfl,by decide⟩
 by_cases h93:c=93
 ·subst h93;exact⟨93,rfl,by decide⟩
 by_cases h123:c=123
 ·subst h123;exact⟨123,rfl,by decide⟩
 by_cases h124:c=124
 ·subst h124;exact⟨124,rfl,by decide⟩
 by_cases h125:c=125
 ·subst h125;exact⟨125,rfl,by decide⟩
 by_cases h38:c=38
 ·subst h38;exact⟨38,rfl,by decide⟩
 exfalso
 simp[signM,h33,h36,h40,h41,h58,h61,h64,h91,h93,h123,h124,h125,h38] at h0
theorem readToken_quoteX {E:Src} {H:Heap} (h:SrcAt E H) (at_ i:Nat) (hw:WsRun E.text at_ i) (hi:i<E.text.size) (hb:bt E.text i=34) {k en:Int}
 (hS: ¬((runeG E.text (i+1)).1=34∧(runeG E.text (i+2)).1=34)→ ∀H1,Ext [] H H1→Fn PP fq96 #[.pointer (some ⟨E.src,0,none⟩),.int .i64 i] H1 fun r H'=> ∃v:ByteArray,r= .tuple #[.agg #[.int .i64 k,.int .i64 i,.int .i64 en,.string v],.nilIface]∧Ext [] H1 H')
 (hQ:(runeG E.text (i+1)).1=34∧(runeG E.text (i+2)).1=34→ ∀H1,Ext [] H H1→Fn PP fq95 #[.pointer (some ⟨E.src,0,none⟩),.int .i64 i] H1 fun r H'=> ∃v:ByteArray,r= .tuple #[.agg #[.int .i64 k,.int .i64 i,.int .i64 en,.string v],.nilIface]∧Ext [] H1 H'):
 Fn PP fq68 #[.pointer (some ⟨E.src,0,none⟩),.int .i64 at_] H fun r H'=> ∃v:ByteArray,r= .tuple #[.agg #[.int .i64 k,.int .i64 i,.int .i64 en,.string v],.nilIface]∧Ext [] H H':=by
 have hsm:=h.small
 refine readToken.enter _ _ H _ ?_
 unfold readToken.W
 refine nbI fun H1 e1 hb1 x1 s1=>?_
 have h1:=h.ext x1
 obtain⟨nm,fr,hsrc⟩:=h1.src
 refine⟨(E.body,0,E.text.size,E.cap),lcO hsrc rfl,?_⟩
 dsimp only
 refine(posAfter_ok h1 at_ i hw).mono ?_
 rintro _ _ ⟨rfl,rfl⟩
 refine⟨((i:Int),(i:Int)),rfl,?_⟩
 dsimp only
 refine fkI (fun hge=>by exfalso;simp at hge;omega) (fun _=>?_)
 have hfin: ∀H',Ext [H.size] H1 H'→Ext [] H H':=fun H' x=>⟨by have:=x1.size;have:=x.size;omega,fun q o hq _=>x.get _ _ (x1.get _ _ hq (by simp)) (by have:=lt_of_get hq;simp;omega)⟩
 refine(runeAt_ok h1 i (by omega) (by omega)).mono ?_
 rintro _ _ ⟨rfl,rfl⟩
 refine⟨(bt E.text i,1),rfl,?_⟩
 dsimp only
 rw[hb]
 rw[wrap1 (k:=i) (by omega),wrapL (k:=i) 2]
 refine⟨(false,()),fkI (fun hh=>absurd hh (by decide)) (fun _=>⟨rfl,rfl⟩),fkI (fun hh=>absurd hh (by decide)) (fun _=>?_)⟩
 refine⟨fun _ _=>False,?_,fun _ _ hh=>hh.elim⟩
 repeat refine fkI (fun hh=>absurd hh (by decide)) (fun _=>?_)
 refine fkI (fun _=>?_) (fun hh=>absurd hh (by decide))
 refine nbI fun H2 e2 hb2 x2 s2=>?_
 have h2:=h1.ext x2
 refine(runeAt_gen h2 (i+1)).mono ?_
 rintro _ H3 ⟨rfl,x3⟩
 refine⟨runeG E.text (i+1),rfl,(runeAt_gen (h2.ext x3) (i+2)).mono ?_⟩
 rintro _ H4 ⟨rfl,x4⟩
 refine⟨runeG E.text (i+2),rfl,?_⟩
 refine joinPK_and ?_
 have y4:=(x2.trans x3).trans x4
 have hb14:=y4.get _ _ hb1 (by simp)
 have hb24:=(x3.trans x4).get _ _ hb2 (by simp)
 refine⟨fun y H'=>y.1= .nilIface∧Ext [H1.size] H4 H'∧ ∃v:ByteArray,H'[H1.size]?=some (.cells #[.int .i64 k,.int .i64 i,.int .i64 en,.string v] tq87),?_,?_⟩
 ·refine fkI (fun hh=>?_) (fun hh=>?_)
  ·have hh':(runeG E.text (i+1)).1=34∧(runeG E.text (i+2)).1=34:=by simpa using hh
   refine(hQ hh' H4 (x1.trans y4)).mono ?_
   rintro _ H5 ⟨v,rfl,x5⟩
   refine⟨(k,(i:Int),en,v),rfl,?_⟩
   dsimp only
   refine swI (x5.get _ _ hb24 (by simp)) (by simp) rfl rfl fun H6 e6 hb6 x6 s6=>?_
   exact⟨rfl,x5.of_nil.trans x6,v,hb6⟩
  ·have hh': ¬((runeG E.text (i+1)).1=34∧(runeG E.text (i+2)).1=34):=by
    intro h9
    simp[h9.1,h9.2] at hh
   refine(hS hh' H4 (x1.trans y4)).mono ?_
   rintro _ H5 ⟨v,rfl,x5⟩
   refine⟨(k,(i:Int),en,v),rfl,?_⟩
   dsimp only
   refine swI (x5.get _ _ hb24 (by simp)) (by simp) rfl rfl fun H6 e6 hb6 x6 s6=>?_
   exact⟨rfl,x5.of_nil.trans x6,v,hb6⟩
 rintro⟨_,_⟩ H5 ⟨rfl,x5,v,hb5⟩
 dsimp only
 refine⟨(k,(i:Int),en,v),lcO hb5 rfl,?_⟩
 dsimp only
 have hb15:=x5.get _ _ hb14 (by simp;omega)
 refine swI hb15 (by simp) rfl rfl fun H6 e6 hb6 x6 s6=>?_
 have hb6':H6[H.size]?=some (.cells #[.int .i64 k,.int .i64 i,.int .i64 en,.string v] tq87):=hb6
 rw[lcO hb6' rfl]
 refine rkI ⟨v,rfl,?_⟩
 have z1:=x1.size;have z2:=y4.size;have z5:=x5.size;have z6:=x6.size
 refine⟨by omega,fun q o hq _=>?_⟩
 have hlt:=lt_of_get hq
 exact x6.get _ _ (x5.get _ _ (y4.get _ _ (x1.get _ _ hq (by simp)) (by simp)) (by simp;omega)) (by simp;omega)
theorem num_lex {E:Src} {H:Heap} (h:SrcAt E H) {p e:Nat} {k:Int} (hN:Num E.text p k e) (hp:p<E.text.size) (h2:e≤E.text.size) (ha:Ascii E.text) (hk:k=16∨k=17):
 Fn PP fq94 #[.pointer (some ⟨E.src,0,none⟩),.int .i64 p,.int .i32 (bt E.text p),.int .i64 1] H fun r H'=>
  r= .tuple #[.agg #[.int .i64 k,.int .i64 p,.int .i64 ((e:Nat):Int),.string (E.text.extract p e)],.nilIface]∧Ext [] H H':=by
 obtain⟨a,b,k1,c,hA,hd,hab,h0,hf,he⟩:=hN
 rw[nextM_lt hp] at hA
 have hbs:=digits_le hd hab
 have hcs:b≤c∧c≤E.text.size:=by
  rcases hf with⟨_,_,h3,h4⟩|⟨_,_,h3⟩
  ·have:=digits_le h3 h4;omega
  ·omega
 have hdt: ∀x y,DigitsTo E.text x y→y≤E.text.size→DigT E.text x y:=by
  intro x y hxy hy
  refine⟨hxy.1,fun q h1 h2=>?_,fun hlt=>ha y hlt,fun hlt=>?_⟩
  ·have:=hxy.2.1 q h1 h2
   rw[nextM_lt (by omega)] at this
   exact⟨by omega,this⟩
  ·have:=hxy.2.2
   rwa [nextM_lt hlt] at this
 have comm: ∀z:Int,isEB z=isE z:=fun z=>Bool.or_comm _ _
 have hk17:k=if(k==17)=true then 17 else 16:=by rcases hk with rfl|rfl<;>rfl
 have:=readNumber_ok h p a b c e (k1==17) (k==17) hp (ha p hp) hA (hdt a b hd hbs) hab h0 ?_ ?_
 ·rw[←hk17] at this
  exact this
 ·rcases hf with⟨h1,rfl,h3,h4⟩|⟨h1,rfl,h3⟩
  ·have hbl:b<E.text.size:=next_lt (by rw[h1];decide)
   exact .inl ⟨hbl,by rw[←nextM_lt hbl];exact h1,hdt _ _ h3 hcs.2,h4,rfl⟩
  ·exact .inr ⟨fun hlt=>by rw[←nextM_lt hlt];exact h1,h3,rfl⟩
 ·rcases he with⟨h1,rfl,e',hee,h5,h6⟩|⟨h1,h5,h6⟩
  ·have hcl2:c<E.text.size:=next_lt (by intro h9;rw[h9] at h1;exact absurd h1 (by decide))
   have hes:=digits_le h5 h6
   refine .inl ⟨hcl2,by rw[comm,←nextM_lt hcl2];exact h1,⟨e',?_,fun hlt=>ha _ hlt,hdt _ _ h5 hes,h6⟩,rfl⟩
   have hc1:c+1<E.text.size:=by split at hee<;>omega
   have er:(runeM E.text (c+1)).1=nextM E.text (c+1):=by rw[nextM_lt hc1];simp[runeM,hc1]
   rw[er]
   exact hee
  ·exact .inr ⟨fun hlt=>by rw[comm,←nextM_lt hlt];exact h1,h6,by rw[h5]⟩
abbrev Tk.p (t:Tk):PTk:=(t.kind,t.value,t.start)
theorem vr_sign {k:Int} {p:Nat}:Vr (k,eB,p) eB:=
 ⟨fun _ _=>rfl,fun _ _ _=>⟨by rw[bytes_beq];exact decide_eq_false fun h=>absurd (congrArg ByteArray.size h) (by decide),by rw[bytes_beq];exact decide_eq_false fun h=>absurd (congrArg ByteArray.size h) (by decide)⟩⟩
theorem lx_tok {E:Src} (ha:Ascii E.text) (hsz:E.text.size≤90000) {t:Tk} (ht:TkFull E.text t) {at_:Nat} (hw:WsRun E.text at_ t.start):
 t.kind≠1∧t.start≤E.text.size∧LxX E at_ t.kind (Vr t.p) t.start t.stop:=by
 have hle:=hw.le
 cases ht with
 |dots p h=>
  have hz:=startsM_le h
  have e3:(bs [46,46,46]).size=3:=rfl
  rw[e3] at hz
  refine⟨by simp,by dsimp only;omega,hle,by dsimp only;omega,by dsimp only;omega,fun H hs=>?_⟩
  have he:E.text.extract p (p+3)=bs [46,46,46]:=by
   simp only[startsM,Bool.and_eq_true,decide_eq_true_eq] at h
   exact bytes_eq h.2
  have hsf:=sfx_cut (s:=E.text) (p:=p) (e:=p+3) (by omega) (by omega)
  rw[he] at hsf
  refine(readToken_dots hs at_ p _ hw hsf).mono ?_
  rintro _ H' ⟨rfl,x⟩
  exact⟨eB,vr_sign,rfl,x⟩
 |sign p h h0=>
  obtain⟨d,hd,hm⟩:=sign_mem h0
  have hk1:signM (bt E.text p)≠1:=by
   intro h1
   rw[h1] at hm
   simp[signL] at hm
  refine⟨hk1,by dsimp only;omega,hle,by dsimp only;omega,by dsimp only;omega,fun H hs=>?_⟩
  have he:E.text.extract p (p+1)=bs [d]:=by
   apply ba_ext
   obtain⟨x,hx,hxb⟩:=list_bt h
   have:x=d:=UInt8.toNat_inj.1 (by omega)
   subst this
   rw[list_of_extract,show p+1 -p=0+1 by omega,List.take_add_one,List.take_zero,List.getElem?_drop,Nat.add_zero,hx]
   rfl
  have hsf:=sfx_cut (s:=E.text) (p:=p) (e:=p+1) (by omega) (by omega)
  rw[he] at hsf
  refine(readToken_sign hs at_ p d _ _ hw hsf hm).mono ?_
  rintro _ H' ⟨rfl,x⟩
  exact⟨eB,vr_sign,rfl,x⟩
 |name p e h1 h2 h3 h4 h5=>
  refine⟨by simp,by dsimp only;omega,hle,h2,by dsimp only;omega,fun H hs=>?_⟩
  have hez:(E.text.extract p e).size=e -p:=by rw[ByteArray.size_extract];omega
  have hn:NameP (E.text.extract p e):=by
   refine⟨by omega,fun j hj=>?_⟩
   unfold nameC
   rw[bt_extract (by omega) h2]
   by_cases hj0:j=0
   ·subst hj0;rw[Nat.add_zero,h3];rfl
   ·have:=h4 (p+j) (by omega) (by omega)
    unfold wordC at this
    rw[Bool.or_eq_true] at this
    rcases this with h|h
    ·rw[h];rfl
    ·rw[h];simp[hj0]
  have hd:DelimN (E.text.extract e E.text.size):=by
   by_cases he:e<E.text.size
   ·right
    rw[bt_extract (j:=0) (by omega) (Nat.le_refl _),Nat.add_zero]
    refine⟨ha e he,?_⟩
    unfold nextM at h5
    rw[if_neg (by omega)] at h5
    unfold wordC isBeginM isDigitM at h5
    simp only[Bool.or_eq_false_iff,Bool.and_eq_false_iff,decide_eq_false_iff_not,beq_eq_false_iff_ne] at h5
    simp only[nameB,decide_eq_false_iff_not]
    omega
   ·left;rw[ByteArray.size_extract];omega
  refine(readToken_name hs at_ p _ _ hw (sfx_cut (by omega) h2) hn hd).mono ?_
  rintro _ H' ⟨rfl,x⟩
  refine⟨E.text.extract p e,⟨fun _ _=>rfl,fun h=>absurd rfl h⟩,?_,x⟩
  rw[hez,show p+(e -p)=e by omega]
 |num k p e hk hN h1 h2 h3 h4=>
  have hk':k≠1:=by omega
  refine⟨hk',by dsimp only;omega,hle,h2,by dsimp only;omega,fun H hs=>?_⟩
  have hb0:bt E.text p=45∨isDigitM (bt E.text p)=true:=by
   obtain⟨a,b,k1,c,hA,hd,hab,_⟩:=hN
   by_cases h45:nextM E.text p=45
   ·left;rw[←nextM_lt (by omega)];exact h45
   ·right
    rw[if_neg h45] at hA
    subst hA
    have:=hd.2.1 a (Nat.le_refl _) hab
    rwa [nextM_lt (by omega)] at this
  have hv: ∀w:ByteArray,0<w.size→bt w (0:Nat)=111∨bt w (0:Nat)=105→((E.text.extract p e).toList==w.toList)=false:=by
   intro w hw0 hwb
   rw[bytes_beq]
   refine decide_eq_false fun h=>?_
   have:=bt_extract (s:=E.text) (p:=p) (e:=e) (j:=0) (by omega) h2
   rw[h,Nat.add_zero] at this
   have:=hb0.imp id dig_asc
   omega
  refine(readToken_num (k:=k) (en:=((e:Nat):Int)) (v:=E.text.extract p e) hs at_ p hw (by omega) hb0 fun H1 x1=>?_).mono ?_
  ·exact num_lex (hs.ext x1) hN (by omega) h2 ha hk
  rintro _ H' ⟨rfl,x⟩
  exact⟨E.text.extract p e,⟨fun _ _=>rfl,fun _ _ _=>⟨hv _ (by decide) (.inl rfl),hv _ (by decide) (.inr rfl)⟩⟩,rfl,x⟩
 |str v p e h1 h2 h3 h4=>
  have hl:=h4.le
  refine⟨by simp,by dsimp only;omega,hle,hl.2,by dsimp only;omega,fun H hs=>?_⟩
  refine(readToken_quoteX hs at_ p hw h1 h2 (k:=18) (en:=((e:Nat):Int)) (fun _ H1 x1=>readStringX_ok (hs.ext x1) ha (by omega) p e h4) (fun hq=>?_)).mono ?_
  ·exfalso
   have g1:=runeG_is (by decide) hq.1
   have g2:=runeG_is (by decide) hq.2
   have:=starts_of (s:=E.text) (j:=p) (by omega) h2 g1.2 g2.2
   rw[h3] at this;cases this
  rintro _ H' ⟨w,rfl,x⟩
  exact⟨w,⟨fun h _=>absurd rfl h,fun _ h _=>absurd rfl h⟩,rfl,x⟩
 |blk v p e h1 h2=>
  have hl:=h2.le
  obtain⟨hz,g0,g1,g2⟩:=starts_bt h1
  refine⟨by simp,by dsimp only;omega,hle,hl.2,by dsimp only;omega,fun H hs=>?_⟩
  refine(readToken_quoteX hs at_ p hw (by omega) g0 (k:=19) (en:=((e:Nat):Int)) (fun hq=>?_) (fun _ H1 x1=>readBlockX_ok (hs.ext x1) ha hsz p e h2)).mono ?_
  ·exfalso
   refine hq ⟨?_,?_⟩
   ·rw[runeG_asc (by omega) (ha _ (by omega)),g1]
   ·rw[runeG_asc (by omega) (ha _ (by omega)),g2]
  rintro _ H' ⟨w,rfl,x⟩
  exact⟨w,⟨fun _ h=>absurd rfl h,fun _ _ h=>absurd rfl h⟩,rfl,x⟩
theorem ws_of {s:ByteArray} (ha:Ascii s) {p:Nat} {ts:List Tk} (h:TokFrom s p ts): ∃q,WsRun s p q∧p≤q∧((ts=[]∧q=s.size)∨ ∃t r,ts=t::r∧t.start=q∧TkFull s t∧TokFrom s t.stop r):=by
 induction h with
 |done=>exact⟨s.size,.stop _ (.inl (Nat.le_refl _)),Nat.le_refl _,.inl ⟨rfl,rfl⟩⟩
 |white p l hp hc _ ih=>
  obtain⟨q,h1,h2,h3⟩:=ih
  refine⟨q,.ws _ _ hp ?_ h1,by omega,h3⟩
  rcases hc with h|h|h|h|h<;>rw[h]<;>rfl
 |comment p q l hp hc hcm _ ih=>
  obtain⟨q',h1,h2,h3⟩:=ih
  have:=(hcm.run ha).le
  exact⟨q',.cm _ _ _ hp hc (hcm.run ha) h1,by omega,h3⟩
 |tok t l ht hl _=>
  refine⟨t.start,.stop _ (.inr ?_),Nat.le_refl _,.inr ⟨t,l,rfl,rfl,ht,hl⟩⟩
  have key: ∀c:Int,c<128→(c=46∨0<signM c∨isBeginM c=true∨c=45∨isDigitM c=true∨c=34)→c<128∧isWsB c=false∧c≠35:=by
   intro c h128 hc
   refine⟨h128,?_⟩
   rcases hc with h|h|h|h|h|h
   ·subst h;exact⟨rfl,by decide⟩
   ·obtain⟨d,hd,hm⟩:=sign_mem h
    refine⟨?_,?_⟩
    ·cases hw:isWsB c with
     |false=>rfl
     |true=>
      simp only[isWsB,Bool.or_eq_true,beq_iff_eq] at hw
      rcases hw with h|h|h|h|h|h<;>subst h<;>exact absurd (show 0<signM _ from by assumption) (by decide)
    ·rintro rfl;exact absurd h (by decide)
   ·simp only[isBeginM,Bool.or_eq_true,Bool.and_eq_true,decide_eq_true_eq,beq_iff_eq] at h
    simp only[isWsB,Bool.or_eq_false_iff,beq_eq_false_iff_ne];omega
   ·subst h;exact⟨rfl,by decide⟩
   ·simp only[isDigitM,Bool.and_eq_true,decide_eq_true_eq] at h
    simp only[isWsB,Bool.or_eq_false_iff,beq_eq_false_iff_ne];omega
   ·subst h;exact⟨rfl,by decide⟩
  cases ht with
  |dots p h=>
   have hz:=startsM_le h
   have e3:(bs [46,46,46]).size=3:=rfl
   rw[e3] at hz
   refine key _ (ha p (by omega)) (.inl ?_)
   have he:s.extract p (p+3)=bs [46,46,46]:=by
    simp only[startsM,Bool.and_eq_true,decide_eq_true_eq] at h
    exact bytes_eq h.2
   have:=bt_extract (s:=s) (p:=p) (e:=p+3) (j:=0) (by omega) hz
   rw[he,Nat.add_zero] at this
   exact this.symm
  |sign p h h0=>exact key _ (ha p h) (.inr (.inl h0))
  |name p e h1 h2 h3 _ _=>exact key _ (ha p (by omega)) (.inr (.inr (.inl h3)))
  |num k p e hk hN h1 h2 _ _=>
   have hps:p<s.size:=by omega
   refine key _ (ha p hps) (.inr (.inr (.inr ?_)))
   obtain⟨a,b,k1,c,hA,hd,hab,_⟩:=hN
   by_cases h45:nextM s p=45
   ·left;rw[←nextM_lt hps];exact h45
   ·right;left
    rw[if_neg h45] at hA
    subst hA
    have:=hd.2.1 a (Nat.le_refl _) hab
    rwa [nextM_lt hps] at this
  |str v p e h1 h2 _ _=>exact key _ (ha p h1) (.inr (.inr (.inr (.inr (.inr h2)))))
  |blk v p e h1 _=>
   obtain⟨hz,g0,_⟩:=starts_bt h1
   exact key _ (ha p (by omega)) (.inr (.inr (.inr (.inr (.inr g0)))))
theorem rest_X {E:Src} (ha:Ascii E.text) (hsz:E.text.size≤90000) (h0:0<E.text.size): ∀(ts:List Tk) (p:Nat),TokFrom E.text p ts→RestX E (ts.map Tk.p) p:=by
 intro ts
 induction ts with
 |nil=>
  intro p h
  obtain⟨q,hw,hpq,h|⟨t,r,h,_⟩⟩:=ws_of ha h
  ·obtain⟨_,rfl⟩:=h
   refine⟨E.text.size,hpq,Nat.le_refl _,h0,fun H hs=>?_⟩
   refine(readToken_eof hs p _ hw (Nat.le_refl _)).mono ?_
   rintro _ H' ⟨rfl,x⟩
   exact⟨eB,rfl,rfl,x⟩
  ·cases h
 |cons t r ih=>
  intro p h
  obtain⟨q,hw,hpq,h|⟨t',r',h,hst,htk,hr⟩⟩:=ws_of ha h
  ·cases h.1
  ·cases h
   subst hst
   obtain⟨h1,h2,h3⟩:=lx_tok ha hsz htk hw
   exact⟨t.stop,h1,h2,h3,ih t.stop hr⟩
structure SEnv where
 p:Nat
 ts:List Tk
 ta:Option Addr
 tc:Nat
structure St where
 at_:Nat
 deep:Int
 wrong:Nat
 bad:Bool
 unsure:Bool
def SEnv.obj (E:SEnv) (σ:St):Obj:= .cells #[.slice E.ta E.ts.length E.tc,.int .i64 σ.at_,.int .i64 σ.deep,.int .i64 σ.wrong,.bool σ.bad,.bool σ.unsure] tq35
def SEnv.rest (E:SEnv) (i:Nat):List PTk:=(E.ts.drop i).map Tk.p
structure SP (E:SEnv) (H:Heap) (σ:St):Prop where
 obj:H[E.p]?=some (E.obj σ)
 tok:OwnS H tq39 4 E.ta E.ts.length E.tc (tkL E.ts)
 row:rowOf E.ta≠some E.p
 le:σ.at_≤E.ts.length
 n:E.ts.length≤1000
 deep:σ.bad=false→0≤σ.deep∧σ.deep≤60
theorem SP.lt {E:SEnv} {H:Heap} {σ:St} (h:SP E H σ):E.p<H.size:=lt_of_get h.obj
theorem SP.grow {E:SEnv} {H H':Heap} {σ:St} (h:SP E H σ) (he:Ext [] H H'):SP E H' σ:=
 ⟨he.get _ _ h.obj (by simp),h.tok.ext he (by simp),h.row,h.le,h.n,h.deep⟩
theorem SP.set {E:SEnv} {H H':Heap} {σ σ':St} (h:SP E H σ) (he:Ext [E.p] H H') (ho:H'[E.p]?=some (E.obj σ')) (hle:σ'.at_≤E.ts.length) (hd:σ'.bad=false→0≤σ'.deep∧σ'.deep≤60):SP E H' σ':=
 ⟨ho,h.tok.ext he fun r hr=>by
  simp only[List.mem_singleton]
  rintro rfl
  exact h.row hr,h.row,hle,h.n,hd⟩
theorem rest_lt {E:SEnv} {i:Nat} (h:i<E.ts.length):E.rest i=E.ts[i].p::E.rest (i+1):=by
 unfold SEnv.rest
 rw[List.drop_eq_getElem_cons h]
 rfl
theorem rest_ge {E:SEnv} {i:Nat} (h:E.ts.length≤i):E.rest i=[]:=by
 unfold SEnv.rest
 rw[List.drop_of_length_le h]
 rfl
theorem rest_tail {E:SEnv} {i:Nat}:(E.rest i).tail=E.rest (i+1):=by
 by_cases h:i<E.ts.length
 ·rw[rest_lt h];rfl
 ·rw[rest_ge (by omega),rest_ge (by omega)];rfl
theorem kd_rest {E:SEnv} {i:Nat} (h:kd (E.rest i)≠1):i<E.ts.length:=by
 refine Decidable.byContradiction fun hn=>h ?_
 rw[rest_ge (by omega)];rfl
theorem tkL_get (ts:List Tk) (i j:Nat) (hj:j<4):(tkL ts)[i*4+j]?=(ts[i]?).bind fun t=>t.vals[j]?:=by
 induction ts generalizing i with
 |nil=>simp[tkL]
 |cons t r ih=>
  have e:tkL (t::r)=t.vals++tkL r:=rfl
  have hl:t.vals.length=4:=rfl
  rw[e]
  cases i with
  |zero=>rw[List.getElem?_append_left (by omega)];simp
  |succ i=>
   rw[List.getElem?_append_right (by omega),hl,show(i+1)*4+j -4=i*4+j by omega,ih]
   simp
theorem SP.cell {E:SEnv} {H:Heap} {σ:St} (h:SP E H σ) {i:Nat} (hi:i<E.ts.length) {j o:Nat} (hj:j<4) (ho:o=offOf E.ta+(i*4+j)) {v:Value} (hv:E.ts[i].vals[j]?=some v):
 IxOk E.ta (i:Int) E.ts.length∧loadC H false 1 ⟨blkOf E.ta,o,none⟩=some v:=by
 have hg:(tkL E.ts)[i*4+j]?=some v:=by rw[tkL_get _ _ _ hj,List.getElem?_eq_getElem hi];exact hv
 obtain⟨h1,r,h2⟩:=h.tok.load hg
 subst ho
 exact⟨⟨by rw[h2];rfl,by omega,by omega⟩,h1⟩
def St.fail (σ:St):St:=if σ.bad=true then σ else{σ with bad:=true,wrong:=σ.at_}
theorem kindS {E:SEnv} {H:Heap} {σ:St} (sp:SP E H σ) (a:Nat) (ha:a≤1000) {K:Int→Heap→Prop} (hk:K (kd (E.rest (σ.at_+a))) H):
 callW PP fq19 #[.pointer (some ⟨E.p,0,none⟩),.int .i64 (a:Int)] H (pInt .i64) K:=by
 have hle:=sp.le
 have hn:=sp.n
 refine(show Fn PP _ _ H fun v H'=>v= .int .i64 (kd (E.rest (σ.at_+a)))∧H'=H from ?_).mono ?_
 ·refine spKind.enter _ _ H _ ?_
  unfold spKind.W
  have hw:IntKind.i64.wrap ((σ.at_:Int)+(a:Int))=((σ.at_+a:Nat):Int):=by rw[i64w (by omega)];omega
  refine⟨(σ.at_:Int),lcO sp.obj rfl,(E.ta,E.ts.length,E.tc),lcO sp.obj rfl,?_⟩
  dsimp only
  rw[hw]
  refine fkI (fun hh=>?_) (fun hh=>?_)
  ·rw[rest_ge (by simp at hh;omega)]
   exact rkI ⟨rfl,rfl⟩
  ·have hlt:σ.at_+a<E.ts.length:=by simp at hh;omega
   refine⟨(E.ta,E.ts.length,E.tc),lcO sp.obj rfl,(σ.at_:Int),lcO sp.obj rfl,?_⟩
   dsimp only
   rw[hw]
   have hc:=sp.cell hlt (j:=0) (o:=offOf E.ta+((σ.at_+a:Nat):Int).toNat*4) (by omega) (by omega) (v:= .int .i64 E.ts[σ.at_+a].kind) rfl
   refine⟨hc.1,E.ts[σ.at_+a].kind,hc.2,?_⟩
   rw[rest_lt hlt]
   exact rkI ⟨rfl,rfl⟩
 ·rintro _ _ ⟨rfl,rfl⟩
  exact⟨_,rfl,hk⟩
theorem failO {E:SEnv} {H:Heap} {σ:St} (ho:H[E.p]?=some (E.obj σ)) {K:(Option Addr×Nat×Nat)→Heap→Prop} (hk: ∀H',Ext [E.p] H H'→H'[E.p]?=some (E.obj σ.fail)→K (none,0,0) H'):
 callW PP fq13 #[.pointer (some ⟨E.p,0,none⟩)] H pSlc K:=by
 refine(show Fn PP _ _ H fun v H'=>v= .slice none 0 0∧Ext [E.p] H H'∧H'[E.p]?=some (E.obj σ.fail) from ?_).mono ?_
 ·refine spFail.enter _ H _ ?_
  unfold spFail.W
  refine⟨σ.bad,lcO ho rfl,?_⟩
  refine⟨fun _ H'=>Ext [E.p] H H'∧H'[E.p]?=some (E.obj σ.fail),?_,?_⟩
  ·refine fkI (fun hb=>?_) (fun hb=>?_)
   ·have hb':σ.bad=false:=by simpa using hb
    refine⟨(σ.at_:Int),lcO ho rfl,?_⟩
    refine swI ho (by simp) rfl rfl fun H1 e1 h1 x1 s1=>?_
    have h1':H1[E.p]?=some (E.obj {σ with bad:=true}):=h1
    refine swI h1' (by simp) rfl rfl fun H2 e2 h2 x2 s2=>?_
    have h2':H2[E.p]?=some (E.obj {σ with bad:=true,wrong:=σ.at_}):=h2
    have hf:σ.fail= {σ with bad:=true,wrong:=σ.at_}:=by unfold St.fail;rw[if_neg (by rw[hb'];decide)]
    rw[hf]
    exact⟨x1.trans x2,h2'⟩
   ·have hb':σ.bad=true:=by simpa using hb
    have hf:σ.fail=σ:=by unfold St.fail;rw[if_pos hb']
    rw[hf]
    exact⟨Ext.refl _ _,ho⟩
  ·rintro⟨_⟩ H1 ⟨x1,s1⟩
   exact rkI ⟨rfl,x1,s1⟩
 ·rintro _ H' ⟨rfl,x,s⟩
  exact⟨(none,0,0),rfl,hk H' x s⟩
theorem fail_bad (σ:St):σ.fail.bad=true:=by
 unfold St.fail
 split
 ·assumption
 ·rfl
theorem fail_at (σ:St):σ.fail.at_=σ.at_:=by
 unfold St.fail
 split<;>rfl
theorem failS {E:SEnv} {H:Heap} {σ:St} (sp:SP E H σ) {K:(Option Addr×Nat×Nat)→Heap→Prop} (hk: ∀H',Ext [E.p] H H'→SP E H' σ.fail→K (none,0,0) H'):
 callW PP fq13 #[.pointer (some ⟨E.p,0,none⟩)] H pSlc K:=
 failO sp.obj fun H' x ho=>hk H' x (sp.set x ho (by rw[fail_at];exact sp.le) (fun h=>by rw[fail_bad] at h;cases h))
theorem takenS {E:SEnv} {H:Heap} {σ:St} (sp:SP E H σ) {k:Int} (h1:k≠1) {K:Bool→Heap→Prop} (hy:σ.bad=false→kd (E.rest σ.at_)=k→ ∀H',Ext [E.p] H H'→SP E H' {σ with at_:=σ.at_+1}→K true H')
 (hn:(σ.bad=true∨kd (E.rest σ.at_)≠k)→K false H):callW PP fq55 #[.pointer (some ⟨E.p,0,none⟩),.int .i64 k] H pBool K:=by
 have hle:=sp.le
 have hnn:=sp.n
 by_cases hc:σ.bad=true∨kd (E.rest σ.at_)≠k
 ·refine(show Fn PP _ _ H fun v H'=>v= .bool false∧H'=H from ?_).mono ?_
  ·refine spTaken.enter _ _ H _ ?_
   unfold spTaken.W
   refine⟨fun y H'=>y.1=true∧H'=H,?_,?_⟩
   ·refine⟨σ.bad,lcO sp.obj rfl,fkI (fun _=>⟨rfl,rfl⟩) (fun hb=>?_)⟩
    refine kindS sp 0 (by omega) ?_
    rcases hc with hc|hc
    ·rw[hc] at hb;cases hb
    ·exact⟨by simpa using hc,rfl⟩
   ·rintro⟨_,_⟩ _ ⟨rfl,rfl⟩
    dsimp only
    exact fkI (fun _=>rkI ⟨rfl,rfl⟩) (fun hh=>absurd hh (by decide))
  ·rintro _ _ ⟨rfl,rfl⟩
   exact⟨false,rfl,hn hc⟩
 ·have hb:σ.bad=false:=by
   cases h:σ.bad with
   |false=>rfl
   |true=>exact absurd (.inl h) hc
  have hk:kd (E.rest σ.at_)=k:=Decidable.byContradiction fun h=>hc (.inr h)
  have hlt:σ.at_<E.ts.length:=kd_rest (by rw[hk];exact h1)
  refine(show Fn PP _ _ H fun v H'=>v= .bool true∧Ext [E.p] H H'∧SP E H' {σ with at_:=σ.at_+1} from ?_).mono ?_
  ·refine spTaken.enter _ _ H _ ?_
   unfold spTaken.W
   refine⟨fun y H'=>y.1=false∧H'=H,?_,?_⟩
   ·refine⟨σ.bad,lcO sp.obj rfl,fkI (fun hh=>by rw[hb] at hh;cases hh) (fun _=>?_)⟩
    refine kindS sp 0 (by omega) ?_
    exact⟨by rw[Nat.add_zero,hk];simp,rfl⟩
   ·rintro⟨_,_⟩ _ ⟨rfl,rfl⟩
    dsimp only
    refine fkI (fun hh=>absurd hh (by decide)) (fun _=>?_)
    refine⟨(σ.at_:Int),lcO sp.obj rfl,?_⟩
    dsimp only
    rw[wrap1 (k:=σ.at_) (by omega)]
    refine swI sp.obj (by simp) rfl rfl fun H1 e1 h1 x1 s1=>?_
    exact rkI ⟨rfl,x1,sp.set x1 h1 (by dsimp only;omega) sp.deep⟩
  ·rintro _ H' ⟨rfl,x,s⟩
   exact⟨true,rfl,hy hb hk H' x s⟩
theorem mustS {E:SEnv} {H:Heap} {σ:St} (sp:SP E H σ) {k:Int} (h1:k≠1) {K:Unit→Heap→Prop} (hy:σ.bad=false→kd (E.rest σ.at_)=k→ ∀H',Ext [E.p] H H'→SP E H' {σ with at_:=σ.at_+1}→K () H')
 (hn:(σ.bad=true∨kd (E.rest σ.at_)≠k)→ ∀H',Ext [E.p] H H'→SP E H' σ.fail→K () H'):callW PP fq53 #[.pointer (some ⟨E.p,0,none⟩),.int .i64 k] H ⟨Unit,fun _=> .tuple #[]⟩ K:=by
 refine(show Fn PP _ _ H fun v H'=>v= .tuple #[]∧K () H' from ?_).mono ?_
 ·refine spMust.enter _ _ H _ ?_
  unfold spMust.W
  refine takenS sp h1 (fun hb hk H1 x1 s1=>?_) (fun hc=>?_)
  ·refine⟨fun _ H'=>K () H',fkI (fun hh=>absurd hh (by decide)) (fun _=>hy hb hk H1 x1 s1),?_⟩
   rintro⟨_⟩ H2 h2
   exact rkI ⟨rfl,h2⟩
  ·refine⟨fun _ H'=>K () H',fkI (fun _=>failS sp fun H1 x1 s1=>hn hc H1 x1 s1) (fun hh=>absurd hh (by decide)),?_⟩
   rintro⟨_⟩ H2 h2
   exact rkI ⟨rfl,h2⟩
 ·rintro _ H' ⟨rfl,h⟩
  exact⟨(),rfl,h⟩
def SEnv.val (E:SEnv) (i:Nat):ByteArray:=match E.ts[i]? with
 |some t=>t.value
 |none=>eB
theorem isW_val {E:SEnv} {i:Nat} (h:kd (E.rest i)=15) (w:ByteArray):((E.val i).toList==w.toList)=isW w (E.rest i):=by
 have hlt:i<E.ts.length:=kd_rest (by rw[h];decide)
 have h':=h
 rw[rest_lt hlt] at h'⊢
 have hk:E.ts[i].kind=15:=h'
 unfold SEnv.val
 rw[List.getElem?_eq_getElem hlt]
 simp[isW,hk]
theorem nameS {E:SEnv} {H:Heap} {σ:St} (sp:SP E H σ) {K:ByteArray→Heap→Prop} (hy:σ.bad=false→kd (E.rest σ.at_)=15→ ∀H',Ext [E.p] H H'→SP E H' {σ with at_:=σ.at_+1}→K (E.val σ.at_) H')
 (hn:(σ.bad=true∨kd (E.rest σ.at_)≠15)→ ∀H',Ext [E.p] H H'→SP E H' σ.fail→K (bs []) H'):callW PP fq22 #[.pointer (some ⟨E.p,0,none⟩)] H pStr K:=by
 have hle:=sp.le
 have hnn:=sp.n
 by_cases hc:σ.bad=true∨kd (E.rest σ.at_)≠15
 ·refine(show Fn PP _ _ H fun v H'=>v= .string (bs [])∧K (bs []) H' from ?_).mono ?_
  ·refine spName.enter _ H _ ?_
   unfold spName.W
   refine⟨fun y H'=>y.1=true∧H'=H,?_,?_⟩
   ·refine⟨σ.bad,lcO sp.obj rfl,fkI (fun _=>⟨rfl,rfl⟩) (fun hb=>?_)⟩
    refine kindS sp 0 (by omega) ?_
    rcases hc with hc|hc
    ·rw[hc] at hb;cases hb
    ·exact⟨by simpa using hc,rfl⟩
   ·rintro⟨_,_⟩ _ ⟨rfl,rfl⟩
    dsimp only
    refine fkI (fun _=>?_) (fun hh=>absurd hh (by decide))
    exact failS sp fun H1 x1 s1=>rkI ⟨rfl,hn hc H1 x1 s1⟩
  ·rintro _ H' ⟨rfl,h⟩
   exact⟨_,rfl,h⟩
 ·have hb:σ.bad=false:=by
   cases h:σ.bad with
   |false=>rfl
   |true=>exact absurd (.inl h) hc
  have hk:kd (E.rest σ.at_)=15:=Decidable.byContradiction fun h=>hc (.inr h)
  have hlt:σ.at_<E.ts.length:=kd_rest (by rw[hk];decide)
  refine(show Fn PP _ _ H fun v H'=>v= .string (E.val σ.at_)∧Ext [E.p] H H'∧SP E H' {σ with at_:=σ.at_+1} from ?_).mono ?_
  ·refine spName.enter _ H _ ?_
   unfold spName.W
   refine⟨fun y H'=>y.1=false∧H'=H,?_,?_⟩
   ·refine⟨σ.bad,lcO sp.obj rfl,fkI (fun hh=>by rw[hb] at hh;cases hh) (fun _=>?_)⟩
    refine kindS sp 0 (by omega) ?_
    exact⟨by rw[Nat.add_zero,hk];rfl,rfl⟩
   ·rintro⟨_,_⟩ _ ⟨rfl,rfl⟩
    dsimp only
    refine fkI (fun hh=>absurd hh (by decide)) (fun _=>?_)
    refine⟨(σ.at_:Int),lcO sp.obj rfl,?_⟩
    dsimp only
    rw[wrap1 (k:=σ.at_) (by omega)]
    refine swI sp.obj (by simp) rfl rfl fun H1 e1 h1 x1 s1=>?_
    have h1':H1[E.p]?=some (E.obj {σ with at_:=σ.at_+1}):=h1
    have sp1:=sp.set x1 h1' (by dsimp only;omega) sp.deep
    refine⟨(E.ta,E.ts.length,E.tc),lcO h1' rfl,((σ.at_+1:Nat):Int),lcO h1' rfl,?_⟩
    dsimp only
    have hw:IntKind.i64.wrap (((σ.at_+1:Nat):Int) -1)=(σ.at_:Int):=by rw[i64w (by omega)];omega
    rw[hw]
    have hv:E.val σ.at_=E.ts[σ.at_].value:=by unfold SEnv.val;rw[List.getElem?_eq_getElem hlt]
    have hcl:=sp1.cell hlt (j:=1) (o:=offOf E.ta+((σ.at_:Nat):Int).toNat*4+1) (by omega) (by omega) (v:= .string E.ts[σ.at_].value) rfl
    refine⟨hcl.1,E.ts[σ.at_].value,hcl.2,?_⟩
    rw[hv]
    exact rkI ⟨rfl,x1,sp1⟩
  ·rintro _ H' ⟨rfl,x,s⟩
   exact⟨_,rfl,hy hb hk H' x s⟩
theorem wordS {E:SEnv} {H:Heap} {σ:St} (sp:SP E H σ) (w:ByteArray) {K:Bool→Heap→Prop} (hk:K (isW w (E.rest σ.at_)) H):
 callW PP fq28 #[.pointer (some ⟨E.p,0,none⟩),.int .i64 0,.string w] H pBool K:=by
 have hle:=sp.le
 have hnn:=sp.n
 refine(show Fn PP _ _ H fun v H'=>v= .bool (isW w (E.rest σ.at_))∧H'=H from ?_).mono ?_
 ·refine spWord.enter _ _ _ H _ ?_
  unfold spWord.W
  refine kindS sp 0 (by omega) ?_
  rw[Nat.add_zero]
  refine fkI (fun hh=>?_) (fun hh=>?_)
  ·have hk15:kd (E.rest σ.at_)=15:=by simpa using hh
   have hlt:σ.at_<E.ts.length:=kd_rest (by rw[hk15];decide)
   refine⟨(E.ta,E.ts.length,E.tc),lcO sp.obj rfl,(σ.at_:Int),lcO sp.obj rfl,?_⟩
   dsimp only
   have hw:IntKind.i64.wrap ((σ.at_:Int)+0)=(σ.at_:Int):=by rw[i64w (by omega)];omega
   rw[hw]
   have hcl:=sp.cell hlt (j:=1) (o:=offOf E.ta+((σ.at_:Nat):Int).toNat*4+1) (by omega) (by omega) (v:= .string E.ts[σ.at_].value) rfl
   refine⟨hcl.1,E.ts[σ.at_].value,hcl.2,?_⟩
   dsimp only
   have hv:E.val σ.at_=E.ts[σ.at_].value:=by unfold SEnv.val;rw[List.getElem?_eq_getElem hlt]
   rw[←hv,isW_val hk15]
   exact rkI ⟨rfl,rfl⟩
  ·have hk15:kd (E.rest σ.at_)≠15:=by simpa using hh
   have:isW w (E.rest σ.at_)=false:=isW_no hk15
   rw[this]
   exact rkI ⟨rfl,rfl⟩
 ·rintro _ _ ⟨rfl,rfl⟩
  exact⟨_,rfl,hk⟩
theorem textS {E:SEnv} {H:Heap} {σ:St} (sp:SP E H σ) {K:Unit→Heap→Prop} (hk: ∀H' u,Ext [E.p] H H'→SP E H' {σ with unsure:=u}→(σ.unsure=true→u=true)→(kd (E.rest σ.at_)=18∨kd (E.rest σ.at_)=19→u=true)→K () H'):
 callW PP fq59 #[.pointer (some ⟨E.p,0,none⟩)] H ⟨Unit,fun _=> .tuple #[]⟩ K:=by
 have put: ∀(u:Bool) {K':Heap→Prop},(∀H',Ext [E.p] H H'→SP E H' {σ with unsure:=u}→K' H')→storeW H ⟨E.p,5,none⟩ [.bool u] K':=by
  intro u K' h
  refine swI sp.obj (by simp) rfl rfl fun H1 e1 h1 x1 s1=>?_
  exact h H1 x1 (sp.set x1 h1 sp.le sp.deep)
 refine(show Fn PP _ _ H fun v H'=>v= .tuple #[]∧K () H' from ?_).mono ?_
 ·refine spText.enter _ H _ ?_
  unfold spText.W
  refine⟨σ.unsure,lcO sp.obj rfl,?_⟩
  refine fkI (fun hu=>put true fun H1 x1 s1=>rkI ⟨rfl,hk H1 true x1 s1 (fun _=>rfl) (fun _=>rfl)⟩) (fun hu=>?_)
  refine kindS sp 0 (by omega) ?_
  rw[Nat.add_zero]
  refine fkI (fun hh=>put true fun H1 x1 s1=>rkI ⟨rfl,hk H1 true x1 s1 (fun _=>rfl) (fun _=>rfl)⟩) (fun h18=>?_)
  refine kindS sp 0 (by omega) ?_
  rw[Nat.add_zero]
  refine put _ fun H1 x1 s1=>rkI ⟨rfl,hk H1 _ x1 s1 (fun h=>?_) (fun h=>?_)⟩
  ·rw[h] at hu;cases hu
  ·rcases h with h|h
   ·rw[h] at h18;cases h18
   ·rw[h];rfl
 ·rintro _ H' ⟨rfl,h⟩
  exact⟨(),rfl,h⟩
theorem someS {E:SEnv} {H:Heap} {σ:St} (sp:SP E H σ) {k:Int} (h1:σ.bad=false→1≤σ.at_) {K:Unit→Heap→Prop} (hy:σ.bad=false→kd (E.rest σ.at_)=k→ ∀H',Ext [E.p] H H'→SP E H' {σ with at_:=σ.at_ -1,bad:=true,wrong:=σ.at_ -1}→K () H')
 (hn:(σ.bad=true∨kd (E.rest σ.at_)≠k)→K () H):callW PP fq54 #[.pointer (some ⟨E.p,0,none⟩),.int .i64 k] H ⟨Unit,fun _=> .tuple #[]⟩ K:=by
 have hle:=sp.le
 have hnn:=sp.n
 refine(show Fn PP _ _ H fun v H'=>v= .tuple #[]∧K () H' from ?_).mono ?_
 ·refine spSome.enter _ _ H _ ?_
  unfold spSome.W
  refine⟨fun y H'=>y.1=(!σ.bad&&kd (E.rest σ.at_)==k)∧H'=H,?_,?_⟩
  ·refine⟨σ.bad,lcO sp.obj rfl,fkI (fun hb=>?_) (fun hb=>⟨by rw[hb];rfl,rfl⟩)⟩
   refine kindS sp 0 (by omega) ?_
   rw[Nat.add_zero]
   exact⟨by rw[hb];rfl,rfl⟩
  ·rintro⟨y,_⟩ H2 ⟨hy2,rfl⟩
   dsimp only at hy2⊢
   refine⟨fun _ H'=>K () H',fkI (fun hh=>?_) (fun hh=>?_),?_⟩
   ·rw[hy2,Bool.and_eq_true] at hh
    have hb:σ.bad=false:=by simpa using hh.1
    have hk:kd (E.rest σ.at_)=k:=by simpa using hh.2
    have h1:=h1 hb
    refine⟨(σ.at_:Int),lcO sp.obj rfl,?_⟩
    have hw:IntKind.i64.wrap ((σ.at_:Int) -1)=((σ.at_ -1:Nat):Int):=by rw[i64w (by omega)];omega
    dsimp only
    rw[hw]
    refine swI sp.obj (by simp) rfl rfl fun H1 e1 h1 x1 s1=>?_
    have sp1:SP E H1 {σ with at_:=σ.at_ -1}:=sp.set x1 h1 (by dsimp only;omega) sp.deep
    refine failS sp1 fun H2 x2 s2=>?_
    have hf:St.fail {σ with at_:=σ.at_ -1}= {σ with at_:=σ.at_ -1,bad:=true,wrong:=σ.at_ -1}:=by unfold St.fail;rw[if_neg (by dsimp only;rw[hb];decide)]
    rw[hf] at s2
    exact hy hb hk H2 (x1.trans x2) s2
   ·refine hn ?_
    rw[hy2] at hh
    cases hb:σ.bad with
    |true=>exact .inl rfl
    |false=>
     rw[hb] at hh
     exact .inr (by simpa using hh)
   ·rintro⟨_⟩ H3 h3
    exact rkI ⟨rfl,h3⟩
 ·rintro _ H' ⟨rfl,h⟩
  exact⟨(),rfl,h⟩
theorem enterS {E:SEnv} {H:Heap} {σ:St} (sp:SP E H σ) {K:Bool→Heap→Prop} (hy:σ.bad=false→σ.deep<60→ ∀H',Ext [E.p] H H'→SP E H' {σ with deep:=σ.deep+1}→K true H')
 (hn: ∀H' d u,Ext [E.p] H H'→SP E H' {σ.fail with deep:=d,unsure:=u}→(σ.unsure=true→u=true)→(σ.bad=false→u=true)→K false H'):
 callW PP fq52 #[.pointer (some ⟨E.p,0,none⟩)] H pBool K:=by
 refine(show Fn PP _ _ H fun v H'=> ∃b:Bool,v= .bool b∧K b H' from ?_).mono ?_
 ·refine spEnter.enter _ H _ ?_
  unfold spEnter.W
  refine⟨σ.deep,lcO sp.obj rfl,?_⟩
  dsimp only
  generalize hd:IntKind.i64.wrap (σ.deep+1)=d
  refine swI sp.obj (by simp) rfl rfl fun H1 e1 h1 x1 s1=>?_
  have h1':H1[E.p]?=some (E.obj {σ with deep:=d}):=h1
  have hdd:σ.bad=false→d=σ.deep+1:=fun hb=>by
   have:=sp.deep hb
   rw[←hd,i64w (by omega)]
  refine⟨d,lcO h1' rfl,?_⟩
  by_cases h60:d>60
  ·refine⟨fun _ H'=>Ext [E.p] H H'∧SP E H' {σ.fail with deep:=d,unsure:=true},fkI (fun _=>?_) (fun hh=>by exfalso;simp at hh;omega),?_⟩
   ·refine swI h1' (by simp) rfl rfl fun H2 e2 h2 x2 s2=>?_
    have h2':H2[E.p]?=some (E.obj {σ with deep:=d,unsure:=true}):=h2
    refine failO h2' fun H3 x3 h3=>⟨(x1.trans x2).trans x3,?_⟩
    have hf:St.fail {σ with deep:=d,unsure:=true}= {σ.fail with deep:=d,unsure:=true}:=by unfold St.fail;split<;>rfl
    rw[hf] at h3
    exact sp.set ((x1.trans x2).trans x3) h3 (by show σ.fail.at_≤_;rw[fail_at];exact sp.le) (fun h=>absurd ((fail_bad σ).symm.trans h) (by decide))
   ·rintro⟨_⟩ H3 ⟨x3,s3⟩
    have hbad:=fail_bad σ
    refine⟨σ.fail.bad,lcO s3.obj rfl,?_⟩
    rw[hbad]
    exact rkI ⟨false,rfl,hn H3 d true x3 s3 (fun _=>rfl) (fun _=>rfl)⟩
  ·refine⟨fun _ H'=>H'=H1,fkI (fun hh=>by exfalso;simp at hh;omega) (fun _=>rfl),?_⟩
   rintro⟨_⟩ _ rfl
   refine⟨σ.bad,lcO h1' rfl,?_⟩
   cases hb:σ.bad with
   |false=>
    have h9:=hdd hb
    have:=sp.deep hb
    refine rkI ⟨true,rfl,hy hb (by omega) _ x1 (sp.set x1 (by rw[h9] at h1';exact h1') sp.le (fun _=>by dsimp only;omega))⟩
   |true=>
    refine rkI ⟨false,rfl,hn _ d σ.unsure x1 ?_ id (fun h=>by rw[hb] at h;cases h)⟩
    have hf:({σ.fail with deep:=d,unsure:=σ.unsure}:St)= {σ with deep:=d}:=by unfold St.fail;rw[if_pos hb]
    rw[hf]
    exact sp.set x1 h1' sp.le (fun h=>by rw[show σ.bad=false from h] at hb;cases hb)
 ·rintro _ H' ⟨b,rfl,h⟩
  exact⟨b,rfl,h⟩
abbrev Sli:=Option Addr×Nat×Nat
def sliV (b:Sli):Value:= .slice b.1 b.2.1 b.2.2
def NewsOk (y:Sli) (G:Heap):Prop:= ∃xs:List Value,NewsS G 6 y.1 y.2.1 xs∧ ∀u∈xs,u.oneCell'=true
theorem NewsOk.nil (G:Heap):NewsOk (none,0,0) G:=⟨[],⟨rfl,fun _=>rfl,fun _ h=>by cases h⟩,by simp⟩
theorem NewsS.of_own {H:Heap} {e size:Nat} {a:Option Addr} {n c:Nat} {xs:List Value} (h:OwnS H e size a n c xs):NewsS H size a n xs:=by
 refine⟨h.1,fun ha=>?_,fun ad ha j u hu=>?_⟩
 ·subst ha
  rcases h.2 with⟨_,h0,_⟩|⟨g,_,hg,_⟩
  ·exact h0
  ·cases hg
 ·subst ha
  rcases h.2 with⟨h0,_⟩|⟨g,cur,hg,hb,_,_,hs,ht⟩
  ·cases h0
  ·cases hg
   have hj:=(List.getElem?_eq_some_iff.1 hu).1
   rw[h.1] at hj
   rw[←ht,List.getElem?_take] at hu
   simp only[hj,if_true] at hu
   rw[addr_add]
   simp only[cellAt,hb,Nat.zero_add]
   simpa using hu
def sumL (bs:List Sli):Nat:=(bs.map fun b=>b.2.1).sum
theorem sumL_snoc (bs:List Sli) (b:Sli):sumL (bs++[b])=sumL bs+b.2.1:=by simp[sumL]
theorem sumL_take (bs:List Sli) (k:Nat):sumL (bs.take k)≤sumL bs:=by
 have h:sumL bs=sumL (bs.take k)+sumL (bs.drop k):=by
  unfold sumL
  rw[←List.sum_append,←List.map_append,List.take_append_drop]
 omega
theorem made_ok (n:Nd) (kids:Option Addr) (kn kc:Nat) (bs:List Sli) (H:Heap) (hs:SlcAt H kids kn (bs.map sliV)) (hb: ∀b∈bs,NewsOk b H) (hlen:bs.length≤100000) (hsum:sumL bs≤1000000):
 Fn PP fq14 #[.agg #[.int .i64 n.kind,.string n.name,.string n.alias,.string n.text,.int .i64 n.flag,.int .i64 n.size],.slice kids kn kc] H fun v H'=>
  ∃y:Sli,v= .slice y.1 y.2.1 y.2.2∧Ext [] H H'∧y.2.1=1+sumL bs∧Born H H' (NewsOk y):=by
 have hkn:kn=bs.length:=by have:=hs.1;simpa using this
 refine Made.enter n kids kn kc H _ ?_
 unfold Made.W
 refine nbI fun H1 e1 hb1 x1 s1=>?_
 refine⟨(n.kind,n.name,n.alias,n.text,n.flag,n.size),lcO hb1 rfl,?_⟩
 dsimp only
 refine nbI fun H2 e2 hb2 x2 s2=>?_
 have y2:Ext [] H H2:=x1.trans x2
 have hml:10000000≤maxLen:=by decide
 have own0:OwnS H2 tq63 6 (some ⟨H1.size,0,none⟩) 1 1 [.int .i64 n.kind,.string n.name,.string n.alias,.string n.text,.int .i64 n.flag,.int .i64 n.size]:=
  ⟨rfl,.inr ⟨H1.size,_,rfl,hb2,Nat.le_refl _,by omega,rfl,rfl⟩⟩
 refine⟨fun z H'=> ∃k:Nat,z.2.1=(k:Int)∧k≤bs.length∧Ext [] H H'∧(∃xs,OwnS H' tq63 6 z.1.1 z.1.2.1 z.1.2.2 xs∧ ∀u∈xs,u.oneCell'=true)∧z.1.2.1=1+sumL (bs.take k)∧(∀r,rowOf z.1.1=some r→H.size≤r),
  fun z _=>bs.length -z.2.1.toNat,⟨0,rfl,Nat.zero_le _,y2,⟨_,own0,by simp[Value.oneCell']⟩,rfl,fun r hr=>by cases hr;show H.size≤H1.size;omega⟩,?_⟩
 rintro⟨⟨a,m,c⟩,i,_⟩ H3 ⟨k,hk,hkl,x3,⟨xs,own,hone⟩,hm,hrow⟩
 dsimp only at hk own hm hrow⊢
 subst hk
 have hst:=sumL_take bs k
 refine fkI (fun hlt=>?_) (fun hge=>?_)
 ·have hlt':k<bs.length:=by simp at hlt;omega
  have hs3:=hs.ext x3 (by simp)
  have hL:=hs3.load (i:=k) (v:=sliV bs[k]) (by simp[hlt'])
  refine⟨hL.1,bs[k],hL.2,?_⟩
  obtain⟨news,hn,hno⟩:=hb bs[k] (List.getElem_mem hlt')
  have hn3:NewsS H3 6 bs[k].1 bs[k].2.1 news:=by
   refine⟨hn.1,hn.2.1,fun ad ha j u hu=>?_⟩
   have:=hn.2.2 ad ha j u hu
   unfold cellAt at this⊢
   split at this
   ·rename_i h;rw[x3.get _ _ h (by simp)];exact this
   ·cases this
  have htk:sumL (bs.take (k+1))=sumL (bs.take k)+bs[k].2.1:=by
   rw[List.take_add_one,List.getElem?_eq_getElem hlt']
   exact sumL_snoc _ _
  have hst1:=sumL_take bs (k+1)
  refine .inr ⟨_,_,own,hn3,hno,by omega,by omega,?_⟩
  intro a4 c4 H4 o4 g4 _ hrow4
  have hw:IntKind.i64.wrap ((k:Int)+1)=((k+1:Nat):Int):=by rw[i64w (by omega)];omega
  rw[hw]
  refine⟨⟨k+1,rfl,by omega,?_,⟨_,o4,fun u hu=>?_⟩,by omega,fun r hr=>?_⟩,by omega⟩
  ·refine⟨by have:=x3.size;have:=g4.size;omega,fun q o hq ho=>?_⟩
   have h2:=x3.get _ _ hq ho
   rw[g4.block q (lt_of_get h2) fun eq=>?_,h2]
   have:=hrow q eq.symm
   have:=lt_of_get hq
   omega
  ·rcases List.mem_append.1 hu with h|h
   ·exact hone u h
   ·exact hno u h
  ·rcases hrow4 with h|h
   ·exact hrow r (by rw[←h];exact hr)
   ·rw[h] at hr;cases hr;exact x3.size
 ·have hkk:k=bs.length:=by simp at hge;omega
  subst hkk
  rw[List.take_length] at hm
  rcases own.2 with⟨_,h0,_⟩|⟨g,cur,rfl,hg,hmc,hcM,hcs,hct⟩
  ·omega
  have hgr:=hrow g rfl
  refine⟨ix_some (Int.le_refl _) (by omega),?_⟩
  refine swI hg (by simp[offOf];omega) rfl rfl fun H4 e4 hb4 x4 s4=>?_
  refine rkI ⟨(some ⟨g,0,none⟩,m,c),rfl,?_,hm,?_⟩
  ·refine⟨by have:=x3.size;omega,fun q o hq ho=>?_⟩
   have h2:=x3.get _ _ hq ho
   exact x4.get _ _ h2 (by have:=lt_of_get hq;simp[blkOf];omega)
  ·intro G hG
   have hb4':H4[g]?=some (.cells (cur.setIfInBounds 5 (.int .i64 ((m:Nat):Int))) tq63 (0,0)):=hb4
   have hG4:=hG g _ hgr hb4'
   refine⟨(cur.setIfInBounds 5 (.int .i64 ((m:Nat):Int))).toList.take (m*6),NewsS.of_own (e:=tq63) (c:=c) ⟨?_,.inr ⟨g,_,rfl,hG4,hmc,hcM,by simp[hcs],rfl⟩⟩,fun u hu=>?_⟩
   ·simp only[List.length_take,Array.length_toList,Array.size_setIfInBounds,hcs];omega
   ·obtain⟨j,hj⟩:=List.mem_iff_getElem?.1 hu
    rw[List.getElem?_take] at hj
    split at hj
    ·rename_i hjm
     rw[Array.toList_setIfInBounds,List.getElem?_set] at hj
     split at hj
     ·split at hj
      ·cases hj;rfl
      ·cases hj
     ·refine hone u (List.mem_iff_getElem?.2 ⟨j,?_⟩)
      rw[←hct,List.getElem?_take,if_pos hjm]
      exact hj
    ·cases hj
structure Mono (σ σ':St):Prop where
 un:σ.unsure=true→σ'.unsure=true
 bad:σ.bad=true→σ'.bad=true∧σ'.wrong=σ.wrong
 ok:σ'.bad=false→σ'.deep=σ.deep∧σ.at_≤σ'.at_
theorem Mono.refl (σ:St):Mono σ σ:=⟨id,fun h=>⟨h,rfl⟩,fun _=>⟨rfl,Nat.le_refl _⟩⟩
theorem Mono.trans {a b c:St} (h:Mono a b) (k:Mono b c):Mono a c:=by
 refine⟨fun x=>k.un (h.un x),fun x=>?_,fun x=>?_⟩
 ·obtain⟨h1,h2⟩:=h.bad x
  obtain⟨k1,k2⟩:=k.bad h1
  exact⟨k1,k2.trans h2⟩
 ·obtain⟨k1,k2⟩:=k.ok x
  have hb:b.bad=false:=by
   cases hb:b.bad with
   |false=>rfl
   |true=>have:=(k.bad hb).1;rw[x] at this;cases this
  obtain⟨h1,h2⟩:=h.ok hb
  exact⟨k1.trans h1,by omega⟩
def SEnv.res (E:SEnv) (σ:St):Bool×List PTk:=if σ.bad=true then(false,E.rest σ.wrong) else(true,E.rest σ.at_)
def Inv (E:SEnv) (G:Bool×List PTk→Prop) (g:Gr) (σ:St):Prop:=
 σ.unsure=false→(σ.bad=true→G (false,E.rest σ.wrong))∧(σ.bad=false→ ∀res,g (E.rest σ.at_)=some res→G res)
structure OutS (E:SEnv) (σ:St) (B:Nat) (g:Gr) (H:Heap) (y:Sli) (σ':St) (H':Heap):Prop where
 ext:Ext [E.p] H H'
 sp:SP E H' σ'
 nodes:Born H H' (NewsOk y)
 mono:Mono σ σ'
 l0:σ.bad=true→y.2.1≤1
 l1:σ'.bad=false→y.2.1≤2*(σ'.at_ -σ.at_)
 l2:y.2.1≤B
 gr: ∀G:Bool×List PTk→Prop,(σ.bad=true→G (false,E.rest σ.wrong))→(σ.bad=false→ ∀res,g (E.rest σ.at_)=some res→G res)→σ'.unsure=false→G (E.res σ')
def SpF (E:SEnv) (f:FuncId) (args:Array Value) (σ:St) (B:Nat) (g:Gr):Prop:= ∀H,SP E H σ→Fn PP f args H fun v H'=> ∃(y:Sli) (σ':St),v= .slice y.1 y.2.1 y.2.2∧OutS E σ B g H y σ' H'
theorem SpF.call {E:SEnv} {f:FuncId} {args:Array Value} {σ:St} {B:Nat} {g:Gr} (h:SpF E f args σ B g) {H:Heap} (sp:SP E H σ) {K:Sli→Heap→Prop} (hk: ∀y H' σ',OutS E σ B g H y σ' H'→K y H'):callW PP f args H pSlc K:=by
 refine(h H sp).mono ?_
 rintro _ H' ⟨y,σ',rfl,o⟩
 exact⟨y,rfl,hk y H' σ' o⟩
theorem bad_or (σ:St):σ.bad=true∨σ.bad=false:=by cases σ.bad<;>simp
theorem unsure_back {σ σ':St} (m:Mono σ σ') (h:σ'.unsure=false):σ.unsure=false:=by
 cases hu:σ.unsure with
 |false=>rfl
 |true=>rw[m.un hu] at h;cases h
theorem Inv.start {E:SEnv} {G:Bool×List PTk→Prop} {g:Gr} {σ:St} (h1:σ.bad=true→G (false,E.rest σ.wrong)) (h2:σ.bad=false→ ∀res,g (E.rest σ.at_)=some res→G res):Inv E G g σ:=fun _=>⟨h1,h2⟩
theorem Inv.fin {E:SEnv} {G:Bool×List PTk→Prop} {σ:St} (h:Inv E G gEnd σ) (hu:σ.unsure=false):G (E.res σ):=by
 unfold SEnv.res
 rcases bad_or σ with hb|hb
 ·rw[if_pos hb];exact(h hu).1 hb
 ·rw[if_neg (by rw[hb];decide)];exact(h hu).2 hb _ rfl
theorem Inv.step {E:SEnv} {G:Bool×List PTk→Prop} {a b:Gr} {σ σ':St} {B:Nat} {H H':Heap} {y:Sli} (h:Inv E G (gThen a b) σ) (o:OutS E σ B a H y σ' H'):Inv E G b σ':=by
 intro hu
 have hu0:=unsure_back o.mono hu
 have h0:=h hu0
 have key:=o.gr (fun r=>(r.1=false→G (false,r.2))∧(r.1=true→ ∀res,b r.2=some res→G res)) (fun hb=>⟨fun _=>h0.1 hb,fun h=>by cases h⟩) (fun hb res hr=>?_) hu
 ·unfold SEnv.res at key
  refine⟨fun hb=>?_,fun hb=>?_⟩
  ·rw[if_pos hb] at key
   exact key.1 rfl
  ·rw[if_neg (by rw[hb];decide)] at key
   exact key.2 rfl
 ·obtain⟨r1,r2⟩:=res
  refine⟨fun h1=>?_,fun h1=>?_⟩
  ·have h1':r1=false:=h1
   subst h1'
   exact h0.2 hb _ (by unfold gThen;rw[hr])
  ·have h1':r1=true:=h1
   subst h1'
   intro res hres
   exact h0.2 hb res (by unfold gThen;rw[hr];exact hres)
theorem Inv.sign {E:SEnv} {G:Bool×List PTk→Prop} {k:Int} {b:Gr} {σ:St} (h:Inv E G (gThen (gSign k) b) σ) (hb:σ.bad=false) (hk:kd (E.rest σ.at_)=k):Inv E G b {σ with at_:=σ.at_+1}:=by
 intro hu
 refine⟨fun hb2=>absurd ((show σ.bad=true from hb2).symm.trans hb) (by decide),fun _ res hr=>(h hu).2 hb res ?_⟩
 unfold gThen gSign
 rw[if_pos hk,rest_tail]
 exact hr
theorem Inv.nosign {E:SEnv} {G:Bool×List PTk→Prop} {k:Int} {b b':Gr} {σ:St} (h:Inv E G (gThen (gSign k) b) σ) (hk:σ.bad=true∨kd (E.rest σ.at_)≠k):Inv E G b' σ.fail:=by
 intro hu
 have hu':σ.unsure=false:=by unfold St.fail at hu;split at hu<;>exact hu
 refine⟨fun _=>?_,fun hb=>absurd ((fail_bad σ).symm.trans hb) (by decide)⟩
 rcases bad_or σ with hb|hb
 ·have:σ.fail=σ:=by unfold St.fail;rw[if_pos hb]
  rw[this];exact(h hu').1 hb
 ·have:σ.fail= {σ with bad:=true,wrong:=σ.at_}:=by unfold St.fail;rw[if_neg (by rw[hb];decide)]
  rw[this]
  refine(h hu').2 hb _ ?_
  have hk':kd (E.rest σ.at_)≠k:=by
   rcases hk with hk|hk
   ·rw[hk] at hb;cases hb
   ·exact hk
  unfold gThen gSign
  rw[if_neg hk']
theorem mono_fail (σ:St):Mono σ σ.fail:=by
 refine⟨fun h=>?_,fun h=>?_,fun h=>by rw[fail_bad] at h;cases h⟩
 ·unfold St.fail;split<;>exact h
 ·have:σ.fail=σ:=by unfold St.fail;rw[if_pos h]
  rw[this];exact⟨h,rfl⟩
theorem mono_next (σ:St):Mono σ {σ with at_:=σ.at_+1}:=⟨id,fun h=>⟨h,rfl⟩,fun _=>⟨rfl,Nat.le_succ _⟩⟩
theorem Inv.unsure {E:SEnv} {G:Bool×List PTk→Prop} {g:Gr} {σ:St} (h:Inv E G g σ) {u:Bool} (hu:σ.unsure=true→u=true):Inv E G g {σ with unsure:=u}:=by
 intro hv
 refine h ?_
 cases hs:σ.unsure with
 |false=>rfl
 |true=>exact absurd ((hu hs).symm.trans hv) (by decide)
theorem Inv.any {E:SEnv} {G:Bool×List PTk→Prop} {g:Gr} {σ:St} (h:σ.unsure=true):Inv E G g σ:=fun hu=>absurd (h.symm.trans hu) (by decide)
theorem Inv.of {E:SEnv} {G:Bool×List PTk→Prop} {g g':Gr} {σ:St} (h:Inv E G g σ) (hg:σ.bad=false→σ.unsure=false→ ∀res,g' (E.rest σ.at_)=some res→g (E.rest σ.at_)=some res):Inv E G g' σ:=
 fun hu=>⟨(h hu).1,fun hb res hr=>(h hu).2 hb res (hg hb hu res hr)⟩
theorem SP.unsure {E:SEnv} {H:Heap} {σ:St} (sp:SP E H σ) {u:Bool} {K:Heap→Prop} (hk: ∀H',Ext [E.p] H H'→SP E H' {σ with unsure:=u}→K H'):storeW H ⟨E.p,5,none⟩ [.bool u] K:=by
 refine swI sp.obj (by simp) rfl rfl fun H1 e1 h1 x1 s1=>?_
 exact hk H1 x1 (sp.set x1 h1 sp.le sp.deep)
theorem NewsOk.keep {y:Sli} {G G':Heap} {S:List Nat} (h:NewsOk y G) (he:Ext S G G') (hs: ∀r,rowOf y.1=some r→r∉S):NewsOk y G':=by
 obtain⟨xs,hn,ho⟩:=h
 refine⟨xs,⟨hn.1,hn.2.1,fun ad ha j u hu=>?_⟩,ho⟩
 have:=hn.2.2 ad ha j u hu
 unfold cellAt at this⊢
 split at this
 ·rename_i hb
  have hbl:(ad.add j).block=ad.block:=by unfold Addr.add;split<;>rfl
  rw[he.get _ _ hb (hs _ (by rw[ha,hbl];rfl))]
  exact this
 ·cases this
theorem leaveS {E:SEnv} {H:Heap} {σ:St} (sp:SP E H σ) {K:Unit→Heap→Prop} (h1:σ.bad=false→1≤σ.deep) (hk: ∀H' d,Ext [E.p] H H'→SP E H' {σ with deep:=d}→(σ.bad=false→d=σ.deep -1)→K () H'):
 callW PP fq57 #[.pointer (some ⟨E.p,0,none⟩)] H ⟨Unit,fun _=> .tuple #[]⟩ K:=by
 refine(show Fn PP _ _ H fun v H'=>v= .tuple #[]∧K () H' from ?_).mono ?_
 ·refine spLeave.enter _ H _ ?_
  unfold spLeave.W
  refine⟨σ.deep,lcO sp.obj rfl,?_⟩
  dsimp only
  generalize hd:IntKind.i64.wrap (σ.deep -1)=d
  refine swI sp.obj (by simp) rfl rfl fun H1 e1 h1' x1 s1=>?_
  have hdd:σ.bad=false→d=σ.deep -1:=fun hb=>by
   have:=sp.deep hb
   rw[←hd,i64w (by omega)]
  refine rkI ⟨rfl,hk H1 d x1 (sp.set x1 h1' sp.le fun hb=>?_) hdd⟩
  have hb':σ.bad=false:=hb
  have:=sp.deep hb'
  have:=h1 hb'
  have:=hdd hb'
  dsimp only
  omega
 ·rintro _ H' ⟨rfl,h⟩
  exact⟨(),rfl,h⟩
abbrev spArg (E:SEnv):Array Value:= #[.pointer (some ⟨E.p,0,none⟩)]
theorem madeS {n:Nd} {kids:Option Addr} {kn kc:Nat} {bs:List Sli} {H:Heap} (hs:SlcAt H kids kn (bs.map sliV)) (hb: ∀b∈bs,NewsOk b H) (hlen:bs.length≤100000) (hsum:sumL bs≤1000000) {K:Sli→Heap→Prop}
 (hk: ∀y H',Ext [] H H'→y.2.1=1+sumL bs→Born H H' (NewsOk y)→K y H'):
 callW PP fq14 #[.agg #[.int .i64 n.kind,.string n.name,.string n.alias,.string n.text,.int .i64 n.flag,.int .i64 n.size],.slice kids kn kc] H pSlc K:=by
 refine(made_ok n kids kn kc bs H hs hb hlen hsum).mono ?_
 rintro _ H' ⟨y,rfl,x,hl,hb⟩
 exact⟨y,rfl,hk y H' x hl hb⟩
theorem Born.self' {A H:Heap} {P:Heap→Prop} (h:Born A H P):P H:=h H fun _ _ _ ho=>ho
theorem made1S {n:Nd} {z:Sli} {H:Heap} (hz:NewsOk z H) (hsum:z.2.1≤900000) {K:Sli→Heap→Prop} (hk: ∀y H',Ext [] H H'→y.2.1=1+z.2.1→Born H H' (NewsOk y)→K y H'):
 newB H (.cells #[.slice z.1 z.2.1 z.2.2] tq36) fun b H2=>
 callW PP fq14 #[.agg #[.int .i64 n.kind,.string n.name,.string n.alias,.string n.text,.int .i64 n.flag,.int .i64 n.size],.slice (some ⟨b,0,none⟩) 1 1] H2 pSlc K:=by
 refine nbI fun H1 e1 hb1 x1 s1=>?_
 have hs:SlcAt H1 (some ⟨H.size,0,none⟩) 1 ([z].map sliV):=⟨rfl,.inr ⟨H.size,0,_,_,_,rfl,hb1,fun i s hi=>by
  match i,hi with
  |0,hi=>simpa [sliV] using hi⟩⟩
 have h1:sumL [z]=z.2.1:=by simp[sumL]
 refine madeS hs (fun b hb=>?_) (by simp) (by omega) fun y H' x hl hbn=>hk y H' (x1.trans x) (by omega) fun G hG=>hbn G fun k o hk ho=>hG k o (by omega) ho
 rw[List.mem_singleton.1 hb]
 exact hz.keep x1 (by simp)
theorem made0S {n:Nd} {H:Heap} {K:Sli→Heap→Prop} (hk: ∀y H',Ext [] H H'→y.2.1=1→Born H H' (NewsOk y)→K y H'):
 callW PP fq14 #[.agg #[.int .i64 n.kind,.string n.name,.string n.alias,.string n.text,.int .i64 n.flag,.int .i64 n.size],.slice none 0 0] H pSlc K:=
 madeS (bs:=[]) ⟨rfl,.inl rfl⟩ (by simp) (by simp) (by simp[sumL]) fun y H' x hl hb=>hk y H' x (by simpa [sumL] using hl) hb
theorem Born.nil {A H:Heap}:Born A H (NewsOk (none,0,0)):=fun G _=>NewsOk.nil G
structure Run (E:SEnv) (σ0:St) (g0 g:Gr) (A:Heap) (B:Nat) (y:Sli) (σ:St) (H:Heap):Prop where
 ext:Ext [E.p] A H
 sp:SP E H σ
 nodes:Born A H (NewsOk y)
 un:σ0.unsure=true→σ.unsure=true
 at_:σ.bad=false→σ0.at_≤σ.at_∧y.2.1≤2*(σ.at_ -σ0.at_)
 l2:y.2.1≤B
 acc: ∀G:Bool×List PTk→Prop,(∀res,g0 (E.rest σ0.at_)=some res→G res)→Inv E G g σ
theorem Run.keep {E:SEnv} {σ0:St} {g0 g:Gr} {A:Heap} {B:Nat} {y:Sli} {σ:St} {H:Heap} (r:Run E σ0 g0 g A B y σ H) (hp:E.p<A.size) {σ':St} {H':Heap} (x:Ext [E.p] H H') (sp:SP E H' σ') {g':Gr}
 (hu:σ.unsure=true→σ'.unsure=true) (ha:σ'.bad=false→σ.bad=false∧σ.at_≤σ'.at_) (hi: ∀G,Inv E G g σ→Inv E G g' σ'):Run E σ0 g0 g' A B y σ' H' where
 ext:=r.ext.trans x
 sp:=sp
 nodes:=fun G hG=>r.nodes G fun k o hk ho=>hG k o hk (x.get _ _ ho (by simp;omega))
 un:=fun h=>hu (r.un h)
 at_:=fun hb=>by
  obtain⟨h1,h2⟩:=ha hb
  have:=r.at_ h1
  omega
 l2:=r.l2
 acc:=fun G h=>hi G (r.acc G h)
theorem gTyped10 {n:Nat} {l:List PTk} (h:kd l=10):gTyped (n+1) l=gThen (gTyped n) (fun r=>if kd r=11 then gOpt 2 r.tail else none) l.tail:=by
 show(if kd l=10 then _ else _)=_
 rw[if_pos h]
theorem gTyped15 {n:Nat} {l:List PTk} (h:kd l=15):gTyped (n+1) l=gOpt 2 l.tail:=by
 show(if kd l=10 then _ else if kd l=15 then _ else _)=_
 rw[if_neg (by omega),if_pos h]
theorem OutS.refused {E:SEnv} {σ:St} {B:Nat} {g:Gr} {H H':Heap} {d:Int} {u:Bool} (x:Ext [E.p] H H') (sp:SP E H' {σ.fail with deep:=d,unsure:=u}) (hu:σ.unsure=true→u=true) (hu2:σ.bad=false→u=true):
 OutS E σ B g H (none,0,0) {σ.fail with deep:=d,unsure:=u} H' where
 ext:=x
 sp:=sp
 nodes:=Born.nil
 mono:=⟨hu,fun h=>⟨fail_bad σ,((mono_fail σ).bad h).2⟩,fun h=>absurd ((fail_bad σ).symm.trans h) (by decide)⟩
 l0:=fun _=>Nat.zero_le _
 l1:=fun _=>Nat.zero_le _
 l2:=Nat.zero_le _
 gr:=fun G h1 _ hu'=>by
  rcases bad_or σ with hb|hb
  ·have h2:=h1 hb
   unfold SEnv.res
   rw[if_pos (fail_bad σ)]
   show G (false,E.rest σ.fail.wrong)
   rw[((mono_fail σ).bad hb).2]
   exact h2
  ·exact absurd ((hu2 hb).symm.trans hu') (by decide)
theorem typedF (E:SEnv): ∀(n:Nat) (σ:St),(σ.bad=false→σ.deep+n=60)→SpF E fq64 (spArg E) σ (2*n+4) (gTyped n):=by
 intro n
 induction n with
 |zero=>
  intro σ hd H sp
  refine spTyped.enter _ H _ ?_
  unfold spTyped.W
  refine enterS sp (fun hb h60 H1 x1 s1=>by have:=hd hb;omega) (fun H1 d u x1 s1 hu hu2=>?_)
  exact fkI (fun _=>rkI ⟨(none,0,0),_,rfl,OutS.refused x1 s1 hu hu2⟩) (fun hh=>absurd hh (by decide))
 |succ n ih=>
  intro σ hd H sp
  refine spTyped.enter _ H _ ?_
  unfold spTyped.W
  have hle:=sp.le
  have hnn:=sp.n
  have hpl:=sp.lt
  refine enterS sp (fun hb h60 H1 x1 s1=>?_) (fun H1 d u x1 s1 hu hu2=>fkI (fun _=>rkI ⟨(none,0,0),_,rfl,OutS.refused x1 s1 hu hu2⟩) (fun hh=>absurd hh (by decide)))
  refine fkI (fun hh=>absurd hh (by decide)) (fun _=>?_)
  have hdn:=hd hb
  have hn60:n≤60:=by have:=sp.deep hb;omega
  -- no type: nothing is said
  refine⟨fun y H'=>y.1=(kd (E.rest σ.at_) !=10&&kd (E.rest σ.at_) !=15)∧H'=H1,?_,?_⟩
  ·refine kindS s1 0 (by omega) (fkI (fun hh=>kindS s1 0 (by omega) ⟨by rw[Nat.add_zero] at hh⊢;rw[hh];rfl,rfl⟩) (fun hh=>⟨by rw[Nat.add_zero] at hh;rw[hh];rfl,rfl⟩))
  rintro⟨y,_⟩ H2 ⟨hy,rfl⟩
  dsimp only at hy⊢
  refine⟨fun _ H'=> ∃u:Bool,Ext [E.p] H H'∧SP E H' {σ with deep:=σ.deep+1,unsure:=u}∧(σ.unsure=true→u=true)∧(kd (E.rest σ.at_)≠10→kd (E.rest σ.at_)≠15→u=true),?_,?_⟩
  ·refine fkI (fun _=>s1.unsure fun H3 x3 s3=>⟨true,x1.trans x3,s3,fun _=>rfl,fun _ _=>rfl⟩) (fun hh=>⟨σ.unsure,x1,s1,id,fun h1 h2=>?_⟩)
   rw[hy] at hh
   simp[h1,h2] at hh
  rintro⟨_⟩ H3 ⟨u3,x3,s3,hu3,hno⟩
  refine Fn.mono (takenS (K:=fun b H'=> ∃σ4:St,((b=true∧kd (E.rest σ.at_)=10∧σ4= {σ with deep:=σ.deep+1,unsure:=u3,at_:=σ.at_+1})∨(b=false∧kd (E.rest σ.at_)≠10∧σ4= {σ with deep:=σ.deep+1,unsure:=u3}))∧Ext [E.p] H H'∧SP E H' σ4) s3 (by decide)
   (fun _ hk H4 x4 s4=>⟨_,.inl ⟨rfl,hk,rfl⟩,x3.trans x4,s4⟩) (fun hk=>⟨_,.inr ⟨rfl,?_,rfl⟩,x3,s3⟩)) ?_
  ·rcases hk with hk|hk
   ·exact absurd ((show σ.bad=true from hk).symm.trans hb) (by decide)
   ·exact hk
  rintro _ H4 ⟨b,rfl,σ4,hc4,x4,s4⟩
  refine⟨b,rfl,?_⟩
  refine⟨fun y H'=> ∃σ5:St,Run E σ (gTyped (n+1)) (gOpt 2) H (2*n+5) y.1 σ5 H'∧(σ5.bad=false→σ5.deep=σ.deep+1),?_,?_⟩
  ·rcases hc4 with⟨rfl,hk,rfl⟩|⟨rfl,hk,rfl⟩
   ·refine fkI (fun _=>?_) (fun hh=>absurd hh (by decide))
    refine SpF.call (ih _ (fun _=>by dsimp only;omega)) s4 fun y H5 σ5 o=>?_
    refine made1S (n:=⟨21,bs [],bs [],bs [],0,0⟩) (Born.self' o.nodes) (by have:=o.l2;omega) fun w H6 x6 hl hbn=>?_
    have s6:=o.sp.grow x6
    have hz4:=x4.size
    have hz5:=o.ext.size
    have fin: ∀(u':Bool) (H7:Heap),Ext [E.p] H6 H7→SP E H7 {σ5 with unsure:=u'}→(σ5.unsure=true→u'=true)→(u'=false→kd (E.rest σ5.at_)=11)→
     callW PP fq53 #[.pointer (some ⟨E.p,0,none⟩),.int .i64 11] H7 ⟨Unit,fun _=> .tuple #[]⟩ fun(_:Unit) H28=> ∃σ6:St,Run E σ (gTyped (n+1)) (gOpt 2) H (2*n+5) (w.1,w.2.1,w.2.2) σ6 H28∧(σ6.bad=false→σ6.deep=σ.deep+1):=by
     intro u' H7 x7 s7 hu7 hk7
     have nod: ∀H8,Ext [E.p] H7 H8→Born H H8 (NewsOk (w.1,w.2.1,w.2.2)):=fun H8 x8 G hG=>hbn G fun k o' hk' ho'=>hG k o' (by omega) (x8.get _ _ (x7.get _ _ ho' (by simp;omega)) (by simp;omega))
     have ex: ∀H8,Ext [E.p] H7 H8→Ext [E.p] H H8:=fun H8 x8=>((x4.trans o.ext).trans x6.of_nil).trans (x7.trans x8)
     have hl2:=o.l2
     have i5: ∀G:Bool×List PTk→Prop,(∀res,gTyped (n+1) (E.rest σ.at_)=some res→G res)→Inv E G (fun r=>if kd r=11 then gOpt 2 r.tail else none) σ5:=fun G hG=>by
      have i4:Inv E G (gThen (gTyped n) (fun r=>if kd r=11 then gOpt 2 r.tail else none)) {σ with deep:=σ.deep+1,unsure:=u3,at_:=σ.at_+1}:=fun hu=>⟨fun hb2=>absurd ((show σ.bad=true from hb2).symm.trans hb) (by decide),fun _ res hr=>hG res (by rw[gTyped10 hk,rest_tail];exact hr)⟩
      exact i4.step o
     refine mustS s7 (by decide) (fun hb7 hk11 H8 x8 s8=>?_) (fun hno7 H8 x8 s8=>?_)
     ·have hb7':σ5.bad=false:=hb7
      refine⟨_,⟨ex H8 x8,s8,nod H8 x8,fun h=>hu7 (o.mono.un (hu3 h)),fun _=>?_,by dsimp only;omega,fun G hG hu=>⟨fun hb2=>absurd ((show σ5.bad=true from hb2).symm.trans hb7') (by decide),fun _ res hr=>?_⟩⟩,fun _=>(o.mono.ok hb7').1⟩
      ·have h1:=o.l1 hb7'
       have h2:=(o.mono.ok hb7').2
       dsimp only at h1 h2⊢
       omega
      ·have hu5:σ5.unsure=false:=by
        cases h:σ5.unsure with
        |false=>rfl
        |true=>exact absurd ((hu7 h).symm.trans hu) (by decide)
       refine(i5 G hG hu5).2 hb7' res ?_
       show(if kd (E.rest σ5.at_)=11 then gOpt 2 (E.rest σ5.at_).tail else none)=some res
       rw[if_pos hk11,rest_tail]
       exact hr
     ·refine⟨_,⟨ex H8 x8,s8,nod H8 x8,fun h=>(mono_fail _).un (hu7 (o.mono.un (hu3 h))),fun hb2=>absurd ((fail_bad _).symm.trans hb2) (by decide),by dsimp only;omega,fun G hG=>?_⟩,fun hb2=>absurd ((fail_bad _).symm.trans hb2) (by decide)⟩
      rcases bad_or σ5 with hb5|hb5
      ·have hf:St.fail {σ5 with unsure:=u'}= {σ5 with unsure:=u'}:=by unfold St.fail;rw[if_pos hb5]
       rw[hf]
       intro hu
       have hu5:σ5.unsure=false:=by
        cases h:σ5.unsure with
        |false=>rfl
        |true=>exact absurd ((hu7 h).symm.trans hu) (by decide)
       exact⟨fun _=>(i5 G hG hu5).1 hb5,fun h=>absurd (hb5.symm.trans h) (by decide)⟩
      ·refine Inv.any ((mono_fail _).un ?_)
       cases hu':u' with
       |true=>rfl
       |false=>
        rcases hno7 with h|h
        ·exact absurd ((show σ5.bad=true from h).symm.trans hb5) (by decide)
        ·exact absurd (hk7 hu') h
    refine⟨σ5.unsure,lcO s6.obj rfl,?_⟩
    refine fkI (fun hu=>s6.unsure fun H7 x7 s7=>fin true H7 x7 s7 (fun _=>rfl) (fun h=>by cases h)) (fun hu=>?_)
    refine kindS s6 0 (by omega) ?_
    rw[Nat.add_zero]
    refine s6.unsure fun H7 x7 s7=>fin _ H7 x7 s7 (fun h=>by rw[h] at hu;cases hu) (fun h=>by simpa using h)
   ·refine fkI (fun hh=>absurd hh (by decide)) (fun _=>?_)
    refine nameS s4 (fun _ hk15 H5 x5 s5=>?_) (fun hno5 H5 x5 s5=>?_)
    ·refine made0S (n:=⟨20,_,bs [],bs [],0,0⟩) fun w H6 x6 hl hbn=>?_
     have hk15':kd (E.rest σ.at_)=15:=hk15
     have hz4:=x4.size
     have hz5:=x5.size
     refine⟨_,⟨(x4.trans x5).trans x6.of_nil,s5.grow x6,fun G hG=>hbn G fun k o' hk' ho'=>hG k o' (by omega) ho',fun h=>hu3 h,fun _=>by dsimp only;omega,by dsimp only;omega,fun G hG hu=>⟨fun hb2=>absurd ((show σ.bad=true from hb2).symm.trans hb) (by decide),fun _ res hr=>hG res ?_⟩⟩,fun _=>rfl⟩
     rw[gTyped15 hk15',rest_tail]
     exact hr
    ·refine made0S (n:=⟨20,_,bs [],bs [],0,0⟩) fun w H6 x6 hl hbn=>?_
     have hz4:=x4.size
     have hz5:=x5.size
     have hk15:kd (E.rest σ.at_)≠15:=by
      rcases hno5 with h|h
      ·exact absurd ((show σ.bad=true from h).symm.trans hb) (by decide)
      ·exact h
     refine⟨_,⟨(x4.trans x5).trans x6.of_nil,s5.grow x6,fun G hG=>hbn G fun k o' hk' ho'=>hG k o' (by omega) ho',fun h=>(mono_fail _).un (hu3 h),fun hb2=>absurd ((fail_bad _).symm.trans hb2) (by decide),by dsimp only;omega,fun G _=>Inv.any ((mono_fail _).un (hno hk hk15))⟩,fun hb2=>absurd ((fail_bad _).symm.trans hb2) (by decide)⟩
  rintro⟨⟨ya,yn,yc⟩,_⟩ H5 ⟨σ5,r5,hd5⟩
  dsimp only at r5⊢
  have sp5:=r5.sp
  refine Fn.mono (takenS (K:=fun b H'=> ∃σ6:St,((b=true∧σ5.bad=false∧kd (E.rest σ5.at_)=2∧σ6= {σ5 with at_:=σ5.at_+1})∨(b=false∧(σ5.bad=true∨kd (E.rest σ5.at_)≠2)∧σ6=σ5))∧Ext [E.p] H5 H'∧SP E H' σ6) sp5 (by decide)
   (fun hb5 hk H6 x6 s6=>⟨_,.inl ⟨rfl,hb5,hk,rfl⟩,x6,s6⟩) (fun hk=>⟨_,.inr ⟨rfl,hk,rfl⟩,Ext.refl _ _,sp5⟩)) ?_
  rintro _ H6 ⟨b2,rfl,σ6,hc6,x6,s6⟩
  refine⟨b2,rfl,?_⟩
  refine⟨fun y H'=> ∃σ7:St,Run E σ (gTyped (n+1)) gEnd H (2*n+6) y.1 σ7 H'∧(σ7.bad=false→σ7.deep=σ.deep+1),?_,?_⟩
  ·have hz5:=r5.ext.size
   have hz6:=x6.size
   have hl5:=r5.l2
   rcases hc6 with⟨rfl,hb5,hk2,rfl⟩|⟨rfl,hk2,rfl⟩
   ·refine fkI (fun _=>?_) (fun hh=>absurd hh (by decide))
    refine made1S (n:=⟨22,bs [],bs [],bs [],0,0⟩) (z:=(ya,yn,yc)) (r5.nodes H6 fun k o hk ho=>x6.get _ _ ho (by simp;omega)) (by dsimp only at hl5⊢;omega) fun w H7 x7 hl hbn=>?_
    refine⟨_,⟨(r5.ext.trans x6).trans x7.of_nil,s6.grow x7,fun G hG=>hbn G fun k o' hk' ho'=>hG k o' (by omega) ho',r5.un,fun _=>?_,by dsimp only at hl hl5⊢;omega,fun G hG hu=>⟨fun hb2=>absurd ((show σ5.bad=true from hb2).symm.trans hb5) (by decide),fun _ res hr=>?_⟩⟩,fun _=>hd5 hb5⟩
    ·have:=r5.at_ hb5
     dsimp only at this hl⊢
     omega
    ·refine(r5.acc G hG hu).2 hb5 res ?_
     show(if kd (E.rest σ5.at_)=2 then some (true,(E.rest σ5.at_).tail) else some (true,E.rest σ5.at_))=some res
     rw[if_pos hk2,rest_tail]
     exact hr
   ·refine fkI (fun hh=>absurd hh (by decide)) (fun _=>?_)
    have r6:=r5.keep hpl x6 s6 (g':=gEnd) id (fun h=>⟨h,Nat.le_refl _⟩) (fun G hi hu=>⟨(hi hu).1,fun hb5 res hr=>(hi hu).2 hb5 res (by
     have h2: ¬kd (E.rest σ6.at_)=2:=by
      rcases hk2 with h|h
      ·exact absurd (h.symm.trans hb5) (by decide)
      ·exact h
     show(if kd (E.rest σ6.at_)=2 then some (true,(E.rest σ6.at_).tail) else some (true,E.rest σ6.at_))=some res
     rw[if_neg h2]
     exact hr)⟩)
    exact⟨_,⟨r6.ext,r6.sp,r6.nodes,r6.un,r6.at_,by have:=r6.l2;dsimp only at this⊢;omega,r6.acc⟩,hd5⟩
  rintro⟨⟨wa,wn,wc⟩,_⟩ H7 ⟨σ7,r7,hd7⟩
  dsimp only at r7⊢
  have hdp:=sp.deep hb
  refine leaveS r7.sp (fun hb7=>by have:=hd7 hb7;omega) fun H8 d x8 s8 hdd=>?_
  have hz7:=r7.ext.size
  refine rkI ⟨(wa,wn,wc),_,rfl,{ext:=r7.ext.trans x8,sp:=s8,nodes:=fun G hG=>r7.nodes G fun k o hk ho=>hG k o hk (x8.get _ _ ho (by simp;omega)),mono:=⟨r7.un,fun h=>absurd (h.symm.trans hb) (by decide),fun h=>⟨?_,(r7.at_ h).1⟩⟩,l0:=fun h=>absurd (h.symm.trans hb) (by decide),l1:=fun h=>(r7.at_ h).2,l2:=by have:=r7.l2;dsimp only at this⊢;omega,gr:=fun G _ h2 hu=>Inv.fin (σ:=σ7) (r7.acc G (h2 hb)) hu}⟩
  have h7:σ7.bad=false:=h
  have:=hdd h7
  have:=hd7 h7
  show d=σ.deep
  omega
theorem res_next {E:SEnv} {σ:St} {G:Bool×List PTk→Prop} (h1:σ.bad=true→G (false,E.rest σ.wrong)) (h2:σ.bad=false→G (true,E.rest (σ.at_+1))):G (E.res {σ with at_:=σ.at_+1}):=by
 unfold SEnv.res
 rcases bad_or σ with hb|hb
 ·rw[if_pos hb];exact h1 hb
 ·rw[if_neg (by rw[show σ.bad=false from hb];decide)];exact h2 hb
theorem res_same {E:SEnv} {σ:St} {G:Bool×List PTk→Prop} (h1:σ.bad=true→G (false,E.rest σ.wrong)) (h2:σ.bad=false→G (true,E.rest σ.at_)):G (E.res σ):=by
 unfold SEnv.res
 rcases bad_or σ with hb|hb
 ·rw[if_pos hb];exact h1 hb
 ·rw[if_neg (by rw[hb];decide)];exact h2 hb
theorem descriptionX (E:SEnv) (σ:St) (hk:kd (E.rest σ.at_)=18∨kd (E.rest σ.at_)=19) {H:Heap} (sp:SP E H σ):Fn PP fq21 (spArg E) H fun v H'=> ∃y:Sli,v= .slice y.1 y.2.1 y.2.2∧OutS E σ 1 gDescr H y {σ with at_:=σ.at_+1} H'∧y.2.1=1:=by
 have hlt:σ.at_<E.ts.length:=kd_rest (by omega)
 have hnn:=sp.n
 have hpl:=sp.lt
 refine spDescription.enter _ H _ ?_
 unfold spDescription.W
 have hcl: ∀ {H':Heap},SP E H' σ→IxOk E.ta (σ.at_:Int) E.ts.length∧loadC H' false 1 ⟨blkOf E.ta,offOf E.ta+((σ.at_:Nat):Int).toNat*4+1,none⟩=some (.string E.ts[σ.at_].value):=
  fun s=>s.cell hlt (j:=1) (by omega) (by omega) rfl
 generalize E.ts[σ.at_].value=val at hcl
 refine⟨(E.ta,E.ts.length,E.tc),lcO sp.obj rfl,(σ.at_:Int),lcO sp.obj rfl,?_⟩
 dsimp only
 refine⟨(hcl sp).1,val,(hcl sp).2,?_⟩
 refine nbI fun H1 e1 hb1 x1 s1=>?_
 have sp1:=sp.grow x1
 refine⟨(hcl sp1).2,lcO sp1.obj rfl,lcO sp1.obj rfl,?_⟩
 refine swI hb1 (by simp) rfl rfl fun H2 e2 hb2 x2 s2=>?_
 have hb2':H2[H.size]?=some (.cells #[.int .i64 23,.string (bs []),.string (bs []),.string val,.int .i64 0,.int .i64 0] tq63):=hb2
 have y2:Ext [] H H2:=by rw[e2];exact x1.setNew (Nat.le_refl _) _
 have sp2:=sp.grow y2
 refine kindS sp2 0 (by omega) ?_
 refine⟨fun _ H'=>Ext [] H H'∧ ∃f:Int,H'[H.size]?=some (.cells #[.int .i64 23,.string (bs []),.string (bs []),.string val,.int .i64 f,.int .i64 0] tq63),?_,?_⟩
 ·refine fkI (fun _=>?_) (fun _=>⟨y2,0,hb2'⟩)
  refine swI hb2' (by simp) rfl rfl fun H3 e3 hb3 x3 s3=>?_
  exact⟨by rw[e3];exact y2.setNew (Nat.le_refl _) _,1,hb3⟩
 rintro⟨_⟩ H3 ⟨y3,f,hb3⟩
 have sp3:=sp.grow y3
 refine⟨(σ.at_:Int),lcO sp3.obj rfl,?_⟩
 dsimp only
 rw[wrap1 (k:=σ.at_) (by omega)]
 refine swI sp3.obj (by simp) rfl rfl fun H4 e4 h4 x4 s4=>?_
 have sp4:SP E H4 {σ with at_:=σ.at_+1}:=sp3.set x4 h4 (by dsimp only;omega) sp.deep
 have hb4:=x4.get _ _ hb3 (by simp;omega)
 refine⟨(23,bs [],bs [],val,f,0),lcO hb4 rfl,?_⟩
 dsimp only
 have hz3:=y3.size
 have hz4:=x4.size
 refine made0S (n:=⟨23,bs [],bs [],val,f,0⟩) fun w H5 x5 hl hbn=>?_
 refine rkI ⟨w,rfl,{ext:=(y3.of_nil.trans x4).trans x5.of_nil,sp:=sp4.grow x5,nodes:=fun G hG=>hbn G fun k o hk' ho=>hG k o (by omega) ho,mono:=mono_next σ,l0:=fun _=>by omega,l1:=fun _=>by dsimp only;omega,l2:=by omega,gr:=fun G h1 h2 _=>res_next h1 fun hb=>h2 hb _ ?_},hl⟩
 unfold gDescr
 rw[if_pos hk,rest_tail]
theorem descriptionF (E:SEnv) (σ:St) (hk:kd (E.rest σ.at_)=18∨kd (E.rest σ.at_)=19):SpF E fq21 (spArg E) σ 1 gDescr:=fun _ sp=>
 (descriptionX E σ hk sp).mono fun _ _ ⟨y,e,o,_⟩=>⟨y,_,e,o⟩
theorem describedF (E:SEnv) (σ:St):SpF E fq63 (spArg E) σ 1 gDescr:=by
 intro H sp
 refine spDescribed.enter _ H _ ?_
 unfold spDescribed.W
 refine kindS sp 0 (by omega) ?_
 rw[Nat.add_zero]
 refine⟨((kd (E.rest σ.at_) !=18)&&(kd (E.rest σ.at_) !=19),()),fkI (fun h=>⟨by rw[h];rfl,rfl⟩) (fun h=>⟨by rw[h];rfl,rfl⟩),?_⟩
 refine fkI (fun hh=>?_) (fun hh=>?_)
 ·have hno: ¬(kd (E.rest σ.at_)=18∨kd (E.rest σ.at_)=19):=by
   simp at hh;omega
  refine rkI ⟨(none,0,0),σ,rfl,{ext:=Ext.refl _ _,sp:=sp,nodes:=Born.nil,mono:=Mono.refl σ,l0:=fun _=>Nat.zero_le _,l1:=fun _=>Nat.zero_le _,l2:=Nat.zero_le _,gr:=fun G h1 h2 _=>res_same h1 fun hb=>h2 hb _ ?_}⟩
  unfold gDescr
  rw[if_neg hno]
 ·have hk:kd (E.rest σ.at_)=18∨kd (E.rest σ.at_)=19:=by
   by_cases h18:kd (E.rest σ.at_)=18
   ·exact .inl h18
   ·right
    simp[h18] at hh
    exact hh
  refine SpF.call (descriptionF E σ hk) sp fun y H' σ' o=>?_
  exact rkI ⟨y,σ',rfl,o⟩
structure NL (A H:Heap) (x:Sli):Prop where
 own: ∃xs,OwnS H tq63 6 x.1 x.2.1 x.2.2 xs∧ ∀u∈xs,u.oneCell'=true
 row: ∀r,rowOf x.1=some r→A.size≤r
theorem NL.nil (A H:Heap):NL A H (none,0,0):=⟨⟨[],OwnS.nil _ _ _,by simp⟩,fun r hr=>by cases hr⟩
theorem NL.step {A H H':Heap} {x:Sli} {S:List Nat} (h:NL A H x) (he:Ext S H H') (hS: ∀k∈S,k<A.size):NL A H' x:=by
 obtain⟨xs,ho,h1⟩:=h.own
 exact⟨⟨xs,ho.ext he fun r hr hm=>by have:=hS r hm;have:=h.row r hr;omega,h1⟩,h.row⟩
theorem NL.born {A H:Heap} {x:Sli} (h:NL A H x):Born A H (NewsOk x):=by
 intro G hG
 obtain⟨xs,ho,h1⟩:=h.own
 refine⟨xs,NewsS.of_own (e:=tq63) (c:=x.2.2) ⟨ho.1,ho.2.imp id ?_⟩,h1⟩
 rintro⟨g,cur,ha,hg,hr⟩
 exact⟨g,cur,ha,hG _ _ (h.row g (by rw[ha];rfl)) hg,hr⟩
theorem SP.rowed {E:SEnv} {A H H':Heap} {σ:St} (sp:SP E H σ) {r:Option Nat} (g:Grow H H' r) (hr: ∀q,r=some q→A.size≤q) (hp:E.p<A.size) (ht: ∀q,rowOf E.ta=some q→q<A.size):SP E H' σ:=by
 have keep: ∀(k:Nat) (o:Obj),k<A.size→H[k]?=some o→H'[k]?=some o:=by
  intro k o hk ho
  rw[g.block k (lt_of_get ho) fun eq=>?_,ho]
  have:=hr k eq.symm
  omega
 refine⟨keep _ _ hp sp.obj,?_,sp.row,sp.le,sp.n,sp.deep⟩
 refine⟨sp.tok.1,sp.tok.2.imp id ?_⟩
 rintro⟨q,cur,ha,hg,hrr⟩
 exact⟨q,cur,ha,keep q _ (ht q (by rw[ha];rfl)) hg,hrr⟩
theorem NL.app {E:SEnv} {A H:Heap} {x y:Sli} {σ:St} (h:NL A H x) (x0:Ext [E.p] A H) (sp:SP E H σ) (hp:E.p<A.size) (ht: ∀q,rowOf E.ta=some q→q<A.size) (hy:NewsOk y H) (hl:x.2.1+y.2.1≤1000000)
 {K:Option Addr→Nat→Heap→Prop} (hk: ∀a c H',NL A H' (a,x.2.1+y.2.1,c)→Ext [E.p] A H'→SP E H' σ→K a c H'):appK H tq63 6 72 x.1 x.2.1 x.2.2 y.1 y.2.1 K:=by
 obtain⟨xs,ho,h1⟩:=h.own
 obtain⟨ys,hn,h2⟩:=hy
 have hml:10000000≤maxLen:=by decide
 refine .inr ⟨_,_,ho,hn,h2,by omega,by omega,?_⟩
 intro a c H' o' g _ hrow
 refine hk a c H' ⟨⟨_,o',fun u hu=>?_⟩,fun r hr=>?_⟩ ?_ (sp.rowed g h.row hp ht)
 ·rcases List.mem_append.1 hu with hh|hh
  ·exact h1 u hh
  ·exact h2 u hh
 ·rcases hrow with hh|hh
  ·exact h.row r (by rw[←hh];exact hr)
  ·rw[hh] at hr;cases hr;exact x0.size
 ·refine⟨by have:=x0.size;have:=g.size;omega,fun q o hq hne=>?_⟩
  have h3:=x0.get _ _ hq hne
  rw[g.block q (lt_of_get h3) fun eq=>?_,h3]
  have:=h.row q eq.symm
  have:=lt_of_get hq
  omega
theorem asksS {E:SEnv} {H:Heap} {σ:St} (sp:SP E H σ) {K:Bool→Heap→Prop} (hk: ∀b,K b H):callW PP fq60 #[.pointer (some ⟨E.p,0,none⟩)] H pBool K:=by
 have hnn:=sp.n
 have hle:=sp.le
 refine(show Fn PP _ _ H fun v H'=> ∃b:Bool,v= .bool b∧H'=H from ?_).mono ?_
 ·refine spAsks.enter _ H _ ?_
  unfold spAsks.W
  refine kindS sp 0 (by omega) ?_
  refine fkI (fun _=>rkI ⟨false,rfl,rfl⟩) (fun _=>?_)
  refine⟨fun z H'=>H'=H∧ ∃k:Nat,z.1=(k:Int)∧σ.at_+k≤E.ts.length,fun z _=>1001 -z.1.toNat,⟨rfl,0,rfl,by omega⟩,?_⟩
  rintro⟨_,_⟩ H2 ⟨hHH,k,hz,hkl⟩
  dsimp only at hz⊢
  subst hz
  subst hHH
  refine⟨fun y H'=>y.1=(kd (E.rest (σ.at_+k)) !=1&&kd (E.rest (σ.at_+k)) !=5)∧H'=H2,?_,?_⟩
  ·exact kindS sp k (by omega) (fkI (fun hh=>kindS sp k (by omega) ⟨by rw[hh];rfl,rfl⟩) (fun hh=>⟨by rw[hh];rfl,rfl⟩))
  rintro⟨y,_⟩ _ ⟨hy,rfl⟩
  dsimp only at hy⊢
  refine fkI (fun hh=>?_) (fun _=>rkI ⟨false,rfl,rfl⟩)
  have h1:kd (E.rest (σ.at_+k))≠1:=by
   rw[hy,Bool.and_eq_true] at hh
   simpa using hh.1
  have hlt:=kd_rest h1
  refine kindS sp k (by omega) (fkI (fun _=>rkI ⟨true,rfl,rfl⟩) (fun _=>?_))
  rw[wrap1 (k:=k) (by omega)]
  exact⟨⟨rfl,k+1,rfl,by omega⟩,by omega⟩
 ·rintro _ _ ⟨b,rfl,rfl⟩
  exact⟨b,rfl,hk b⟩
theorem bodyS {E:SEnv} {H:Heap} {σ:St} (sp:SP E H σ) {o c:Int} (ho:o≠1) {K:Bool→Heap→Prop} (hy:σ.bad=false→kd (E.rest σ.at_)=o→kd (E.rest σ.at_).tail≠c→ ∀H',Ext [E.p] H H'→SP E H' {σ with at_:=σ.at_+1}→K true H')
 (hb:σ.bad=true→K false H) (hn:σ.bad=false→ ∀H',Ext [E.p] H H'→SP E H' {σ with bad:=true,wrong:=σ.at_,unsure:=true}→K false H'):
 callW PP fq62 #[.pointer (some ⟨E.p,0,none⟩),.int .i64 o,.int .i64 c] H pBool K:=by
 have hnn:=sp.n
 have hle:=sp.le
 refine(show Fn PP _ _ H fun v H'=> ∃b:Bool,v= .bool b∧K b H' from ?_).mono ?_
 ·refine spBody.enter _ _ _ H _ ?_
  unfold spBody.W
  refine⟨σ.bad,lcO sp.obj rfl,?_⟩
  refine fkI (fun h=>rkI ⟨false,rfl,hb h⟩) (fun hbf=>?_)
  refine⟨fun y H'=>y.1=(kd (E.rest σ.at_) !=o||kd (E.rest (σ.at_+1))==c)∧H'=H,?_,?_⟩
  ·refine kindS sp 0 (by omega) ?_
   rw[Nat.add_zero]
   exact fkI (fun hh=>⟨by rw[hh];rfl,rfl⟩) (fun hh=>kindS sp 1 (by omega) ⟨by rw[hh];rfl,rfl⟩)
  rintro⟨y,_⟩ _ ⟨hyy,rfl⟩
  dsimp only at hyy⊢
  refine fkI (fun _=>?_) (fun hh=>?_)
  ·refine sp.unsure fun H1 x1 s1=>?_
   refine failS s1 fun H2 x2 s2=>rkI ⟨false,rfl,hn hbf H2 (x1.trans x2) ?_⟩
   have hf:St.fail {σ with unsure:=true}= {σ with bad:=true,wrong:=σ.at_,unsure:=true}:=by unfold St.fail;rw[if_neg (by rw[show σ.bad=false from hbf];decide)]
   rw[←hf];exact s2
  ·rw[hyy,Bool.or_eq_false_iff] at hh
   have h1:kd (E.rest σ.at_)=o:=by simpa using hh.1
   have h2:kd (E.rest σ.at_).tail≠c:=by rw[rest_tail];simpa using hh.2
   have hlt:=kd_rest (E:=E) (i:=σ.at_) (by rw[h1];exact ho)
   refine⟨(σ.at_:Int),lcO sp.obj rfl,?_⟩
   dsimp only
   rw[wrap1 (k:=σ.at_) (by omega)]
   refine swI sp.obj (by simp) rfl rfl fun H1 e1 h1' x1 s1=>?_
   exact rkI ⟨true,rfl,hy hbf h1 h2 H1 x1 (sp.set x1 h1' (by dsimp only;omega) sp.deep)⟩
 ·rintro _ H' ⟨b,rfl,h⟩
  exact⟨b,rfl,h⟩
def gHere (n:Nat) (c:Bool):Gr:=fun l=>
 if kd l=3 then(if c=true then some (false,l) else gName l.tail)
 else if kd l=16∨kd l=17∨kd l=18∨kd l=19 then some (true,l.tail)
 else if kd l=15 then(if isW wNull l=true then none else some (true,l.tail))
 else if kd l=10 then gLoop (gValue n c) 11 l.tail
 else if kd l=12 then gLoop (gThen gName (gThen (gSign 7) (gValue n c))) 14 l.tail
 else some (false,l)
structure KL (A H:Heap) (x:Sli) (bs:List Sli):Prop where
 own:OwnS H tq36 1 x.1 x.2.1 x.2.2 (bs.map sliV)
 row: ∀r,rowOf x.1=some r→A.size≤r
 facts: ∀b∈bs,Fact A H (rowOf x.1) (NewsOk b)
theorem KL.nil (A H:Heap):KL A H (none,0,0) []:=⟨OwnS.nil _ _ _,fun r hr=>(by cases hr),fun b hb=>(by cases hb)⟩
theorem KL.len {A H:Heap} {x:Sli} {bs:List Sli} (h:KL A H x bs):x.2.1=bs.length:=by
 have:=h.own.1
 simp only[List.length_map,Nat.mul_one] at this
 omega
theorem KL.step {A H H':Heap} {x:Sli} {bs:List Sli} {S:List Nat} (h:KL A H x bs) (he:Ext S H H') (hS: ∀k∈S,k<A.size):KL A H' x bs:=
 ⟨h.own.ext he fun r hr hm=>by have:=hS r hm;have:=h.row r hr;omega,h.row,fun b hb=>(h.facts b hb).step he hS⟩
theorem KL.slc {A H:Heap} {x:Sli} {bs:List Sli} (h:KL A H x bs):SlcAt H x.1 x.2.1 (bs.map sliV)∧ ∀b∈bs,NewsOk b H:=
 ⟨SlcAt.of_own h.own,fun b hb=>Born.self' (h.facts b hb).born⟩
theorem KL.push {E:SEnv} {A H:Heap} {x y:Sli} {bs:List Sli} {σ:St} (h:KL A H x bs) (x0:Ext [E.p] A H) (sp:SP E H σ) (hp:E.p<A.size) (ht: ∀q,rowOf E.ta=some q→q<A.size) (hlen:bs.length≤100000) (hy:Fact A H (rowOf x.1) (NewsOk y))
 {K:Option Addr→Nat→Heap→Prop} (hk: ∀a c H',KL A H' (a,x.2.1+1,c) (bs++[y])→Ext [E.p] A H'→SP E H' σ→K a c H'):
 newB H (.cells #[.slice y.1 y.2.1 y.2.2] tq36) fun b2 H2=>appK H2 tq36 1 24 x.1 x.2.1 x.2.2 (some ⟨b2,0,none⟩) 1 K:=by
 refine nbI fun H1 e1 hb1 x1 s1=>?_
 have hn:=h.len
 have hml:1000000≤maxLen:=by decide
 have own1:=h.own.ext x1 (by simp)
 refine .inr ⟨_,_,own1,NewsS.of_block hb1 rfl,?_,by omega,by omega,?_⟩
 ·intro u hu
  simp at hu
  subst hu
  rfl
 intro a c H2 ho hg _ hrow
 have hr2:rowOf a=rowOf x.1∨rowOf a=some H1.size:=hrow
 have y1:Ext [E.p] A H1:=x0.trans x1.of_nil
 refine hk a c H2 ⟨?_,fun r hr=>?_,fun b hb=>?_⟩ ?_ ((sp.grow x1).rowed hg h.row hp ht)
 ·rw[List.map_append]
  simpa [sliV] using ho
 ·rcases hr2 with h3|h3
  ·exact h.row r (by rw[←h3];exact hr)
  ·rw[h3] at hr;cases hr;exact y1.size
 ·rcases List.mem_append.1 hb with hb|hb
  ·exact((h.facts b hb).step x1 (by simp)).grow hg hr2
  ·rw[List.mem_singleton.1 hb]
   exact(hy.step x1 (by simp)).grow hg hr2
 ·refine⟨by have:=y1.size;have:=hg.size;omega,fun q o hq hne=>?_⟩
  have h3:=y1.get _ _ hq hne
  rw[hg.block q (lt_of_get h3) fun eq=>?_,h3]
  have:=h.row q eq.symm
  have:=lt_of_get hq
  omega
theorem KL.fact {A B H:Heap} {x y:Sli} {bs:List Sli} (h:KL A B x bs) (hA:A.size≤B.size) (hb:Born B H (NewsOk y)):Fact A H (rowOf x.1) (NewsOk y):=
 Fact.new hb hA fun r hr=>by
  obtain⟨cur,_,hg,_⟩:=h.own.row hr
  exact lt_of_get hg
theorem tkL_cut: ∀(ts:List Tk) (i:Nat) (h:i<ts.length),((tkL ts).drop (i*4)).take 4=ts[i].vals
 |t::r,0,_=>by
  have e:tkL (t::r)=t.vals++tkL r:=rfl
  rw[e,Nat.zero_mul,List.drop_zero,List.take_append_of_le_length (by show 4≤4;omega)]
  rfl
 |t::r,i+1,h=>by
  have e:tkL (t::r)=t.vals++tkL r:=rfl
  have hl:t.vals.length=4:=rfl
  have h':i<r.length:=by simpa using h
  rw[e,List.drop_append,hl,List.drop_of_length_le (by omega),show(i+1)*4 -4=i*4 by omega,List.nil_append]
  exact tkL_cut r i h'
theorem SP.tok4 {E:SEnv} {H:Heap} {σ:St} (sp:SP E H σ) {i:Nat} (hi:i<E.ts.length):
 loadC H true 4 ⟨blkOf E.ta,offOf E.ta+((i:Nat):Int).toNat*4,none⟩=some (.agg #[.int .i64 E.ts[i].kind,.string E.ts[i].value,.int .i64 E.ts[i].start,.int .i64 E.ts[i].stop]):=by
 have h:=(sp.tok.loads (by omega) (i*4) 4 (by omega)).1
 rw[tkL_cut _ _ hi] at h
 exact h
end Go.Vx
