/- A part of the proof of what the last text of this claim says: QP3, QP4. Conditions: none. -/
import Derived.Test.YtkopcepfeeemhaaGreatDoorZAl
import Derived.Test.YtkopcepfeeemhaaGreatDoorYBAb
import Derived.Test.YtkopcepfeeemhaaGreatDoorYBAc
set_option maxRecDepth 10000
namespace Go.Vx
open Go Go.Proofs
theorem PS.keepT {E:PEnv} {H H':Heap} {l:List KV} (h:PS E H l) {b:Nat} (he:Ext [b] H H') (hb: ∃c fr,H[b]?=some (.cells c tq85 fr)) (hlo:E.body<b):PS E H' l:=by
 obtain⟨cb,fb,hb⟩:=hb
 have key: ∀(k:Nat) (d:Array Value) (e:TypeId) (fr:Nat×Nat),H[k]?=some (.cells d e fr)→e≠tq85→H'[k]?=some (.cells d e fr):=by
  intro k d e fr hk hne
  exact he.get _ _ hk (ne_mem (cells_ne hk hb hne))
 obtain⟨pe,t,st,en,r,h1,hp,h2⟩:=h.p
 obtain⟨n,hn⟩:=h.ls.prev
 refine⟨⟨⟨n,key _ _ _ _ hn (by decide)⟩,key _ _ _ _ h.ls.srcb (by decide),h.ls.src.keep (fun k c e fr hk ho=>key _ _ _ _ hk ?_) (fun k o hk ho=>he.get _ _ ho (by simp;omega)),h.ls.lo⟩,pe,t,st,en,r,h1,key _ _ _ _ hp (by decide),h2⟩
 rcases ho with rfl|rfl<;>decide
abbrev T4:=Int×Int×Int×ByteArray
abbrev T4.v (x:T4):Value:= .tuple #[.agg #[.int .i64 x.1,.int .i64 x.2.1,.int .i64 x.2.2.1,.string x.2.2.2],.nilIface]
theorem expect_ok (E:PEnv) (t u:KV) (l:List KV) (k:Int) (hk:t.1=k):
 POk E fq143 #[.pointer (some ⟨E.p,0,none⟩),.int .i64 k] (t::u::l) (u::l) (fun x:T4=>x.v) fun x _=>x.2.2.2=t.2:=by
 intro H ps
 obtain⟨pe,t',st,en,r,hl,hp,hen,h14,hr⟩:=ps.p
 cases hl
 have hlt:=ps.lt
 refine expect.enter _ _ H _ ?_
 unfold expect.W
 refine nbI fun H1 e1 hb1 x1 s1=>?_
 have hp1:=x1.get _ _ hp (by simp)
 refine⟨(t.1,(st:Int),(en:Int),t.2),lcO hp1 rfl,?_⟩
 dsimp only
 refine nbI fun H2 e2 hb2 x2 s2=>?_
 refine swI hb2 (by simp) rfl rfl fun H3 e3 hb3 x3 s3=>?_
 have hb3':H3[H1.size]?=some (.cells #[.int .i64 t.1,.int .i64 st,.int .i64 en,.string t.2] tq85):=hb3
 have hb13:=x3.get _ _ (x2.get _ _ hb1 (by simp)) (ne_mem (by omega))
 have y3:Ext [] H H3:=by rw[e3];exact(x1.trans x2).setNew (by omega) _
 refine⟨t.1,lcO hb3' rfl,fkI (fun _=>?_) (fun hh=>by simp[hk] at hh)⟩
 refine⟨(t.1,(st:Int),(en:Int),t.2),lcO hb3' rfl,?_⟩
 dsimp only
 refine(advance_ok E t u l H3 (ps.grow y3)).mono ?_
 rintro _ H4 ⟨rfl,c4⟩
 have nin: ∀b,H.size≤b→b∉E.S:=by
  intro b hb
  simp only[PEnv.S,List.mem_cons,List.not_mem_nil,or_false,not_or]
  omega
 have hb4:=c4.ext.get _ _ hb3' (nin _ (by omega))
 have hb14:=c4.ext.get _ _ hb13 (nin _ (by omega))
 refine⟨(),rfl,lcO hb4 rfl,?_⟩
 refine swI hb14 (by simp) rfl rfl fun H5 e5 hb5 x5 s5=>?_
 have hb5':H5[H.size]?=some (.cells #[.int .i64 t.1,.int .i64 st,.int .i64 en,.string t.2] tq85):=hb5
 rw[lcO hb5' rfl]
 refine rkI ⟨(t.1,(st:Int),(en:Int),t.2),rfl,c4.ps.keepT x5 ⟨_,_,hb14⟩ (by have:=ps.ls.lo;omega),?_,hlt,fun _ _=>rfl⟩
 rw[e5]
 exact(y3.of_nil.trans c4.ext).setNew (by omega) _
theorem expectKeyWord_ok (E:PEnv) (u:KV) (l:List KV) (v:ByteArray):
 POk E fq137 #[.pointer (some ⟨E.p,0,none⟩),.string v] ((15,v)::u::l) (u::l) (fun x:T4=>x.v) fun x _=>x.2.2.2=v:=by
 intro H ps
 obtain⟨pe,t',st,en,r,hl,hp,hen,h14,hr⟩:=ps.p
 cases hl
 have hlt:=ps.lt
 refine expectKeyWord.enter _ _ H _ ?_
 unfold expectKeyWord.W
 refine nbI fun H1 e1 hb1 x1 s1=>?_
 have hp1:=x1.get _ _ hp (by simp)
 refine⟨((15:Int),(st:Int),(en:Int),v),lcO hp1 rfl,?_⟩
 dsimp only
 refine nbI fun H2 e2 hb2 x2 s2=>?_
 refine swI hb2 (by simp) rfl rfl fun H3 e3 hb3 x3 s3=>?_
 have hb3':H3[H1.size]?=some (.cells #[.int .i64 15,.int .i64 st,.int .i64 en,.string v] tq85):=hb3
 have hb13:=x3.get _ _ (x2.get _ _ hb1 (by simp)) (ne_mem (by omega))
 have y3:Ext [] H H3:=by rw[e3];exact(x1.trans x2).setNew (by omega) _
 refine⟨(true,()),?_,?_⟩
 ·refine⟨(15:Int),lcO hb3' rfl,fkI (fun _=>?_) (fun hh=>by simp at hh)⟩
  exact⟨v,lcO hb3' rfl,by simp,rfl⟩
 refine fkI (fun _=>?_) (fun hh=>by simp at hh)
 refine⟨((15:Int),(st:Int),(en:Int),v),lcO hb3' rfl,?_⟩
 dsimp only
 refine(advance_ok E (15,v) u l H3 (ps.grow y3)).mono ?_
 rintro _ H4 ⟨rfl,c4⟩
 have nin: ∀b,H.size≤b→b∉E.S:=by
  intro b hb
  simp only[PEnv.S,List.mem_cons,List.not_mem_nil,or_false,not_or]
  omega
 have hb4:=c4.ext.get _ _ hb3' (nin _ (by omega))
 have hb14:=c4.ext.get _ _ hb13 (nin _ (by omega))
 refine⟨(),rfl,lcO hb4 rfl,?_⟩
 refine swI hb14 (by simp) rfl rfl fun H5 e5 hb5 x5 s5=>?_
 have hb5':H5[H.size]?=some (.cells #[.int .i64 15,.int .i64 st,.int .i64 en,.string v] tq85):=hb5
 rw[lcO hb5' rfl]
 refine rkI ⟨((15:Int),(st:Int),(en:Int),v),rfl,c4.ps.keepT x5 ⟨_,_,hb14⟩ (by have:=ps.ls.lo;omega),?_,hlt,fun _ _=>rfl⟩
 rw[e5]
 exact(y3.of_nil.trans c4.ext).setNew (by omega) _
def LocAt (b:Nat) (G:Heap):Prop:= ∃(s e:Int) (q:Nat),G[b]?=some (.cells #[.int .i64 s,.int .i64 e,.pointer (some ⟨q,0,none⟩)] tq185)
theorem NewLocation_mk (s e:Int) (q:Nat):MkOk fq200 #[.int .i64 s,.int .i64 e,.pointer (some ⟨q,0,none⟩)] #[.int .i64 s,.int .i64 e,.pointer (some ⟨q,0,none⟩)] tq185:=by
 intro H b hb
 refine NewLocation.enter _ H _ ?_
 unfold NewLocation.W
 refine⟨_,lcO hb rfl,_,lcO hb rfl,_,lcO hb rfl,nbI fun H1 e1 hb1 x1 s1=>rkI ⟨_,rfl,x1.of_nil,.inr (Nat.le_refl _),hb1⟩⟩
theorem Cx.node {E:PEnv} {A H:Heap} {l:List KV} {F:Heap→Prop} {f:FuncId} {c c':Array Value} {t:TypeId} {K:Nat→Heap→Prop} (h:Cx E A H l F) (hm:MkOk f c c' t)
 (hk: ∀b H',Ext [] H H'→Cx E A H' l (fun G=>F G∧G[b]?=some (.cells c' t))→K b H'):
 newB H (.cells c t) fun b H2=>callW PP f #[.pointer (some ⟨b,0,none⟩)] H2 pBlk fun x H3=>K x H3:=by
 refine nbI fun H1 e1 hb1 x1 s1=>?_
 refine(hm H1 H.size hb1).mono ?_
 rintro _ H2 ⟨b',rfl,x2,hb',hb2⟩
 have y:Ext [] H H2:=⟨by have:=x1.size;have:=x2.size;omega,fun k o ho _=>x2.get _ _ (x1.get _ _ ho (by simp)) (ne_mem (by have:=lt_of_get ho;omega))⟩
 refine⟨b',rfl,hk b' H2 y (h.add y fun G hG=>hG _ _ ?_ hb2)⟩
 rcases hb' with rfl|hb'
 ·exact Nat.le_refl _
 ·omega
theorem loc_ok (E:PEnv) (l:List KV) (st:Int):POk E fq141 #[.pointer (some ⟨E.p,0,none⟩),.int .i64 st] l l pBlk.to fun b G=>LocAt b G:=by
 intro H ps
 obtain⟨pe,t',st',en,r,hl,hp,hen,h14,hr⟩:=ps.p
 refine loc.enter _ _ H _ ?_
 unfold loc.W
 refine⟨false,lcO hp rfl,fkI (fun hh=>by simp at hh) (fun _=>⟨false,lcO hp rfl,fkI (fun hh=>by simp at hh) (fun _=>?_)⟩)⟩
 refine⟨_,lcO hp rfl,E.src,lcO hp rfl,?_⟩
 refine(Cx.start ps).node (NewLocation_mk _ _ _) fun b H1 _ c1=>?_
 exact rkI ⟨b,rfl,c1.weak fun G hG=>⟨_,_,_,hG.2⟩⟩
def NameAt (b:Nat) (s:ByteArray) (G:Heap):Prop:= ∃(lb:Nat),LocAt lb G∧G[b]?=some (.cells #[.string kName,.pointer (some ⟨lb,0,none⟩),.string s] tq115)
theorem parseName_ok (E:PEnv) (s:ByteArray) (u:KV) (l:List KV):
 POk E fq146 #[.pointer (some ⟨E.p,0,none⟩)] ((15,s)::u::l) (u::l) (fun b:Nat=> .tuple #[.pointer (some ⟨b,0,none⟩),.nilIface]) fun b G=>NameAt b s G:=by
 intro H ps
 refine parseName.enter _ H _ ?_
 unfold parseName.W
 refine(Cx.start ps).call (expect_ok E (15,s) u l 15 rfl) fun x H1 _ c1=>?_
 obtain⟨x1,x2,x3,x4⟩:=x
 have hx:x4=s:=c1.self.2
 subst hx
 dsimp only
 refine c1.tok rfl fun H2 y2 hb2 c2=>?_
 refine⟨x4,lcO hb2 rfl,x2,lcO hb2 rfl,?_⟩
 refine c2.call (loc_ok E _ x2) fun lb H3 y3 c3=>?_
 have hb3:=y3.get _ _ hb2 (c3.nin c1.ext.size)
 refine⟨lcO hb3 rfl,?_⟩
 refine c3.node (NewName_mk _ _) fun b H4 _ c4=>?_
 exact rkI ⟨b,rfl,c4.weak fun G hG=>⟨lb,hG.1.2,hG.2⟩⟩
def NamedAt (b:Nat) (s:ByteArray) (G:Heap):Prop:= ∃(lb nb:Nat),LocAt lb G∧NameAt nb s G∧G[b]?=some (.cells #[.string kNamed,.pointer (some ⟨lb,0,none⟩),.pointer (some ⟨nb,0,none⟩)] tq113)
theorem parseNamed_ok (E:PEnv) (s:ByteArray) (u:KV) (l:List KV):
 POk E fq144 #[.pointer (some ⟨E.p,0,none⟩)] ((15,s)::u::l) (u::l) (fun b:Nat=> .tuple #[.pointer (some ⟨b,0,none⟩),.nilIface]) fun b G=>NamedAt b s G:=by
 intro H ps
 refine parseNamed.enter _ H _ ?_
 unfold parseNamed.W
 obtain⟨st,hst,_⟩:=ps.start
 refine⟨_,hst,?_⟩
 refine(Cx.start ps).call (parseName_ok E s u l) fun nb H1 _ c1=>?_
 refine c1.call (loc_ok E _ _) fun lb H2 _ c2=>?_
 refine c2.node (NewNamed_mk _ _) fun b H3 _ c3=>?_
 exact rkI ⟨b,rfl,c3.weak fun G hG=>⟨lb,nb,hG.1.2,hG.1.1.2,hG.2⟩⟩
theorem parseOperationType_ok (E:PEnv) (s:ByteArray) (u:KV) (l:List KV) (hs:OpWord s):
 POk E fq142 #[.pointer (some ⟨E.p,0,none⟩)] ((15,s)::u::l) (u::l) (fun x:ByteArray=> .tuple #[.string x,.nilIface]) fun x _=>x=s:=by
 intro H ps
 refine parseOperationType.enter _ H _ ?_
 unfold parseOperationType.W
 refine(Cx.start ps).call (expect_ok E (15,s) u l 15 rfl) fun x H1 _ c1=>?_
 obtain⟨x1,x2,x3,x4⟩:=x
 have hx:x4=s:=c1.self.2
 subst hx
 dsimp only
 refine c1.tok rfl fun H2 y2 hb2 c2=>?_
 have fin:loadW H2 false 1 ⟨H1.size,3,none⟩ pStr fun(x7:ByteArray)=>retK (some [(.string x7),.nilIface]) H2 fun v H'=> ∃x:ByteArray,v= .tuple #[.string x,.nilIface]∧Cx E H H' (u::l) fun _=>x=x4:=
  ⟨x4,lcO hb2 rfl,rkI ⟨x4,rfl,c2.weak fun _ _=>rfl⟩⟩
 refine⟨x4,lcO hb2 rfl,fkI (fun _=>fin) (fun h1=>fkI (fun _=>fin) (fun h2=>fkI (fun _=>fin) (fun h3=>?_)))⟩
 exfalso
 rcases hs with rfl|rfl|rfl
 ·simp at h1
 ·simp at h2
 ·simp at h3
theorem NewSource_ok (H:Heap) (b:Nat) (bd n c:Nat) (hb:H[b]?=some (.cells #[.slice (some ⟨bd,0,none⟩) n c,.string (bs [])] tq145)):
 Fn PP fq86 #[.pointer (some ⟨b,0,none⟩)] H fun v H'=>v= .pointer (some ⟨b,0,none⟩)∧Ext [b] H H'∧ ∃nm,H'[b]?=some (.cells #[.slice (some ⟨bd,0,none⟩) n c,.string nm] tq145):=by
 refine NewSource.enter b H _ ?_
 unfold NewSource.W
 refine⟨_,lcO hb rfl,fkI (fun _=>?_) (fun hh=>by simp at hh)⟩
 exact swI hb (by simp) rfl rfl fun H1 e1 hb1 x1 s1=>rkI ⟨rfl,x1,_,hb1⟩
theorem LexI_ok (H:Heap) (b:Nat):Fn PP fq136 #[.pointer (some ⟨b,0,none⟩)] H fun v H'=> ∃p s:Nat,v= .func (.func fq196) #[] #[.pointer (some ⟨p,0,none⟩),.pointer (some ⟨s,0,none⟩)]∧Ext [] H H'∧
 H'[s]?=some (.cells #[.pointer (some ⟨b,0,none⟩)] tq88)∧H'[p]?=some (.cells #[.int .i64 0] tq3)∧H.size≤p:=by
 refine LexI.enter b H _ ?_
 unfold LexI.W
 refine nbI fun H1 e1 hb1 x1 s1=>nbI fun H2 e2 hb2 x2 s2=>rkI ⟨H1.size,H.size,rfl,x1.trans x2,x2.get _ _ hb1 (by simp),hb2,by omega⟩
theorem makeParser_ok (S:Src) (H:Heap) (hS:SrcAt S H) (t:KV) (l:List KV) (hr:Rest S (t::l) 0):
 Fn PP fq85 #[.pointer (some ⟨S.src,0,none⟩),.agg #[.bool false,.bool false]] H fun v H'=> ∃E:PEnv,E.toSrc=S∧v= .tuple #[.pointer (some ⟨E.p,0,none⟩),.nilIface]∧PS E H' (t::l)∧Ext [] H H'∧H.size≤E.p∧H.size≤E.prev:=by
 obtain⟨st,en,hx,hr⟩:=hr
 refine makeParser.enter _ H _ ?_
 unfold makeParser.W
 refine nbI fun H1 e1 hb1 x1 s1=>?_
 refine(LexI_ok H1 S.src).mono ?_
 rintro _ H2 ⟨p,s,rfl,x2,hs2,hp2,hp⟩
 refine⟨(p,s),rfl,?_⟩
 dsimp only
 let E0:PEnv:= {S with p:=p,prev:=p,srcb:=s}
 have hbl:S.body<H.size:=by
  obtain⟨_,_,hb,_⟩:=hS.body
  exact lt_of_get hb
 have z1:=x1.size
 have ls:LS E0 H2:=⟨⟨0,hp2⟩,hs2,(hS.ext x1).ext x2,by show S.body<p∧S.body<p;omega⟩
 refine(LexI1_any ls 0 0 t st en hx (.inr ⟨rfl,hp2⟩)).mono ?_
 rintro _ H3 ⟨rfl,x3,n3,hn3⟩
 refine⟨(t.1,(st:Int),(en:Int),t.2),rfl,?_⟩
 dsimp only
 have hb13:=x3.get _ _ (x2.get _ _ hb1 (by simp)) (ne_mem (show H.size≠p by omega))
 refine nbI fun H4 e4 hb4 x4 s4=>?_
 refine swI hb4 (by simp) rfl rfl fun H5 e5 hb5 x5 s5=>?_
 have hb5':H5[H3.size]?=some (.cells #[.int .i64 t.1,.int .i64 st,.int .i64 en,.string t.2] tq85):=hb5
 have y5:Ext [] H3 H5:=by rw[e5];exact x4.setNew (Nat.le_refl _) _
 have hb15:=y5.get _ _ hb13 (by simp)
 refine⟨(false,false),lcO hb15 rfl,(t.1,(st:Int),(en:Int),t.2),lcO hb5' rfl,?_⟩
 dsimp only
 refine nbI fun H6 e6 hb6 x6 s6=>?_
 let E:PEnv:= {S with p:=H5.size,prev:=p,srcb:=s}
 have y6:=y5.trans x6
 have k3:Ext [] H H3:=⟨by have:=x1.size;have:=x2.size;have:=x3.size;omega,fun k o ho _=>x3.get _ _ (x2.get _ _ (x1.get _ _ ho (by simp)) (by simp)) (ne_mem (by show k≠p;have:=lt_of_get ho;omega))⟩
 refine rkI ⟨E,rfl,rfl,⟨⟨⟨n3,y6.get _ _ hn3 (by simp)⟩,?_,(hS.ext k3).ext y6,by have:=k3.size;have:=y5.size;show S.body<H5.size∧S.body<p;omega⟩,0,t,st,en,l,rfl,hb6,hx.2.2.1,hx.2.2.2.1,hr⟩,k3.trans y6,?_,?_⟩
 ·refine y6.get _ _ (x3.get _ _ hs2 (ne_mem ?_)) (by simp)
  exact cells_ne hs2 hp2 (by decide)
 ·show H.size≤H5.size
  have:=k3.size;have:=y5.size;omega
 ·show H.size≤p
  omega
theorem begin_ok (text:ByteArray) (hsm:text.size<268435456) (t:KV) (l:List KV) (hr: ∀S:Src,S.text=text→Rest S (t::l) 0) (H:Heap) (hT:TabsAt H.size H):
 Fn PP fq61 #[.string text] H fun v H'=> ∃E:PEnv,v= .tuple #[.pointer (some ⟨E.p,0,none⟩),.nilIface]∧E.text=text∧PS E H' (t::l)∧Ext [] H H'∧H.size≤E.p∧H.size≤E.prev:=by
 refine begin_.enter text H _ ?_
 unfold begin_.W
 rintro cap _ H1 hcap rfl e1
 have x1:Ext [] H H1:=by rw[e1];exact Ext.push _ _ _
 have s1:H1.size=H.size+1:=by rw[e1];simp
 have hb1:H1[H.size]?=some (.cells (bytesRow text cap) tq5 ((bytesRow text cap).size,(bytesRow text cap).size+1)):=by rw[e1];exact get_push_new _ _
 refine nbI fun H2 e2 hb2 x2 s2=>?_
 refine(NewSource_ok H2 H1.size H.size text.size cap hb2).mono ?_
 rintro _ H3 ⟨rfl,x3,nm,hb3⟩
 refine⟨H1.size,rfl,?_⟩
 have hb13:=x3.get _ _ (x2.get _ _ hb1 (by simp)) (ne_mem (by omega))
 let S:Src:=⟨H1.size,H.size,cap,text⟩
 have hS:SrcAt S H3:=by
  refine⟨⟨nm,_,hb3⟩,⟨_,_,hb13,?_,fun i hi=>?_⟩,hcap,hsm,hT.keep (Nat.le_refl _) fun k o hk ho=>x3.get _ _ (x2.get _ _ (x1.get _ _ ho (by simp)) (by simp)) (ne_mem (by omega))⟩
  ·show text.size≤_
   simp[bytesRow]
  ·have hi':i<text.data.size:=by simpa using hi
   rw[bytesRow_at text cap i hi']
   have e:((i:Nat):Int).toNat=i:=by omega
   simp only[bt,S]
   rw[e,Array.getElem?_eq_getElem hi']
   rfl
 refine(makeParser_ok S H3 hS t l (hr S rfl)).mono ?_
 rintro _ H4 ⟨E,hE,rfl,hps,x4,h1,h2⟩
 refine⟨E.p,rfl,rkI ⟨E,rfl,by rw[hE],hps,?_,?_,?_⟩⟩
 ·have y:Ext [] H H3:=⟨by have:=x3.size;omega,fun k o ho _=>x3.get _ _ (x2.get _ _ (x1.get _ _ ho (by simp)) (by simp)) (ne_mem (by have:=lt_of_get ho;omega))⟩
  exact y.trans x4
 ·have:=x3.size;omega
 ·have:=x3.size;omega
end Go.Vx
