/- A part of the proof of what the last text of this claim says: QA1, QA2, QP1. Conditions: none. -/
import Derived.Shelf.Unicode.DecodeSlow
import Derived.Test.YtkopcepfeeemhaaGreatDoorYDAi
import Derived.Test.YtkopcepfeeemhaaGreatDoorYDAj
set_option maxRecDepth 10000
namespace Go.Vx
open Go Go.Proofs
structure Src where
 src:Nat
 body:Nat
 cap:Nat
 text:BA
structure TabsAt (lim:Nat) (H:Heap):Prop where
 tabs: ∀w:World,w.heap=H→Lib.Utf8Tabs kc5 kc4 w
 first:kc5<lim
 accept:kc4<lim
theorem TabsAt.keep {lim lim':Nat} {H H':Heap} (h:TabsAt lim H) (hl:lim≤lim') (hk: ∀(k:Nat) (o:Obj),k<lim→H[k]?=some o→H'[k]?=some o):TabsAt lim' H':=by
 refine⟨fun w hw=>?_,by have:=h.first;omega,by have:=h.accept;omega⟩
 subst hw
 have h0:=h.tabs {w with heap:=H} rfl
 have hc: ∀(g i:Nat) (v:Value),g<lim→k1a H ⟨g,i,none⟩=some v→k1a w.heap ⟨g,i,none⟩=some v:=by
  intro g i v hg hv
  unfold k1a at hv⊢
  cases ho:H[g]? with
  |none=>simp only[ho] at hv;cases hv
  |some o=>simp only[ho] at hv;simp only[hk g o hg ho];exact hv
 exact⟨fun c hc'=>hc _ _ _ h.first (h0.1 c hc'),fun i hi=>⟨hc _ _ _ h.accept (h0.2 i hi).1,hc _ _ _ h.accept (h0.2 i hi).2⟩⟩
theorem TabsAt.up {H H':Heap} (h:TabsAt H.size H) (he:Ext [] H H'):TabsAt H'.size H':=h.keep he.size fun _ _ _ ho=>he.get _ _ ho (by simp)
structure SrcAt (E:Src) (H:Heap):Prop where
 src: ∃nm fr,H[E.src]?=some (.cells #[.slice (some ⟨E.body,0,none⟩) E.text.size E.cap,.string nm] tq145 fr)
 body: ∃c fr,H[E.body]?=some (.cells c tq5 fr)∧E.text.size≤c.size∧ ∀i,i<E.text.size→c[i]?=some (.int .u8 (bt E.text i))
 le:E.text.size≤E.cap
 small:E.text.size<268435456
 tabs:TabsAt E.body H
theorem SrcAt.ext {E:Src} {H H':Heap} (h:SrcAt E H) (he:Ext [] H H'):SrcAt E H':=by
 obtain⟨⟨nm,fr,h1⟩,⟨c,fr2,h2,h3⟩,h4,h5,h6⟩:=h
 exact⟨⟨nm,fr,he.get _ _ h1 (by simp)⟩,⟨c,fr2,he.get _ _ h2 (by simp),h3⟩,h4,h5,h6.keep (Nat.le_refl _) fun _ _ _ ho=>he.get _ _ ho (by simp)⟩
abbrev Src.sl (E:Src):Value:= .slice (some ⟨E.body,0,none⟩) E.text.size E.cap
theorem SrcAt.byte {E:Src} {H:Heap} (h:SrcAt E H) {i:Nat} (hi:i<E.text.size):k07 H false 1 ⟨E.body,0+((i:Nat):Int).toNat*1,none⟩=some (.int .u8 (bt E.text i)):=by
 obtain⟨c,fr,h2,h3,h4⟩:=h.body
 refine lcO h2 ?_
 have:=h4 i hi
 simp[kac,this]
theorem k5q (s:BA) (n:Int):IntKind.i32.wrap (bt s n)=bt s n:=i32w (by have:=k2s s n;omega)
theorem k3e {E:Src} {H:Heap} (h:SrcAt E H) (i:Nat) (hi:i<E.text.size) (ha:bt E.text i<128):
 Fn PP fq227 #[E.sl,.int .i64 i] H fun v H'=>v= .tuple #[.int .i32 (bt E.text i),.int .i64 1]∧H=H':=by
 refine runeAt.enter _ _ _ _ _ H _ ?_
 unfold runeAt.W
 refine fkI (fun hge=>?_) (fun hlt=>?_)
 ·exfalso;simp at hge;omega
 refine⟨k0k (by omega) (by omega),_,h.byte hi,fkI (fun _=>rkI ⟨?_,rfl⟩) (fun hb=>?_)⟩
 ·simp only[retV];rw[k5q]
 ·exfalso;simp at hb;omega
theorem kdT {E:Src} {H:Heap} (i:Nat) (hi:E.text.size≤i):
 Fn PP fq227 #[E.sl,.int .i64 i] H fun v H'=>v= .tuple #[.int .i32 (-1),.int .i64 65533]∧H=H':=by
 refine runeAt.enter _ _ _ _ _ H _ ?_
 unfold runeAt.W
 refine fkI (fun hge=>rkI ⟨rfl,rfl⟩) (fun hlt=>?_)
 exfalso;simp at hlt;omega
def k0s (s:BA) (i:Nat):Int×Int:=if i<s.size then(bt s i,1) else(-1,65533)
def Asc (s:BA) (i:Nat):Prop:=i<s.size→bt s i<128
theorem k3d {E:Src} {H:Heap} (h:SrcAt E H) (i:Nat) (ha:Asc E.text i):
 Fn PP fq227 #[E.sl,.int .i64 i] H fun v H'=>v= .tuple #[.int .i32 (k0s E.text i).1,.int .i64 (k0s E.text i).2]∧H=H':=by
 by_cases hi:i<E.text.size
 ·have:=k3e h i hi (ha hi)
  simpa [k0s,hi] using this
 ·have:=kdT (E:=E) (H:=H) i (by omega)
  simpa [k0s,hi] using this
theorem k4k (k st en:Int) (v:BA) (H:Heap):
 Fn PP fq226 #[.int .i64 k,.int .i64 st,.int .i64 en,.string v] H fun r H'=>r= .agg #[.int .i64 k,.int .i64 st,.int .i64 en,.string v]∧Ext [] H H':=by
 refine makeToken.enter _ _ _ _ H _ ?_
 unfold makeToken.W
 refine nbI fun H1 hH1 hb he hs=>?_
 refine swI hb (by simp) rfl rfl fun H2 hH2 hb2 he2 hs2=>?_
 have hb3:H2[H.size]?=some (.cells #[.int .i64 k,.int .i64 st,.int .i64 en,.string v] tq85 (0,0)):=hb2
 rw[lcO hb3 rfl]
 refine rkI ⟨rfl,?_⟩
 subst hH2;subst hH1
 exact(Ext.push [] H _).setNew (Nat.le_refl _) _
def k2X (c:Int):Bool:=c==65279||(c==9||(c==32||(c==10||(c==13||c==44))))
inductive CmRun (s:BA):Nat→Nat→Prop
 |stop (i:Nat):(s.size≤i∨bt s i=10∨bt s i=13)→CmRun s i i
 |step (i j:Nat):i<s.size→31<bt s i→bt s i<128→CmRun s (i+1) j→CmRun s i j
inductive WsRun (s:BA):Nat→Nat→Prop
 |stop (i:Nat):(s.size≤i∨(bt s i<128∧k2X (bt s i)=false∧bt s i≠35))→WsRun s i i
 |ws (i j:Nat):i<s.size→k2X (bt s i)=true→WsRun s (i+1) j→WsRun s i j
 |cm (i m j:Nat):i<s.size→bt s i=35→CmRun s (i+1) m→WsRun s m j→WsRun s i j
theorem CmRun.le {s:BA} {i j:Nat} (h:CmRun s i j):i≤j:=by
 induction h with
 |stop=>exact Nat.le_refl _
 |step _ _ _ _ _ _ ih=>omega
theorem CmRun.inv {s:BA} {i j:Nat} (h:CmRun s i j):(i=j∧(s.size≤i∨bt s i=10∨bt s i=13))∨(i<s.size∧31<bt s i∧bt s i<128∧CmRun s (i+1) j):=by
 cases h with
 |stop _ h=>exact .inl ⟨rfl,h⟩
 |step _ _ h1 h2 h3 h4=>exact .inr ⟨h1,h2,h3,h4⟩
theorem WsRun.le {s:BA} {i j:Nat} (h:WsRun s i j):i≤j:=by
 induction h with
 |stop=>exact Nat.le_refl _
 |ws _ _ _ _ _ ih=>omega
 |cm _ _ _ _ _ hc _ ih=>have:=hc.le;omega
theorem k51 {E:Src} {H:Heap} (h:SrcAt E H) (i j:Nat) (hr:WsRun E.text i j):
 Fn PP fq225 #[E.sl,.int .i64 i] H fun v H'=>v= .tuple #[.int .i64 j,.int .i64 j]∧H=H':=by
 have hsm:=h.small
 refine k6w.enter _ _ _ _ _ H _ ?_
 unfold k6w.W
 refine⟨fun z H'=>H=H'∧ ∃k:Nat,z.1=k∧z.2.1=k∧WsRun E.text k j,fun z _=>E.text.size -z.1.toNat,⟨rfl,i,rfl,rfl,hr⟩,?_⟩
 rintro⟨_,_,_⟩ _ ⟨rfl,k,hk,hk2,hw⟩
 dsimp only at hk hk2⊢
 subst hk;subst hk2
 refine fkI (fun hlt=>?_) (fun hge=>?_)
 ·have hlt':k<E.text.size:=by simpa using hlt
  have hbr:=k2s E.text k
  have hasc:bt E.text k<128:=by
   cases hw with
   |stop _ h1=>rcases h1 with h1|h1<;>omega
   |ws _ _ _ h1 _=>simp only[k2X,Bool.or_eq_true,beq_iff_eq] at h1;omega
   |cm _ _ _ _ h1 _ _=>omega
  refine(k3e h k hlt' hasc).mono ?_
  rintro _ _ ⟨rfl,rfl⟩
  refine⟨(bt E.text k,1),rfl,?_⟩
  dsimp only
  refine⟨(k2X (bt E.text k),()),?_,?_⟩
  ·unfold k2X
   refine fkI (fun h1=>⟨by simp only[h1,Bool.true_or],rfl⟩) (fun h1=>?_)
   refine fkI (fun h2=>⟨by simp only[h1,h2,Bool.true_or,Bool.false_or],rfl⟩) (fun h2=>?_)
   refine fkI (fun h3=>⟨by simp only[h1,h2,h3,Bool.true_or,Bool.false_or],rfl⟩) (fun h3=>?_)
   refine fkI (fun h4=>⟨by simp only[h1,h2,h3,h4,Bool.true_or,Bool.false_or],rfl⟩) (fun h4=>?_)
   refine fkI (fun h5=>⟨by simp only[h1,h2,h3,h4,h5,Bool.true_or,Bool.false_or],rfl⟩) (fun h5=>?_)
   exact⟨by simp only[h1,h2,h3,h4,h5,Bool.false_or],rfl⟩
  dsimp only
  rw[k0h (k:=k) (by omega)]
  refine⟨fun y H'=>H=H'∧ ∃m:Nat,y.1=m∧y.2.1=m∧k<m∧WsRun E.text m j,?_,?_⟩
  ·refine fkI (fun hb=>?_) (fun hb=>?_)
   ·refine⟨rfl,k+1,rfl,rfl,by omega,?_⟩
    cases hw with
    |stop _ h1=>
     exfalso
     rcases h1 with h1|h1
     ·omega
     ·rw[h1.2.1] at hb;cases hb
    |ws _ _ _ _ h1=>exact h1
    |cm _ _ _ _ h1 _ _=>rw[h1] at hb;simp[k2X] at hb
   ·refine fkI (fun hc=>?_) (fun hc=>?_)
    ·simp only[beq_iff_eq] at hc
     cases hw with
     |stop _ h1=>
      exfalso
      rcases h1 with h1|h1
      ·omega
      ·exact h1.2.2 hc
     |ws _ _ _ h1 _=>rw[h1] at hb;simp at hb
     |cm _ m _ _ _ hcm hws=>
      refine⟨fun z H'=>H=H'∧ ∃q:Nat,z.1=q∧z.2.1=q∧k<q∧CmRun E.text q m,fun z _=>E.text.size+1 -z.1.toNat,⟨rfl,k+1,rfl,rfl,by omega,hcm⟩,?_⟩
      rintro⟨_,_,_⟩ _ ⟨rfl,q,hq,hq2,hkq,hcq⟩
      dsimp only at hq hq2⊢
      subst hq;subst hq2
      have hqa:Asc E.text q:=by
       intro hq1
       rcases hcq.inv with⟨_,h1⟩|⟨_,_,h1,_⟩<;>omega
      refine(k3d h q hqa).mono ?_
      rintro _ _ ⟨rfl,rfl⟩
      refine⟨_,rfl,?_⟩
      rcases hcq.inv with⟨rfl,h1⟩|⟨hq1,hq2,hq3,hq4⟩
      ·refine⟨(false,()),?_,?_⟩
       ·refine fkI (fun hh=>?_) (fun _=>⟨rfl,rfl⟩)
        have hql:q<E.text.size:=by simp at hh;omega
        have er:(k0s E.text q).1=bt E.text q:=by simp[k0s,hql]
        rw[er]
        have h1':bt E.text q=10∨bt E.text q=13:=by omega
        rcases h1' with h1'|h1'<;>rw[h1']
        ·exact fkI (fun _=>fkI (fun hz=>absurd hz (by decide)) (fun _=>fkI (fun hz=>absurd hz (by decide)) (fun _=>⟨rfl,rfl⟩))) (fun _=>⟨rfl,rfl⟩)
        ·exact fkI (fun _=>fkI (fun hz=>absurd hz (by decide)) (fun _=>fkI (fun hz=>absurd hz (by decide)) (fun _=>⟨rfl,rfl⟩))) (fun _=>⟨rfl,rfl⟩)
       ·refine fkI (fun hh=>absurd hh (by decide)) (fun _=>?_)
        exact⟨rfl,q,rfl,rfl,hkq,hws⟩
      ·have er:k0s E.text q=(bt E.text q,1):=by simp[k0s,hq1]
       rw[er]
       dsimp only
       refine⟨(true,()),?_,?_⟩
       ·refine fkI (fun _=>?_) (fun hh=>by exfalso;simp at hh;omega)
        refine fkI (fun _=>?_) (fun hh=>by exfalso;simp at hh;omega)
        refine fkI (fun _=>?_) (fun hh=>by exfalso;simp at hh;omega)
        refine fkI (fun _=>⟨?_,rfl⟩) (fun hh=>by exfalso;simp at hh;omega)
        have:(bt E.text q !=13)=true:=by simp;omega
        rw[this]
       ·refine fkI (fun _=>?_) (fun hh=>absurd hh (by decide))
        rw[k0h (k:=q) (by omega)]
        exact⟨⟨rfl,q+1,rfl,rfl,by omega,hq4⟩,by omega⟩
    ·refine rkI ⟨?_,rfl⟩
     cases hw with
     |stop _ h1=>rfl
     |ws _ _ _ h1 _=>rw[h1] at hb;simp at hb
     |cm _ _ _ _ h1 _ _=>rw[h1] at hc;simp at hc
  ·rintro⟨_,_,_⟩ _ ⟨rfl,m,hm,hm2,hkm,hwm⟩
   dsimp only at hm hm2⊢
   subst hm;subst hm2
   exact⟨⟨rfl,m,rfl,rfl,hwm⟩,by omega⟩
 ·have hge':E.text.size≤k:=by simpa using hge
  refine rkI ⟨?_,rfl⟩
  cases hw with
  |stop _ h1=>rfl
  |ws _ _ h1 _ _=>omega
  |cm _ _ _ h1 _ _ _=>omega
def Sfx (t:BA) (i:Nat) (r:BA):Prop:= ∃pre:BA,pre.size=i∧t=pre++r
theorem k3k (l:List UInt8):(bs l).size=l.length:=by
 show l.toArray.size=_
 simp
theorem kbw (a b:BA) (k:Nat):bt (a++b) ((a.size+k:Nat):Int)=bt b (k:Nat):=by
 unfold bt
 have e1:((a.size+k:Nat):Int).toNat=a.size+k:=by omega
 have e2:((k:Nat):Int).toNat=k:=by omega
 rw[e1,e2,ByteArray.data_append,Array.getElem?_append_right (by simp)]
 have:a.size+k -a.data.size=k:=by simp
 rw[this]
theorem k1r (a b:BA) (k:Nat) (h:k<a.size):bt (a++b) (k:Nat)=bt a (k:Nat):=by
 unfold bt
 have e2:((k:Nat):Int).toNat=k:=by omega
 rw[e2,ByteArray.data_append,Array.getElem?_append_left (by simpa using h)]
theorem Sfx.size {t r:BA} {i:Nat} (h:Sfx t i r):t.size=i+r.size:=by
 obtain⟨pre,rfl,rfl⟩:=h;rw[ByteArray.size_append]
theorem Sfx.bt {t r:BA} {i:Nat} (h:Sfx t i r) (k:Nat):bt t ((i+k:Nat):Int)=bt r (k:Nat):=by
 obtain⟨pre,rfl,rfl⟩:=h;exact kbw _ _ _
theorem Sfx.bt0 {t r:BA} {i:Nat} (h:Sfx t i r):Go.Vx.bt t (i:Nat)=Go.Vx.bt r (0:Nat):=h.bt 0
theorem Sfx.next {t a b:BA} {i:Nat} (h:Sfx t i (a++b)):Sfx t (i+a.size) b:=by
 obtain⟨pre,rfl,rfl⟩:=h
 exact⟨pre++a,by rw[ByteArray.size_append],by rw[ByteArray.append_assoc]⟩
theorem Sfx.extract {t a b:BA} {i:Nat} (h:Sfx t i (a++b)):t.extract i (i+a.size)=a:=by
 obtain⟨pre,rfl,rfl⟩:=h
 apply ByteArray.ext
 simp[ByteArray.data_extract,ByteArray.data_append]
 have h1:pre.data.extract pre.size (pre.size+a.size)= #[]:=by apply Array.eq_empty_of_size_eq_zero;simp
 have h2:a.data.extract 0 a.size=a.data:=by simp
 rw[h1,h2];simp
theorem Sfx.zero (t:BA):Sfx t 0 t:=⟨bs [],rfl,(k4S t).symm⟩
theorem kfN (b:UInt8) (l:List UInt8) (r:BA):bs (b::l)++r=bs [b]++(bs l++r):=by
 apply ByteArray.ext
 simp only[bs,ByteArray.data_append]
 rw[←Array.append_assoc]
 simp
theorem k2r (b:UInt8) (l:List UInt8) (r:BA):Go.Vx.bt (bs (b::l)++r) (0:Nat)=(b.toNat:Int):=by
 rw[k1r _ _ _ (by rw[k3k];simp)];simp[Go.Vx.bt,bs]
mutual
def gapW:List UInt8→Bool
 |[]=>true
 |b::l=>if k2X (b.toNat:Int) then gapW l else if b=35 then gapC l else false
def gapC:List UInt8→Bool
 |[]=>false
 |b::l=>if b=10∨b=13 then gapW l else decide (31<b.toNat∧b.toNat<128)&&gapC l
end
def Stop (r:BA):Prop:=r.size=0∨(Go.Vx.bt r (0:Nat)<128∧k2X (Go.Vx.bt r (0:Nat))=false∧Go.Vx.bt r (0:Nat)≠35)
theorem kgs (t r:BA) (hr:Stop r): ∀(l:List UInt8) (i:Nat),Sfx t i (bs l++r)→
 (gapW l=true→WsRun t i (i+l.length))∧(gapC l=true→ ∃m,CmRun t i m∧WsRun t m (i+l.length)):=by
 intro l
 induction l with
 |nil=>
  intro i h
  refine⟨fun _=>?_,fun h=>by simp[gapC] at h⟩
  rw[k4S] at h
  refine .stop _ ?_
  have hz:=h.size
  have h0:=h.bt0
  rcases hr with hr|hr
  ·left;omega
  ·right;rw[h0];exact hr
 |cons b l ih=>
  intro i h
  have hz:=h.size
  have h0:=h.bt0
  rw[k2r] at h0
  have hl:i<t.size:=by rw[hz,ByteArray.size_append,k3k];simp;omega
  rw[kfN] at h
  have hn:=ih (i+1) h.next
  have el:i+(b::l).length=i+1+l.length:=by simp;omega
  rw[el]
  constructor
  ·intro hg
   simp only[gapW] at hg
   split at hg
   ·rename_i hw
    exact .ws _ _ hl (by rw[h0];exact hw) (hn.1 hg)
   ·split at hg
    ·rename_i hb
     obtain⟨m,h1,h2⟩:=hn.2 hg
     exact .cm _ m _ hl (by rw[h0,hb];rfl) h1 h2
    ·cases hg
  ·intro hg
   simp only[gapC] at hg
   split at hg
   ·rename_i hb
    refine⟨i,.stop _ (.inr ?_),.ws _ _ hl ?_ (hn.1 hg)⟩
    ·rw[h0];rcases hb with rfl|rfl
     ·left;rfl
     ·right;rfl
    ·rw[h0];rcases hb with rfl|rfl<;>rfl
   ·rw[Bool.and_eq_true,decide_eq_true_eq] at hg
    obtain⟨m,h1,h2⟩:=hn.2 hg.2
    exact⟨m,.step _ _ hl (by rw[h0];omega) (by rw[h0];omega) h1,h2⟩
theorem kc6 {t r gap:BA} {i:Nat} (hr:Stop r) (hg:gap∈gapL) (h:Sfx t i (gap++r)):WsRun t i (i+gap.size):=by
 have: ∃l:List UInt8,gap=bs l∧gapW l=true:=by
  simp only[gapL,List.mem_cons,List.not_mem_nil,or_false] at hg
  rcases hg with rfl|rfl|rfl|rfl|rfl|rfl|rfl|rfl|rfl|rfl|rfl<;>exact⟨_,rfl,by decide⟩
 obtain⟨l,rfl,hl⟩:=this
 have:=(kgs t r hr l i h).1 hl
 rw[k3k];exact this
theorem k4r {cap i:Nat} (h:i<cap):slcO 0 cap ((i:Nat):Int).toNat 1=i:=by
 unfold slcO
 rw[if_neg (by omega)];omega
theorem SrcAt.str {E:Src} {H:Heap} (h:SrcAt E H) {i n:Nat} (hn:i+n≤E.text.size) {K:BA→Prop} (hk:K (E.text.extract i (i+n))):k8w H ⟨E.body,i,none⟩ n K:=by
 obtain⟨c,fr,h2,h3,h4⟩:=h.body
 refine⟨(E.text.extract i (i+n)).data.toList,?_,fun j hj=>?_,?_⟩
 ·simp[ByteArray.data_extract];omega
 ·have hj':j<n:=by simp[ByteArray.data_extract] at hj;omega
  have:=h4 (i+j) (by omega)
  rw[k3A]
  simp only[k1a,h2,Option.isSome_none,if_false,Bool.false_eq_true]
  rw[this]
  have hi:i+j<E.text.data.size:=by simp;omega
  have e:(((i+j:Nat):Int)).toNat=i+j:=by omega
  simp only[Go.Vx.bt]
  rw[e,Array.getElem?_eq_getElem hi]
  simp[ByteArray.data_extract]
 ·have:(⟨(E.text.extract i (i+n)).data.toList.toArray⟩:BA)=E.text.extract i (i+n):=by
   apply ByteArray.ext
   exact Array.toArray_toList
  rw[this];exact hk
def k1Y (c:Int):Bool:=decide (c=95∨(48≤c∧c≤57)∨(65≤c∧c≤90)∨(97≤c∧c≤122))
def kb1 (r:BA):Prop:=r.size=0∨(Go.Vx.bt r (0:Nat)<128∧k1Y (Go.Vx.bt r (0:Nat))=false)
theorem kcX {s:BA} {j:Nat} (h:k2M s j=true):k1Y (Go.Vx.bt s j)=true∧Go.Vx.bt s j<128:=by
 simp only[k2M,k3I,k1j,Bool.or_eq_true,Bool.and_eq_true,decide_eq_true_eq,beq_iff_eq] at h
 simp only[k1Y,decide_eq_true_eq]
 omega
theorem kjo {E:Src} {H:Heap} (h:SrcAt E H) (i:Nat) (s rest:BA) (hsf:Sfx E.text i (s++rest)) (hn:k19 s) (hd:kb1 rest):
 Fn PP fq228 #[.pointer (some ⟨E.src,0,none⟩),.int .i64 i,.int .i64 i] H fun v H'=>v= .agg #[.int .i64 15,.int .i64 i,.int .i64 ((i+s.size:Nat):Int),.string s]∧Ext [] H H':=by
 have hsm:=h.small
 have hz:=hsf.size
 rw[ByteArray.size_append] at hz
 have hs0:=hn.1
 refine readName.enter _ _ _ H _ ?_
 unfold readName.W
 refine nbI fun H1 e1 hb1 x1 s1=>?_
 have h1:=h.ext x1
 obtain⟨nm,fr,hsrc⟩:=h1.src
 refine⟨(E.body,0,E.text.size,E.cap),lcO hsrc rfl,?_⟩
 dsimp only
 rw[k0h (k:=i) (by omega)]
 refine⟨fun z H'=>H1=H'∧ ∃k:Nat,z.1=k∧z.2.1=k∧i+1≤k∧k≤i+s.size,fun z _=>E.text.size+1 -z.1.toNat,⟨rfl,i+1,rfl,rfl,by omega,by omega⟩,?_⟩
 rintro⟨_,_,_⟩ _ ⟨rfl,k,hk,hk2,hik,hks⟩
 dsimp only at hk hk2⊢
 subst hk;subst hk2
 -- the byte here
 have hbyte:(k<i+s.size→k<E.text.size∧k1Y (bt E.text k)=true∧bt E.text k<128)∧(k=i+s.size→k<E.text.size→k1Y (bt E.text k)=false∧bt E.text k<128):=by
  constructor
  ·intro hlt
   have e:i+(k -i)=k:=by omega
   have hb:=hsf.bt (k -i)
   rw[e,k1r _ _ _ (by omega)] at hb
   have:=kcX (hn.2 (k -i) (by omega))
   rw[hb]
   exact⟨by omega,this⟩
  ·intro he hlt
   have hb:=hsf.next.bt0
   rw[←he] at hb
   rw[hb]
   rcases hd with hd|hd
   ·omega
   ·exact⟨hd.2,hd.1⟩
 have hasc:Asc E.text k:=by
  intro hlt
  rcases Nat.lt_or_ge k (i+s.size) with h9|h9
  ·exact(hbyte.1 h9).2.2
  ·exact(hbyte.2 (by omega) hlt).2
 refine(k3d h1 k hasc).mono ?_
 rintro _ _ ⟨rfl,rfl⟩
 refine⟨_,rfl,?_⟩
 dsimp only
 refine⟨(decide (k<i+s.size),()),?_,?_⟩
 ·rcases Nat.lt_or_ge k (i+s.size) with h9|h9
  ·obtain⟨hl,hb,hb2⟩:=hbyte.1 h9
   have er:k0s E.text k=(bt E.text k,1):=by simp[k0s,hl]
   have hdec:decide (k<i+s.size)=true:=by simp;omega
   rw[er,hdec]
   dsimp only
   simp only[k1Y,decide_eq_true_eq] at hb
   generalize bt E.text k=c at hb hb2
   repeat' refine fkI (fun _=>?_) (fun _=>?_)
   all_goals
    refine⟨?_,rfl⟩
    first
    |rfl
    |(exfalso;simp only[decide_eq_true_eq,decide_eq_false_iff_not,beq_eq_false_iff_ne,bne_iff_ne,bne_eq_false_iff_eq] at*;omega)
    |(rw[Prod.mk.injEq];refine⟨?_,rfl⟩;rw[decide_eq_true_eq];simp only[decide_eq_true_eq,decide_eq_false_iff_not,beq_eq_false_iff_ne,bne_iff_ne] at*;omega)
  ·have he:k=i+s.size:=by omega
   have hdec:decide (k<i+s.size)=false:=by simp;omega
   rw[hdec]
   by_cases hl:k<E.text.size
   ·obtain⟨hb,hb2⟩:=hbyte.2 he hl
    have er:k0s E.text k=(bt E.text k,1):=by simp[k0s,hl]
    rw[er]
    dsimp only
    simp only[k1Y,decide_eq_false_iff_not] at hb
    generalize bt E.text k=c at hb hb2
    repeat' refine fkI (fun _=>?_) (fun _=>?_)
    all_goals
     refine⟨?_,rfl⟩
     first
     |rfl
     |(exfalso;simp only[decide_eq_true_eq,decide_eq_false_iff_not,beq_iff_eq,beq_eq_false_iff_ne,bne_iff_ne] at*;omega)
     |(rw[Prod.mk.injEq];refine⟨?_,rfl⟩;rw[decide_eq_false_iff_not];simp only[decide_eq_true_eq,decide_eq_false_iff_not,beq_eq_false_iff_ne,bne_iff_ne] at*;omega)
   ·refine fkI (fun h8=>?_) (fun _=>⟨rfl,rfl⟩)
    exfalso;simp at h8;omega
 ·refine fkI (fun h9=>?_) (fun h9=>?_)
  ·simp only[decide_eq_true_eq] at h9
   rw[k0h (k:=k) (by omega)]
   exact⟨⟨rfl,k+1,rfl,rfl,by omega,by omega⟩,by omega⟩
  ·simp only[decide_eq_false_iff_not] at h9
   have he:k=i+s.size:=by omega
   subst he
   have hle:=h.le
   rw[k4r (by omega)]
   have en:((i+s.size:Nat):Int).toNat -((i:Nat):Int).toNat=s.size:=by omega
   rw[en]
   refine⟨⟨⟨by omega,by omega⟩,by omega,by omega⟩,h1.str (by omega) ?_⟩
   rw[hsf.extract]
   refine(k4k _ _ _ _ _).mono ?_
   rintro _ H2 ⟨rfl,x2⟩
   refine⟨(15,(i:Int),((i+s.size:Nat):Int),s),rfl,?_⟩
   dsimp only
   have hb2:=x2.get _ _ hb1 (by simp)
   refine swI hb2 (by simp) rfl rfl fun H3 e3 hb3 x3 s3=>?_
   have hb4:H3[H.size]?=some (.cells #[.int .i64 15,.int .i64 i,.int .i64 ((i+s.size:Nat):Int),.string s] tq85 (0,0)):=hb3
   rw[lcO hb4 rfl]
   refine rkI ⟨rfl,?_⟩
   subst e3
   exact(x1.trans x2).setNew (Nat.le_refl _) _
structure PEnv extends Src where
 p:Nat
 prev:Nat
 srcb:Nat
abbrev KV:=Int×BA
def Lx (E:Src) (at_:Nat) (t:KV) (st en:Nat):Prop:=
 at_≤st∧en≤E.text.size∧0<en∧(t.1=14→en=st+1)∧ ∀H,SrcAt E H→Fn PP fq197 #[.pointer (some ⟨E.src,0,none⟩),.int .i64 at_] H fun r H'=>
  r= .tuple #[.agg #[.int .i64 t.1,.int .i64 st,.int .i64 en,.string t.2],nI]∧Ext [] H H'
def Rest (E:Src):List KV→Nat→Prop
 |[],en=>en=E.text.size
 |t::r,en=> ∃st' en',Lx E en t st' en'∧Rest E r en'
def PEnv.lexV (E:PEnv):Value:= .func (.func fq196) #[] #[.pointer (some ⟨E.prev,0,none⟩),.pointer (some ⟨E.srcb,0,none⟩)]
def PEnv.obj (E:PEnv) (pe:Int) (t:KV) (st en:Nat):Obj:=
 .cells #[E.lexV,.pointer (some ⟨E.src,0,none⟩),.bool false,.bool false,.int .i64 pe,.int .i64 t.1,.int .i64 st,.int .i64 en,.string t.2] tq92
structure LS (E:PEnv) (H:Heap):Prop where
 prev: ∃n:Int,H[E.prev]?=some (.cells #[.int .i64 n] tq3)
 srcb:H[E.srcb]?=some (.cells #[.pointer (some ⟨E.src,0,none⟩)] tq88)
 src:SrcAt E.toSrc H
 lo:E.body<E.p∧E.body<E.prev
structure PS (E:PEnv) (H:Heap) (l:List KV):Prop where
 ls:LS E H
 p: ∃(pe:Int) (t:KV) (st en:Nat) (r:List KV),l=t::r∧H[E.p]?=some (E.obj pe t st en)∧0<en∧(t.1=14→en=st+1)∧Rest E.toSrc r en
def PEnv.S (E:PEnv):List Nat:=[E.p,E.prev]
theorem k3D {H:Heap} {a b:Nat} {c d:Array Value} {e f:TypeId} {x y:Nat×Nat} (ha:H[a]?=some (.cells c e x)) (hb:H[b]?=some (.cells d f y)) (h:e≠f):a≠b:=by
 rintro rfl;rw[ha] at hb;cases hb;exact h rfl
theorem SrcAt.keep {E:Src} {H H':Heap} (h:SrcAt E H) (hk: ∀(k:Nat) (c:Array Value) (e:TypeId) (fr:Nat×Nat),H[k]?=some (.cells c e fr)→(e=tq145∨e=tq5)→H'[k]?=some (.cells c e fr)) (hk2: ∀(k:Nat) (o:Obj),k<E.body→H[k]?=some o→H'[k]?=some o):SrcAt E H':=by
 obtain⟨⟨nm,fr,h1⟩,⟨c,fr2,h2,h3⟩,h4,h5,h6⟩:=h
 exact⟨⟨nm,fr,hk _ _ _ _ h1 (.inl rfl)⟩,⟨c,fr2,hk _ _ _ _ h2 (.inr rfl),h3⟩,h4,h5,h6.keep (Nat.le_refl _) hk2⟩
theorem LS.keep {E:PEnv} {H H':Heap} (h:LS E H) (he:Ext [E.p] H H') (hp: ∃c fr,H[E.p]?=some (.cells c tq92 fr)):LS E H':=by
 obtain⟨c,fr,hp⟩:=hp
 have key: ∀(k:Nat) (d:Array Value) (e:TypeId) (fr:Nat×Nat),H[k]?=some (.cells d e fr)→e≠tq92→H'[k]?=some (.cells d e fr):=by
  intro k d e f hk hne
  refine he.get _ _ hk ?_
  simp only[List.mem_singleton]
  exact k3D hk hp hne
 obtain⟨n,hn⟩:=h.prev
 refine⟨⟨n,key _ _ _ _ hn (by decide)⟩,key _ _ _ _ h.srcb (by decide),h.src.keep (fun k c e fr hk ho=>key _ _ _ _ hk ?_) (fun k o hk ho=>he.get _ _ ho (by have:=h.lo;simp;omega)),h.lo⟩
 rcases ho with rfl|rfl<;>decide
theorem PS.lt {E:PEnv} {H:Heap} {l:List KV} (h:PS E H l):E.p<H.size∧E.prev<H.size:=by
 obtain⟨pe,t,st,en,r,_,hp,_⟩:=h.p
 obtain⟨n,hn⟩:=h.ls.prev
 exact⟨k0l hp,k0l hn⟩
theorem PS.grow {E:PEnv} {H H':Heap} {l:List KV} (h:PS E H l) (he:Ext [] H H'):PS E H' l:=by
 obtain⟨pe,t,st,en,r,h1,hp,h2⟩:=h.p
 exact⟨h.ls.keep he.of_nil ⟨_,_,hp⟩,pe,t,st,en,r,h1,he.get _ _ hp (by simp),h2⟩
def Born (A H:Heap) (F:Heap→Prop):Prop:= ∀G:Heap,(∀(k:Nat) (o:Obj),A.size≤k→H[k]?=some o→G[k]?=some o)→F G
structure Cx (E:PEnv) (A H:Heap) (l:List KV) (F:Heap→Prop):Prop where
 ps:PS E H l
 ext:Ext E.S A H
 pa:E.p<A.size∧E.prev<A.size
 born:Born A H F
theorem Cx.start {E:PEnv} {H:Heap} {l:List KV} (h:PS E H l):Cx E H H l fun _=>True:=⟨h,Ext.refl _ _,h.lt,fun _ _=>trivial⟩
theorem Cx.trans {E:PEnv} {A H H':Heap} {l l':List KV} {F F':Heap→Prop} (h:Cx E A H l F) (k:Cx E H H' l' F'):Cx E A H' l' fun G=>F G∧F' G:=by
 have hne: ∀b,A.size≤b→b∉E.S:=by
  intro b hb
  have:=h.pa
  simp only[PEnv.S,List.mem_cons,List.not_mem_nil,or_false,not_or]
  omega
 refine⟨k.ps,h.ext.trans k.ext,h.pa,fun G hG=>⟨h.born G fun b o hb ho=>hG b o hb (k.ext.get _ _ ho (hne b hb)),k.born G fun b o hb ho=>hG b o ?_ ho⟩⟩
 have:=h.ext.size;omega
theorem Cx.add {E:PEnv} {A H H':Heap} {l:List KV} {F F':Heap→Prop} (h:Cx E A H l F) (he:Ext [] H H') (hb:Born H H' F'):Cx E A H' l fun G=>F G∧F' G:=
 h.trans ⟨h.ps.grow he,he.of_nil,h.ps.lt,hb⟩
theorem Cx.weak {E:PEnv} {A H:Heap} {l:List KV} {F F':Heap→Prop} (h:Cx E A H l F) (hf: ∀G,F G→F' G):Cx E A H l F':=
 ⟨h.ps,h.ext,h.pa,fun G hG=>hf G (h.born G hG)⟩
theorem Cx.nin {E:PEnv} {A H:Heap} {l:List KV} {F:Heap→Prop} (h:Cx E A H l F) {b:Nat} (hb:A.size≤b):b∉E.S:=by
 have:=h.pa
 simp only[PEnv.S,List.mem_cons,List.not_mem_nil,or_false,not_or]
 omega
theorem Cx.self {E:PEnv} {A H:Heap} {l:List KV} {F:Heap→Prop} (h:Cx E A H l F):F H:=h.born H fun _ _ _ ho=>ho
theorem Cx.tok {E:PEnv} {A H:Heap} {l:List KV} {F:Heap→Prop} {a b c d:Value} {K:Nat→Heap→Prop} (h:Cx E A H l F) (h1:oneL [a,b,c,d]=true)
 (hk: ∀H',Ext [] H H'→H'[H.size]?=some (.cells #[a,b,c,d] tq85)→Cx E A H' l F→K H.size H'):
 newB H (.cells #[(.int .i64 0),(.int .i64 0),(.int .i64 0),sE] tq85) fun b3 H4=>k08 H4 ⟨b3,0,none⟩ [a,b,c,d] fun H5=>K b3 H5:=by
 refine nbI fun H1 e1 hb1 x1 s1=>?_
 refine swI hb1 (by simp) rfl h1 fun H2 e2 hb2 x2 s2=>?_
 have y:Ext [] H H2:=by rw[e2];exact x1.setNew (Nat.le_refl _) _
 exact hk H2 y hb2 ((h.add (F':=fun _=>True) y fun _ _=>trivial).weak fun _ h=>h.1)
def POk (E:PEnv) (f:FuncId) (args:Array Value) (l l':List KV) {α:Type} (val:α→Value) (Q:α→Heap→Prop):Prop:=
 ∀H,PS E H l→Fn PP f args H fun v H'=> ∃x,v=val x∧Cx E H H' l' (Q x)
theorem Cx.call {E:PEnv} {A H:Heap} {l l':List KV} {F:Heap→Prop} {f:FuncId} {args:Array Value} {p:Pat} {Q:p.α→Heap→Prop} {K:p.α→Heap→Prop} (h:Cx E A H l F)
 (hf:POk E f args l l' p.to Q) (hk: ∀x H',Ext E.S H H'→Cx E A H' l' (fun G=>F G∧Q x G)→K x H'):k00 PP f args H p K:=by
 refine(hf H h.ps).mono ?_
 rintro _ H' ⟨x,rfl,hx⟩
 exact⟨x,rfl,hk x H' hx.ext (h.trans hx)⟩
def POk1 (E:PEnv) (f:FuncId) (args:Array Value) (l l':List KV) (v:Value):Prop:= ∀H,PS E H l→Fn PP f args H fun r H'=>r=v∧Cx E H H' l' fun _=>True
theorem Cx.call1 {E:PEnv} {A H:Heap} {l l':List KV} {F:Heap→Prop} {f:FuncId} {args:Array Value} {v:Value} {p:Pat} {K:p.α→Heap→Prop} (h:Cx E A H l F)
 (hf:POk1 E f args l l' v) (x:p.α) (hx:p.to x=v) (hk: ∀H',Ext E.S H H'→Cx E A H' l' F→K x H'):k00 PP f args H p K:=by
 refine(hf H h.ps).mono ?_
 rintro _ H' ⟨rfl,hc⟩
 exact⟨x,hx.symm,hk H' hc.ext ((h.trans hc).weak fun _ h=>h.1)⟩
end Go.Vx
