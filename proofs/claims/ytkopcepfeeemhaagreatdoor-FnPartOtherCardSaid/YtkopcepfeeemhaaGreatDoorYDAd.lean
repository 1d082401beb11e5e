/- A part of the proof of what the last text of this claim says: PT, PA1, PA2, PA3, PA4, PA5, PA6, PA7, PA8. Conditions: none. -/
import Derived.Laws.Strings
import Derived.Test.YtkopcepfeeemhaaGreatDoorYDAc
namespace Go.Vx
open Go
theorem k2w {H:Heap} {c e:Bool} {rest:Bool×Unit→Prop} (h:rest (c&&e,())):k0j (Bool×Unit) H (fun J=>k02 c (J (e,()) H) (J (false,()) H)) rest:=
 ⟨(c&&e,()),by cases c<;>exact⟨rfl,rfl⟩,h⟩
theorem k3r {H:Heap} {c e:Bool} {rest:Bool×Unit→Prop} (h:rest (c||e,())):k0j (Bool×Unit) H (fun J=>k02 c (J (true,()) H) (J (e,()) H)) rest:=
 ⟨(c||e,()),by cases c<;>exact⟨rfl,rfl⟩,h⟩
theorem kgR {H:Heap} {c e:Bool} {s1 s:Prop} {rest:Bool×Unit→Prop} (h1:s1) (hs:c=false→s) (h:rest (c||e,())):k0j (Bool×Unit) H (fun J=>s1∧k02 c (J (true,()) H) (s∧J (e,()) H)) rest:=
 ⟨(c||e,()),⟨h1,by cases c;exact⟨hs rfl,rfl,rfl⟩;exact⟨rfl,rfl⟩⟩,h⟩
theorem klm (s:BA) (n:Int):IntKind.i64.wrap (bt s n)=bt s n:=by
 have:=k2s s n;exact i64w (by omega)
theorem k38 {k:Nat} (h:k<4294967300) (m:Nat) (hm:m<1000):IntKind.i64.wrap ((k:Int)+(m:Int))=((k+m:Nat):Int):=by
 rw[i64w (by omega)];omega
theorem k0h {k:Nat} (h:k<4294967300):IntKind.i64.wrap ((k:Int)+1)=((k+1:Nat):Int):=by
 rw[i64w (by omega)];omega
theorem k2S {k:Nat} (m:Int) (h:k<4294967300:=by omega) (hm:0≤m∧m<1000:=by omega):IntKind.i64.wrap ((k:Int)+m)=((k+m.toNat:Nat):Int):=by
 rw[i64w (by omega)];omega
theorem OwnS.ext {S:List Nat} {H H':Heap} {e size:Nat} {a:OA} {n c:Nat} {xs:List Value} (h:OwnS H e size a n c xs) (he:Ext S H H') (hs: ∀r,k0u a=some r→r∉S):
 OwnS H' e size a n c xs:=by
 refine⟨h.1,h.2.imp id ?_⟩
 rintro⟨g,cur,rfl,hg,hr⟩
 exact⟨g,cur,rfl,he.get _ _ hg (hs g rfl),hr⟩
theorem Grow.ext {H H':Heap} {row:Option Nat} (h:Grow H H' row):Ext row.toList H H':=
 ⟨h.size,fun k o hk hn=>by rw[h.block k (k0l hk) (fun e=>hn (by rw[←e];simp)),hk]⟩
theorem OwnS.row {H:Heap} {e size:Nat} {a:OA} {n c:Nat} {xs:List Value} (h:OwnS H e size a n c xs) {r:Nat} (hr:k0u a=some r):
 ∃cur,a=some ⟨r,0,none⟩∧H[r]?=some (.cells cur e (0,0))∧n≤c∧c≤maxLen∧cur.size=c*size∧cur.toList.take (n*size)=xs:=by
 rcases h.2 with⟨rfl,_⟩|⟨g,cur,rfl,hr'⟩
 ·cases hr
 ·cases hr;exact⟨cur,rfl,hr'⟩
theorem OwnS.ne {H:Heap} {e size:Nat} {a:OA} {n c:Nat} {xs:List Value} (h:OwnS H e size a n c xs) {x:Nat} {cs:Array Value} {f:TypeId} {fr:Nat×Nat} (hx:H[x]?=some (.cells cs f fr))
 (hef:e≠f) {r:Nat} (hr:k0u a=some r):r≠x:=by
 rintro rfl
 obtain⟨cur,_,hg,_⟩:=h.row hr
 rw[hx] at hg;cases hg;exact hef rfl
theorem OwnS.nil (H:Heap) (e size:Nat):OwnS H e size none 0 0 []:=⟨by simp,.inl ⟨rfl,rfl,rfl⟩⟩
theorem OwnS.load {H:Heap} {e size:Nat} {a:OA} {n c:Nat} {xs:List Value} (h:OwnS H e size a n c xs) {k:Nat} {v:Value} (hv:xs[k]?=some v):
 k07 H false 1 ⟨k0c a,k0b a+k,none⟩=some v∧ ∃r,a=some ⟨r,0,none⟩:=by
 rcases h.2 with⟨rfl,h0,_⟩|⟨g,cur,rfl,hg,_,_,hs,ht⟩
 ·have:=h.1;rw[h0] at this;simp at this;subst this;simp at hv
 ·refine⟨?_,g,rfl⟩
  have hk:k<n*size:=by
   have:=(List.getElem?_eq_some_iff.1 hv).1;rw[h.1] at this;exact this
  simp only[k0c,k0b,Nat.zero_add]
  simp only[k07,k1a,hg]
  rw[←ht,List.getElem?_take] at hv
  simp only[hk,if_true] at hv
  simpa using hv
theorem OwnS.loads {H:Heap} {e size:Nat} {a:OA} {n c:Nat} {xs:List Value} (h:OwnS H e size a n c xs) (hn:0<n) (k m:Nat) (hk:k+m≤n*size):
 k07 H true m ⟨k0c a,k0b a+k,none⟩=some (.agg ((xs.drop k).take m).toArray)∧ ∃r,a=some ⟨r,0,none⟩:=by
 rcases h.2 with⟨rfl,h0,_⟩|⟨g,cur,rfl,hg,hnc,_,hs,ht⟩
 ·omega
 ·refine⟨?_,g,rfl⟩
  have hle:k+m≤cur.size:=by rw[hs];have:=Nat.mul_le_mul_right size hnc;omega
  simp only[k0c,k0b,Nat.zero_add]
  simp only[k07,k4G,hg,hle,if_true]
  rw[←ht,List.drop_take,List.take_take,Nat.min_eq_left (by omega)]
theorem k2o.of_block {H:Heap} {b m size:Nat} {c:Array Value} {e:TypeId} {fr:Nat×Nat} (h:H[b]?=some (.cells c e fr)) (hs:c.size=m*size):k2o H size (some ⟨b,0,none⟩) m c.toList:=by
 refine⟨by simpa using hs,by simp,?_⟩
 intro ad had j u hj
 cases had
 rw[k3A]
 simp only[k1a,h,Nat.zero_add]
 simpa using hj
def k3I (c:Int):Bool:=(decide (97≤c)&&decide (c≤122))||(decide (65≤c)&&decide (c≤90))||c==95
def k1j (c:Int):Bool:=decide (48≤c)&&decide (c≤57)
theorem k67 (c:Int) (H:Heap):Fn PP fq47 #[.int .u8 c] H fun v H'=>v= .bool (k3I c)∧H=H':=by
 refine isBegin.enter c H _ ?_
 unfold isBegin.W
 repeat' refine fkI (fun _=>?_) (fun _=>?_)
 all_goals
  refine rkI ⟨?_,rfl⟩
  simp_all [k3I,retV]
  try omega
theorem k68 (c:Int) (H:Heap):Fn PP fq48 #[.int .u8 c] H fun v H'=>v= .bool (k1j c)∧H=H':=by
 refine isDigit.enter c H _ ?_
 unfold isDigit.W
 repeat' refine fkI (fun _=>?_) (fun _=>?_)
 all_goals
  refine rkI ⟨?_,rfl⟩
  simp_all [k1j,retV]
  try omega
def k2M (s:BA) (j:Nat):Bool:=k3I (bt s j)||(decide (j≠0)&&k1j (bt s j))
def k19 (s:BA):Prop:=0<s.size∧ ∀j,j<s.size→k2M s j=true
theorem k1w (s:BA) (H:Heap) (hs:s.size<4294967296):Fn PP fq49 #[.string s] H fun v H'=> ∃b,v= .bool b∧H=H'∧(b=true→k19 s):=by
 refine IsName.enter s H _ ?_
 unfold IsName.W
 refine⟨fun z H'=>H=H'∧ ∃k:Nat,z.1=k∧k≤s.size∧ ∀j,j<k→k2M s j=true,fun z _=>(s.size -z.1.toNat),⟨rfl,0,rfl,Nat.zero_le _,fun j hj=>by omega⟩,?_⟩
 rintro⟨_,_⟩ H2 ⟨rfl,k,hk,hks,hj⟩
 dsimp only at hk⊢
 subst hk
 have hw:IntKind.i64.wrap ((k:Int)+1)=((k+1:Nat):Int):=by rw[i64w (by omega)];omega
 have next:k2M s k=true→k<s.size→((H=H∧ ∃k':Nat,(IntKind.i64.wrap ((k:Int)+1))=k'∧k'≤s.size∧ ∀j,j<k'→k2M s j=true)∧s.size -(IntKind.i64.wrap ((k:Int)+1)).toNat<s.size -((k:Int)).toNat):=by
  intro hn hlt
  rw[hw]
  refine⟨⟨rfl,k+1,rfl,hlt,fun j hjk=>?_⟩,by omega⟩
  rcases Nat.lt_succ_iff_lt_or_eq.1 hjk with h|rfl
  ·exact hj j h
  ·exact hn
 refine fkI (fun hlt=>?_) (fun hge=>?_)
 ·have hlt':k<s.size:=by simpa using hlt
  refine⟨⟨by omega,by omega⟩,(k67 _ _).mono ?_⟩
  rintro _ _ ⟨rfl,rfl⟩
  refine⟨_,rfl,?_⟩
  refine fkI (fun hb=>?_) (fun hb=>?_)
  ·refine fkI (fun h0=>rkI ⟨false,rfl,rfl,by simp⟩) (fun h0=>?_)
   refine⟨⟨by omega,by omega⟩,(k68 _ _).mono ?_⟩
   rintro _ _ ⟨rfl,rfl⟩
   refine⟨_,rfl,?_⟩
   refine fkI (fun h0=>rkI ⟨false,rfl,rfl,by simp⟩) (fun hd=>?_)
   have h0':k≠0:=by simpa using h0
   exact next (by simp[k2M,h0'];right;simpa using hd) hlt'
  ·exact next (by simp[k2M];left;simpa using hb) hlt'
 ·have hge':s.size≤k:=by simpa using hge
  obtain rfl:k=s.size:=by omega
  refine rkI ⟨_,rfl,rfl,fun hb=>⟨?_,hj⟩⟩
  simp only[Bool.not_eq_true',beq_eq_false_iff_ne,ne_eq] at hb
  rcases Nat.eq_zero_or_pos s.size with h0|h0
  ·exfalso;apply hb
   have:s=bs []:=by
    cases s with|mk d=>
    simp only[bs,ByteArray.mk.injEq]
    exact Array.eq_empty_of_size_eq_zero h0
   rw[this]
  ·exact h0
structure LexSt where
 s:BA
 pos:Nat
 oa:OA
 on:Nat
 oc:Nat
 bad:Bool
 uns:Bool
def LexSt.obj (σ:LexSt):Obj:= .cells #[.string σ.s,.int .i64 σ.pos,.slice σ.oa σ.on σ.oc,.bool σ.bad,.bool σ.uns] tq326
def k5h (H:Heap) (x:Nat) (σ:LexSt):Prop:=H[x]?=some σ.obj
def k0v (s:BA) (i:Nat):Int:=if s.size≤i then 0 else bt s i
theorem k2Z (x i:Nat) (σ:LexSt) (H:Heap) (hx:k5h H x σ):Fn PP fq220 #[.pointer (some ⟨x,0,none⟩),.int .i64 i] H fun v H'=>v= .int .u8 (k0v σ.s i)∧H=H':=by
 refine k6m.enter x i H _ ?_
 unfold k6m.W
 refine⟨_,lcO hx rfl,?_⟩
 refine fkI (fun h=>?_) (fun h=>?_)
 ·have h':σ.s.size≤i:=by simpa using h
  exact rkI ⟨by simp[retV,k0v,h'],rfl⟩
 ·have h': ¬σ.s.size≤i:=by simpa using h
  refine⟨_,lcO hx rfl,⟨by omega,by omega⟩,rkI ⟨by simp[retV,k0v,h'],rfl⟩⟩
def k3U (s:BA) (i j:Nat):Prop:=i≤j∧(∀k,i≤k→k<j→k1j (k0v s k)=true)∧k1j (k0v s j)=false
theorem k9Z (x i:Nat) (σ:LexSt) (H:Heap) (hx:k5h H x σ) (hs:σ.s.size<4294967296) (hi:i≤σ.s.size+2):
 Fn PP fq249 #[.pointer (some ⟨x,0,none⟩),.int .i64 i] H fun v H'=> ∃j:Nat,v= .int .i64 j∧H=H'∧k3U σ.s i j∧(j≤σ.s.size∨j=i):=by
 refine k6i.enter x i H _ ?_
 unfold k6i.W
 refine⟨fun z H'=>H=H'∧ ∃k:Nat,z.1=k∧i≤k∧(k≤σ.s.size∨k=i)∧ ∀j,i≤j→j<k→k1j (k0v σ.s j)=true,fun z _=>(σ.s.size+3 -z.1.toNat),
  ⟨rfl,i,rfl,Nat.le_refl _,.inr rfl,fun j h1 h2=>by omega⟩,?_⟩
 rintro⟨_,_⟩ H2 ⟨rfl,k,hk,hik,hks,hj⟩
 dsimp only at hk⊢
 subst hk
 refine(k2Z x k σ _ hx).mono ?_
 rintro _ _ ⟨rfl,rfl⟩
 refine⟨_,rfl,(k68 _ _).mono ?_⟩
 rintro _ _ ⟨rfl,rfl⟩
 refine⟨_,rfl,fkI (fun hd=>?_) (fun hd=>rkI ⟨k,rfl,rfl,⟨hik,hj,hd⟩,hks⟩)⟩
 have hlt:k<σ.s.size:=by
  rcases Nat.lt_or_ge k σ.s.size with h|h
  ·exact h
  ·simp[k0v,h,k1j] at hd
 have hw:IntKind.i64.wrap ((k:Int)+1)=((k+1:Nat):Int):=by rw[i64w (by omega)];omega
 rw[hw]
 refine⟨⟨rfl,k+1,rfl,by omega,.inl hlt,fun j h1 h2=>?_⟩,by omega⟩
 rcases Nat.lt_succ_iff_lt_or_eq.1 h2 with h|rfl
 ·exact hj j h1 h
 ·exact hd
def isE (c:Int):Bool:=c==101||c==69
def isPM (c:Int):Bool:=c==43||c==45
def Num (s:BA) (i:Nat) (kind:Int) (j:Nat):Prop:=
 ∃a b k1 c,a=(if k0v s i=45 then i+1 else i)∧k3U s a b∧a<b∧ ¬(bt s a=48∧a+1<b)∧
  ((k0v s b=46∧k1=17∧k3U s (b+1) c∧b+1<c)∨(k0v s b≠46∧k1=16∧c=b))∧
  ((isE (k0v s c)=true∧kind=17∧ ∃e,e=(if isPM (k0v s (c+1)) then c+2 else c+1)∧k3U s e j∧e<j)∨(isE (k0v s c)=false∧kind=k1∧j=c))
theorem k4b {s:BA} {i j:Nat} (h:k3U s i j) (hlt:i<j):j≤s.size:=by
 have:=h.2.1 (j -1) (by omega) (by omega)
 rcases Nat.lt_or_ge (j -1) s.size with h'|h'
 ·omega
 ·simp[k0v,h',k1j] at this
theorem k3N {s:BA} {i:Nat} (h:k0v s i≠0):i<s.size:=by
 rcases Nat.lt_or_ge i s.size with h'|h'
 ·exact h'
 ·simp[k0v,h'] at h
theorem khY (x i:Nat) (σ:LexSt) (H:Heap) (hx:k5h H x σ) (hs:σ.s.size<4294967296) (hi:i<σ.s.size):
 Fn PP fq238 #[.pointer (some ⟨x,0,none⟩),.int .i64 i] H fun v H'=> ∃k j:Int,v= .tuple #[.int .i64 k,.int .i64 j]∧H=H'∧
  ((k=0∧j=0)∨ ∃n:Nat,j=n∧(k=16∨k=17)∧Num σ.s i k n∧i<n∧n≤σ.s.size):=by
 refine k6o.enter x i H _ ?_
 unfold k6o.W
 refine(k2Z x i σ _ hx).mono ?_
 rintro _ _ ⟨rfl,rfl⟩
 refine⟨_,rfl,?_⟩
 refine⟨fun y H'=>H=H'∧y.1=(((if k0v σ.s i=45 then i+1 else i):Nat):Int),?_,?_⟩
 ·refine fkI (fun h=>⟨rfl,?_⟩) (fun h=>⟨rfl,?_⟩)
  ·have h':k0v σ.s i=45:=by simpa using h
   simp[h',k0h (k:=i) (by omega)]
  ·have h':k0v σ.s i≠45:=by simpa using h
   simp[h']
 rintro⟨y,_⟩ H5 ⟨rfl,hy⟩
 dsimp only at hy⊢
 generalize ha:(if k0v σ.s i=45 then i+1 else i)=a at hy
 subst hy
 have hai:i≤a∧a≤i+1:=by subst ha;split<;>omega
 refine(k9Z x a σ _ hx hs (by omega)).mono ?_
 rintro _ _ ⟨b,rfl,rfl,hab,hbs⟩
 refine⟨_,rfl,?_⟩
 have hable:=hab.1
 refine⟨((!decide (a<b)||(bt σ.s a==48&&decide (a+1<b))),()),?_,?_⟩
 ·refine fkI (fun h=>?_) (fun h=>?_)
  ·have h':b=a:=by have:(b:Int)=a:=by simpa using h
                   omega
   exact⟨by simp[h'],rfl⟩
  ·have h': ¬b=a:=by have: ¬(b:Int)=a:=by simpa using h
                     omega
   have hlt:a<b:=by omega
   have hb:=k4b hab hlt
   refine⟨_,lcO hx rfl,⟨by omega,by omega⟩,?_⟩
   refine fkI (fun h2=>?_) (fun h2=>?_)
   ·have h2':bt σ.s a=48:=by simpa using h2
    refine⟨?_,rfl⟩
    simp only[Prod.mk.injEq,and_true]
    rw[k0h (by omega)]
    simp only[h2',hlt,decide_true,Bool.not_true,Bool.false_or,beq_self_eq_true,Bool.true_and]
    rw[decide_eq_decide];omega
   ·have h2': ¬bt σ.s a=48:=by simpa using h2
    exact⟨by simp[hlt,h2'],rfl⟩
 dsimp only
 refine fkI (fun h=>rkI ⟨0,0,rfl,rfl,.inl ⟨rfl,rfl⟩⟩) (fun h=>?_)
 have hlt:a<b:=by simp at h;exact h.1
 have hz: ¬(bt σ.s a=48∧a+1<b):=by simp at h;intro hh;have:=h.2 hh.1;omega
 have hb:=k4b hab hlt
 clear h hbs
 refine(k2Z x b σ _ hx).mono ?_
 rintro _ _ ⟨rfl,rfl⟩
 refine⟨_,rfl,?_⟩
 refine⟨fun y H'=>H=H'∧ ∃c:Nat,y.2.1=c∧b≤c∧c≤σ.s.size∧((k0v σ.s b=46∧y.1=17∧k3U σ.s (b+1) c∧b+1<c)∨(k0v σ.s b≠46∧y.1=16∧c=b)),?_,?_⟩
 ·refine fkI (fun h=>?_) (fun h=>?_)
  ·have h':k0v σ.s b=46:=by simpa using h
   have hbl:=k3N (s:=σ.s) (i:=b) (by omega)
   rw[k0h (by omega)]
   refine(k9Z x (b+1) σ _ hx hs (by omega)).mono ?_
   rintro _ _ ⟨c,rfl,rfl,hc,hcs⟩
   refine⟨_,rfl,?_⟩
   refine fkI (fun h=>rkI ⟨0,0,rfl,rfl,.inl ⟨rfl,rfl⟩⟩) (fun h2=>?_)
   have h2': ¬c=b+1:=by simp at h2;omega
   have:=hc.1
   have hlt2:b+1<c:=by omega
   exact⟨rfl,c,rfl,by omega,k4b hc hlt2,.inl ⟨h',rfl,hc,hlt2⟩⟩
  ·have h':k0v σ.s b≠46:=by simpa using h
   exact⟨rfl,b,rfl,by omega,by omega,.inr ⟨h',rfl,rfl⟩⟩
 rintro⟨k1,y2,_⟩ H15 ⟨rfl,c,hc1,hbc,hcs,hc⟩
 dsimp only at hc1 hc⊢
 subst hc1
 refine(k2Z x c σ _ hx).mono ?_
 rintro _ _ ⟨rfl,rfl⟩
 refine⟨_,rfl,?_⟩
 refine⟨(isE (k0v σ.s c),()),?_,?_⟩
 ·refine fkI (fun h=>⟨by simp at h;simp[isE,h],rfl⟩) (fun h=>⟨by simp at h;simp[isE,h],rfl⟩)
 dsimp only
 refine⟨fun y H'=>H=H'∧ ∃j:Nat,y.2.1=j∧(y.1=16∨y.1=17)∧Num σ.s i y.1 j∧i<j∧j≤σ.s.size,?_,?_⟩
 ·refine fkI (fun h=>?_) (fun h=>?_)
  ·have hcl:=k3N (s:=σ.s) (i:=c) (by intro h0;rw[h0] at h;simp[isE] at h)
   rw[k0h (by omega)]
   refine(k2Z x (c+1) σ _ hx).mono ?_
   rintro _ _ ⟨rfl,rfl⟩
   refine⟨_,rfl,?_⟩
   refine⟨(isPM (k0v σ.s (c+1)),()),?_,?_⟩
   ·refine fkI (fun h=>⟨by simp at h;simp[isPM,h],rfl⟩) (fun h=>⟨by simp at h;simp[isPM,h],rfl⟩)
   dsimp only
   refine⟨fun y H'=>H=H'∧y.1=(((if isPM (k0v σ.s (c+1)) then c+2 else c+1):Nat):Int),?_,?_⟩
   ·refine fkI (fun h=>⟨rfl,?_⟩) (fun h=>⟨rfl,?_⟩)
    ·simp only[h,if_true];rw[k0h (by omega)]
    ·simp[h]
   rintro⟨y,_⟩ H31 ⟨rfl,hy⟩
   dsimp only at hy⊢
   generalize he:(if isPM (k0v σ.s (c+1)) then c+2 else c+1)=e at hy
   subst hy
   have hel:c<e∧e≤c+2:=by subst he;split<;>omega
   refine(k9Z x e σ _ hx hs (by omega)).mono ?_
   rintro _ _ ⟨j,rfl,rfl,hj,hjs⟩
   refine⟨_,rfl,?_⟩
   refine fkI (fun h=>rkI ⟨0,0,rfl,rfl,.inl ⟨rfl,rfl⟩⟩) (fun h2=>?_)
   have h2': ¬j=e:=by simp at h2;omega
   have:=hj.1
   have hlt2:e<j:=by omega
   exact⟨rfl,j,rfl,.inr rfl,⟨a,b,k1,c,ha.symm,hab,hlt,hz,hc,.inl ⟨h,rfl,e,he.symm,hj,hlt2⟩⟩,by omega,k4b hj hlt2⟩
  ·refine⟨rfl,c,rfl,?_,⟨a,b,k1,c,ha.symm,hab,hlt,hz,hc,.inr ⟨h,rfl,rfl⟩⟩,by omega,hcs⟩
   rcases hc with⟨_,h,_⟩|⟨_,h,_⟩
   ·exact .inr h
   ·exact .inl h
 rintro⟨k,y2,_⟩ H24 ⟨rfl,j,hj,hk,hn,h1,h2⟩
 dsimp only at hj hk hn⊢
 subst hj
 exact rkI ⟨k,j,rfl,rfl,.inr ⟨j,rfl,hk,hn,h1,h2⟩⟩
set_option maxRecDepth 10000
def k1U (s:BA) (i:Nat):Nat→Int→Option Int
 |0,c=>some c
 |n+1,c=>if bt s i<128∨191<bt s i then none else k1U s (i+1) n (c*64+bt s i -128)
def k16 (f:Int):Int×Nat×Int:=
 if 194≤f∧f<224 then(f -192,2,128) else if 224≤f∧f<240 then(f -224,3,2048) else if 240≤f∧f<245 then(f -240,4,65536) else(0,0,0)
def k4n (c least:Int):Bool:=decide (c<least)||decide (1114111<c)||(decide (55296≤c)&&decide (c<57344))
def k0A (s:BA) (a:Nat):Int×Nat:=
 let f:=bt s a
 if f<128 then(f,1) else
  let h:=k16 f
  if h.2.1=0∨s.size<a+h.2.1 then(0,0) else
   match k1U s (a+1) (h.2.1 -1) h.1 with
   |none=>(0,0)
   |some c=>if k4n c h.2.2 then(0,0) else(c,h.2.1)
theorem k4A (s:BA) (a:Nat) (H:Heap) (ha:a<s.size) (hs:s.size<4294967296):
 Fn PP fq79 #[.string s,.int .i64 a] H fun v H'=>v= .tuple #[.int .i64 (k0A s a).1,.int .i64 (k0A s a).2]∧H=H':=by
 refine Point.enter s a H _ ?_
 unfold Point.W
 simp only[klm]
 have hr:=k2s s a
 generalize hf:bt s (a:Int)=f at hr
 refine⟨by omega,fkI (fun h=>rkI ⟨?_,rfl⟩) (fun h=>?_)⟩
 ·have h':f<128:=by simpa using h
  simp[retV,k0A,hf,h']
 have h0: ¬f<128:=by simpa using h
 refine k2w ?_
 refine⟨fun y H'=>H=H'∧y.1=(k16 f).1∧y.2.1=(k16 f).2.1∧y.2.2.1=(k16 f).2.2,?_,?_⟩
 ·refine fkI (fun h=>?_) (fun h=>?_)
  ·have h1:194≤f∧f<224:=by simpa using h
   refine⟨rfl,?_,?_,?_⟩<;>simp[k16,h1]
   exact i64w (by omega)
  have h1: ¬(194≤f∧f<224):=by simpa using h
  refine k2w ?_
  refine⟨fun y H'=>H=H'∧y.1=(k16 f).1∧y.2.1=(k16 f).2.1∧y.2.2.1=(k16 f).2.2,?_,fun _ _ h=>h⟩
  refine fkI (fun h=>?_) (fun h=>?_)
  ·have h2:224≤f∧f<240:=by simpa using h
   refine⟨rfl,?_,?_,?_⟩<;>simp[k16,h1,h2]
   exact i64w (by omega)
  have h2: ¬(224≤f∧f<240):=by simpa using h
  refine k2w ?_
  refine⟨fun y H'=>H=H'∧y.1=(k16 f).1∧y.2.1=(k16 f).2.1∧y.2.2.1=(k16 f).2.2,?_,fun _ _ h=>h⟩
  refine fkI (fun h=>?_) (fun h=>?_)
  ·have h3:240≤f∧f<245:=by simpa using h
   refine⟨rfl,?_,?_,?_⟩<;>simp[k16,h1,h2,h3]
   exact i64w (by omega)
  ·have h3: ¬(240≤f∧f<245):=by simpa using h
   refine⟨rfl,?_,?_,?_⟩<;>simp[k16,h1,h2,h3]
 rintro⟨y1,y2,y3,_⟩ H5 ⟨rfl,hy1,hy2,hy3⟩
 dsimp only at hy1 hy2 hy3⊢
 have hp:k0A s a=if(k16 f).2.1=0∨s.size<a+(k16 f).2.1 then(0,0) else
  match k1U s (a+1) ((k16 f).2.1 -1) (k16 f).1 with
  |none=>(0,0)
  |some c=>if k4n c (k16 f).2.2 then(0,0) else(c,(k16 f).2.1):=by
  simp only[k0A,hf,h0,if_false]
 have hb:0≤y1∧y1<32∧(k16 f).2.1≤4:=by
  rw[hy1];unfold k16;split
  ·dsimp only;omega
  split
  ·dsimp only;omega
  split
  ·dsimp only;omega
  ·simp
 generalize k16 f=p at*
 obtain⟨p1,m,p3⟩:=p
 dsimp only at*
 subst hy1 hy2 hy3
 rw[k38 (by omega) m (by omega),k0h (by omega)]
 refine k3r (fkI (fun h=>rkI ⟨?_,rfl⟩) (fun h=>?_))
 ·have:m=0∨s.size<a+m:=by simp at h;omega
  rw[hp,if_pos this];rfl
 have hm: ¬(m=0∨s.size<a+m):=by simp at h;omega
 rw[if_neg hm] at hp
 refine⟨fun z H'=>H=H'∧z.2.1=m∧ ∃i:Nat,z.2.2.1=i∧ ∃k,a+m=i+k∧i=a+m -k∧k+1≤m∧0≤z.1∧
  (k+1=m∧z.1<32∨k+2=m∧z.1<2048∨k+3=m∧z.1<131072∨k+4=m∧z.1<8388608)∧k1U s (a+1) (m -1) y1=k1U s i k z.1,
  fun z _=>a+m -z.2.2.1.toNat,⟨rfl,rfl,a+1,rfl,m -1,by omega,by omega,by omega,by omega,.inl ⟨by omega,by omega⟩,rfl⟩,?_⟩
 rintro⟨c,m',i',_⟩ H19 ⟨rfl,rfl,i,hi,k,hk,hk',hk2,hc0,hcb,hgo⟩
 dsimp only at hi hgo hcb hc0⊢
 subst hi
 rw[k38 (by omega) m (by omega)]
 have hbi:=k2s s i
 refine fkI (fun h=>?_) (fun h=>?_)
 ·have h':i<a+m:=by simp at h;omega
  refine kgR (by omega) (fun _=>by omega) ?_
  obtain⟨k,rfl⟩: ∃k',k=k'+1:=⟨k -1,by omega⟩
  refine fkI (fun h=>rkI ⟨?_,rfl⟩) (fun h=>?_)
  ·have h2:bt s i<128∨191<bt s i:=by simpa using h
   rw[hp,hgo];simp[k1U,h2,retV]
  ·have h2: ¬(bt s i<128∨191<bt s i):=by simp at h;omega
   have e6:(2:Int)^(min (6:Int).toNat 64)=64:=by decide
   rw[e6,i64w (n:=c*64) (by omega),i64w (n:=c*64+bt s i) (by omega),i64w (n:=c*64+bt s i -128) (by omega),k0h (by omega)]
   refine⟨by omega,⟨rfl,rfl,i+1,rfl,k,by omega,by omega,by omega,by omega,by omega,?_⟩,by simp;omega⟩
   rw[hgo];simp only[k1U,h2,if_false]
 ·have hk0:k=0:=by simp at h;omega
  subst hk0
  simp only[k1U] at hgo
  rw[hgo] at hp
  refine⟨(k4n c y3,()),?_,?_⟩
  ·refine fkI (fun h=>⟨by simp at h;simp[k4n,h],rfl⟩) (fun h=>?_)
   refine fkI (fun h1=>⟨by simp at h1;simp[k4n,h1],rfl⟩) (fun h1=>?_)
   refine fkI (fun h2=>⟨?_,rfl⟩) (fun h2=>⟨?_,rfl⟩)<;>simp at h h1 h2<;>simp only[Prod.mk.injEq,and_true]<;>rw[Bool.eq_iff_iff]<;>simp[k4n]<;>omega
  ·refine fkI (fun h=>rkI ⟨?_,rfl⟩) (fun h=>rkI ⟨?_,rfl⟩)<;>dsimp only at h<;>rw[hp]<;>simp[h,retV]
theorem k4Z (s:BA) (a:Nat) (ha:a<s.size):(k0A s a).2≤4∧((k0A s a).2=0∨a+(k0A s a).2≤s.size):=by
 unfold k0A
 have hb:(k16 (bt s a)).2.1≤4:=by unfold k16;split;simp;split;simp;split<;>simp
 dsimp only
 split
 ·dsimp only;omega
 ·split
  ·simp
  ·split
   ·simp
   ·split
    ·simp
    ·dsimp only;omega
structure Tk where
 kind:Int
 value:BA
 start:Nat
 stop:Nat
def Tk.vals (t:Tk):List Value:=[.int .i64 t.kind,.string t.value,.int .i64 t.start,.int .i64 t.stop]
def tkL (ts:List Tk):List Value:=ts.flatMap Tk.vals
def TkOk (s:BA) (t:Tk):Prop:=t.kind=16∨t.kind=17→Num s t.start t.kind t.stop∧t.start<t.stop∧t.stop≤s.size∧t.value=s.extract t.start t.stop
structure LexInv (H0 H:Heap) (x:Nat) (σ:LexSt) (ts:List Tk):Prop where
 ext:Ext [] H0 H
 at_:k5h H x σ
 new:H0.size≤x
 own:OwnS H tq138 4 σ.oa σ.on σ.oc (tkL ts)
 row: ∀r,k0u σ.oa=some r→H0.size≤r
 le:σ.pos≤σ.s.size
 many:σ.on≤σ.pos
 toks: ∀t∈ts,TkOk σ.s t
theorem LexInv.store {H0 H:Heap} {x:Nat} {σ:LexSt} {ts:List Tk} (h:LexInv H0 H x σ ts) (σ':LexSt) (hs:σ'.s=σ.s) (ha:σ'.oa=σ.oa) (hn:σ'.on=σ.on) (hc:σ'.oc=σ.oc)
 (hp:σ.pos≤σ'.pos∧σ'.pos≤σ.s.size):LexInv H0 (H.setIfInBounds x σ'.obj) x σ' ts:=by
 have e:Ext [x] H (H.setIfInBounds x σ'.obj):=Ext.set (by simp) _
 refine⟨h.ext.setNew h.new _,k2b _ _ _ _ h.at_,h.new,?_,by rw[ha];exact h.row,by rw[hs];exact hp.2,by rw[hn];exact Nat.le_trans h.many hp.1,by rw[hs];exact h.toks⟩
 rw[ha,hn,hc]
 refine h.own.ext e fun r hr hm=>?_
 exact h.own.ne h.at_ (by decide) hr (by simpa using hm)
theorem k1e {H:Heap} {x:Nat} {σ:LexSt} (hx:k5h H x σ) (k:Nat) (v:Value) (σ':LexSt) (hv:one v=true) (hk:k<5) (he: .cells (k1I #[.string σ.s,.int .i64 σ.pos,.slice σ.oa σ.on σ.oc,.bool σ.bad,.bool σ.uns] k [v]) tq326=σ'.obj) {K:Heap→Prop}
 (h:K (H.setIfInBounds x σ'.obj)):k08 H ⟨x,k,none⟩ [v] K:=by
 refine swI hx (by simp;omega) rfl (by simp[oneL,hv]) fun H' e _ _ _=>?_
 rw[he] at e
 rw[e];exact h
theorem k6l (H0 H:Heap) (x:Nat) (σ:LexSt) (ts:List Tk) (h:LexInv H0 H x σ ts):
 Fn PP fq224 #[.pointer (some ⟨x,0,none⟩)] H fun v H'=>v= .tuple #[]∧LexInv H0 H' x {σ with bad:=true} ts:=by
 refine k6k.enter x H _ ?_
 unfold k6k.W
 refine k1e h.at_ 3 _ {σ with bad:=true} rfl (by decide) rfl ?_
 exact rkI ⟨rfl,h.store _ rfl rfl rfl rfl ⟨Nat.le_refl _,h.le⟩⟩
theorem k4O (H0 H:Heap) (x:Nat) (σ:LexSt) (ts:List Tk) (h:LexInv H0 H x σ ts) (kind:Int) (to:Nat) (value:BA) (hto:σ.pos<to∧to≤σ.s.size) (hs:σ.s.size<4294967296)
 (htk:TkOk σ.s ⟨kind,value,σ.pos,to⟩):
 Fn PP fq218 #[.pointer (some ⟨x,0,none⟩),.int .i64 kind,.int .i64 to,.string value] H fun v H'=>v= .tuple #[]∧
  ∃a c,LexInv H0 H' x {σ with oa:=a,on:=σ.on+1,oc:=c,pos:=to} (ts++[⟨kind,value,σ.pos,to⟩]):=by
 refine k6f.enter x kind to value H _ ?_
 unfold k6f.W
 refine⟨(σ.oa,σ.on,σ.oc),lcO h.at_ rfl,?_⟩
 refine⟨_,lcO h.at_ rfl,?_⟩
 refine nbI fun H4 e4 hb4 ext4 hs4=>?_
 refine⟨k2L ext4 (lcO h.at_ rfl) (by simp),?_⟩
 have hx4:=ext4.get _ _ h.at_ (by simp)
 have hm:=h.many
 refine .inr ⟨tkL ts,_,h.own.ext ext4 (by simp),k2o.of_block hb4 rfl,by simp[Value.oneCell'],by simp only[maxLen];omega,by dsimp only;omega,?_⟩
 intro a' c' H7 own' grow hnil hrow
 dsimp only
 have hx7:H7[x]?=some σ.obj:=grow.ext.get _ _ hx4 (by
  intro hm
  rw[Option.mem_toList] at hm
  exact(h.own.ext ext4 (by simp)).ne hx4 (by decide) hm rfl)
 refine k1e (σ:=σ) hx7 2 _ {σ with oa:=a',on:=σ.on+1,oc:=c'} rfl (by decide) rfl ?_
 refine k1e (σ:= {σ with oa:=a',on:=σ.on+1,oc:=c'}) (k2b _ _ _ _ hx7) 1 _ {σ with oa:=a',on:=σ.on+1,oc:=c',pos:=to} rfl (by decide) rfl ?_
 refine rkI ⟨rfl,a',c',?_⟩
 have ext7:Ext [] H0 H7:=by
  refine⟨Nat.le_trans (Nat.le_trans h.ext.size ext4.size) grow.size,fun k o hk hn=>?_⟩
  refine grow.ext.get _ _ (ext4.get _ _ (h.ext.get _ _ hk hn) hn) ?_
  intro hm
  rw[Option.mem_toList] at hm
  have:=h.row _ hm
  have:=k0l hk
  omega
 have own2:OwnS H7 tq138 4 a' (σ.on+1) c' (tkL (ts++[⟨kind,value,σ.pos,to⟩])):=by
  have:tkL (ts++[⟨kind,value,σ.pos,to⟩])=tkL ts++[.int .i64 kind,.string value,.int .i64 σ.pos,.int .i64 to]:=by simp[tkL,Tk.vals]
  rw[this];exact own'
 refine⟨(ext7.setNew h.new _).setNew h.new _,k2b _ _ _ _ (k2b _ _ _ _ hx7),h.new,?_,?_,hto.2,by show σ.on+1≤to;omega,?_⟩
 ·have ne: ∀r,k0u a'=some r→r∉ [x]:=fun r hr hm=>own2.ne hx7 (by decide) hr (by simpa using hm)
  exact(own2.ext (Ext.set (by simp) _) ne).ext (Ext.set (by simp) _) ne
 ·intro r hr
  rcases hrow with h1|h1
  ·exact h.row r (by rw[←h1];exact hr)
  ·have:r=H4.size:=by
    have:=hr.symm.trans h1;simpa using this
   have:=h.ext.size
   omega
 ·intro t ht
  rcases List.mem_append.1 ht with ht|ht
  ·exact h.toks t ht
  ·rw[List.mem_singleton] at ht;subst ht;exact htk
def k39 (H0 H:Heap) (x:Nat) (σ:LexSt):Prop:= ∃σ' ts',LexInv H0 H x σ' ts'∧σ'.s=σ.s∧(σ'.bad=true∨σ.pos<σ'.pos)
theorem kaO (c:Int) (H:Heap):Fn PP fq237 #[.int .i64 c] H fun v H'=>v= .tuple #[.bool (c==9||c==10||c==13||decide (32≤c)),.bool (decide (c≤65535))]∧H=H':=by
 refine k6V.enter c H _ ?_
 unfold k6V.W
 refine fkI (fun h=>rkI ⟨by simp[retV,h],rfl⟩) (fun h=>?_)
 refine fkI (fun h1=>rkI ⟨by simp[retV,h,h1],rfl⟩) (fun h1=>?_)
 exact fkI (fun h2=>rkI ⟨by simp[retV,h,h1,h2],rfl⟩) (fun h2=>rkI ⟨by simp[retV,h,h1,h2],rfl⟩)
def hexM (c:Int):Int:=if 48≤c∧c≤57 then c -48 else if 97≤c∧c≤102 then c -87 else if 65≤c∧c≤70 then c -55 else -1
theorem kgx (c:Int) (H:Heap) (hc:0≤c∧c≤255):Fn PP fq250 #[.int .u8 c] H fun v H'=>v= .int .i64 (hexM c)∧H=H':=by
 refine hexadecimal.enter c H _ ?_
 unfold hexadecimal.W
 repeat' refine fkI (fun _=>?_) (fun _=>?_)
 all_goals refine rkI ⟨?_,rfl⟩
 all_goals simp only[decide_eq_true_eq,decide_eq_false_iff_not] at*
 all_goals simp only[retV,Value.int.injEq,true_and]
 all_goals first|rw[u8w (by omega),i64w (n:=c -48) (by omega)]|rw[u8w (by omega),i64w (n:=c -97) (by omega),i64w (by omega)]|rw[u8w (by omega),i64w (n:=c -65) (by omega),i64w (by omega)]|skip
 all_goals unfold hexM
 all_goals first|(rw[if_pos (by omega)]<;>omega)|(rw[if_neg (by omega),if_pos (by omega)]<;>omega)|(rw[if_neg (by omega),if_neg (by omega),if_pos (by omega)]<;>omega)|(rw[if_neg (by omega),if_neg (by omega),if_neg (by omega)])
def k3R (c:Int):Int:=if(c==33)=true then 2 else if(c==36)=true then 3 else if(c==40)=true then 4 else if(c==41)=true then 5 else if(c==58)=true then 7 else if(c==61)=true then 8 else if(c==64)=true then 9 else if(c==91)=true then 10 else if(c==93)=true then 11 else if(c==123)=true then 12 else if(c==124)=true then 13 else if(c==125)=true then 14 else if(c==38)=true then 20 else 0
theorem ke5 (c:Int) (H:Heap):Fn PP fq219 #[.int .u8 c] H fun v H'=>v= .int .i64 (k3R c)∧H=H':=by
 refine sign.enter c H _ ?_
 unfold sign.W
 repeat' refine fkI (fun _=>?_) (fun _=>?_)
 all_goals refine rkI ⟨?_,rfl⟩
 all_goals simp only[retV,k3R, *,Bool.false_eq_true,if_false,if_true]
theorem kkb (c:Int):k3R c=0∨2≤k3R c∧k3R c≤14∨k3R c=20:=by
 unfold k3R;repeat' split
 all_goals omega
def k2D (s:BA) (a:Nat) (t:BA):Bool:=decide (a+t.size≤s.size)&&((s.extract a (a+t.size)).toList==t.toList)
theorem k4s (s t:BA) (a:Nat) (H:Heap) (ha:a≤s.size) (hs:s.size<4294967296) (ht:t.size<1000):
 Fn PP fq80 #[.string s,.int .i64 a,.string t] H fun v H'=>v= .bool (k2D s a t)∧H=H':=by
 refine starts.enter s a t H _ ?_
 unfold starts.W
 rw[k38 (by omega) _ ht]
 refine fkI (fun h=>?_) (fun h=>rkI ⟨?_,rfl⟩)
 ·have h':a+t.size≤s.size:=by simp at h;omega
  refine⟨by omega,rkI ⟨?_,rfl⟩⟩
  have e:((a+t.size:Nat):Int).toNat=a+t.size:=by omega
  rw[e]
  simp[retV,k2D,h']
 ·have h': ¬a+t.size≤s.size:=by simp at h;omega
  simp[retV,k2D,h']
theorem keM (c:Int) (H:Heap):Fn PP fq251 #[.int .i64 c] H fun v H'=>v= .string (Utf8.encode (IntKind.i32.wrap c))∧Ext [] H H':=by
 refine Encoded.enter c H _ ?_
 unfold Encoded.W
 refine nbI fun H4 e4 hb4 ext4 hs4=>?_
 exact⟨_,lcO hb4 rfl,rkI ⟨rfl,ext4⟩⟩
theorem khX (H0 H:Heap) (x:Nat) (σ:LexSt) (ts:List Tk) (h:LexInv H0 H x σ ts) (hs:σ.s.size<4294967296) (hp:σ.pos<σ.s.size):
 Fn PP fq221 #[.pointer (some ⟨x,0,none⟩)] H fun v H'=>v= .tuple #[]∧k39 H0 H' x σ:=by
 refine k6n.enter x H _ ?_
 unfold k6n.W
 refine⟨_,lcO h.at_ rfl,?_⟩
 refine(khY x σ.pos σ H h.at_ hs hp).mono ?_
 rintro _ _ ⟨k,j,rfl,rfl,hkj⟩
 refine⟨(k,j),rfl,fkI (fun h0=>?_) (fun h0=>?_)⟩
 ·refine(k6l H0 H x σ ts h).mono ?_
  rintro _ H' ⟨rfl,h'⟩
  exact⟨(),rfl,rkI ⟨rfl,_,_,h',rfl,.inl rfl⟩⟩
 ·have hk: ¬k=0:=by simpa using h0
  rcases hkj with⟨h1,_⟩|⟨n,rfl,hk16,hnum,hlt,hle⟩
  ·exact absurd h1 hk
  dsimp only
  refine(k2Z x n σ _ h.at_).mono ?_
  rintro _ _ ⟨rfl,rfl⟩
  refine⟨_,rfl,fun y H'=>H=H',?_,?_⟩
  ·refine fkI (fun _=>rfl) (fun _=>?_)
   refine(k67 _ _).mono ?_
   rintro _ _ ⟨rfl,rfl⟩
   exact⟨_,rfl,rfl⟩
  rintro⟨b,_⟩ _ rfl
  refine fkI (fun _=>?_) (fun _=>?_)
  ·refine k1e h.at_ 4 _ {σ with uns:=true} rfl (by decide) rfl ?_
   refine(k6l H0 _ x _ ts (h.store {σ with uns:=true} rfl rfl rfl rfl ⟨Nat.le_refl _,h.le⟩)).mono ?_
   rintro _ H' ⟨rfl,h'⟩
   exact⟨(),rfl,rkI ⟨rfl,_,_,h',rfl,.inl rfl⟩⟩
  ·refine⟨_,lcO h.at_ rfl,?_⟩
   refine⟨_,lcO h.at_ rfl,?_⟩
   refine⟨by omega,?_⟩
   refine(k4O H0 H x σ ts h k n _ ⟨hlt,hle⟩ hs ?_).mono ?_
   ·intro _;exact⟨hnum,hlt,hle,rfl⟩
   ·rintro _ H' ⟨rfl,a,c,h'⟩
    exact⟨(),rfl,rkI ⟨rfl,_,_,h',rfl,.inr hlt⟩⟩
theorem khV (H0 H:Heap) (x:Nat) (σ:LexSt) (ts:List Tk) (h:LexInv H0 H x σ ts) (hs:σ.s.size<4294967296) (hp:σ.pos<σ.s.size) (h35:bt σ.s σ.pos=35):
 Fn PP fq217 #[.pointer (some ⟨x,0,none⟩)] H fun v H'=>v= .tuple #[]∧k39 H0 H' x σ:=by
 refine k6h.enter x H _ ?_
 unfold k6h.W
 refine⟨fun _ H'=> ∃p u,σ.pos≤p∧p≤σ.s.size∧LexInv H0 H' x {σ with pos:=p,uns:=u} ts,
  fun _ H'=>match k07 H' false 1 ⟨x,1,none⟩ with|some (.int _ n)=>σ.s.size -n.toNat|_=>0,⟨σ.pos,σ.uns,Nat.le_refl _,h.le,h⟩,?_⟩
 rintro _ H2 ⟨p,u,hp1,hp2,h2⟩
 have done:p=σ.pos→False∨True:=fun _=> .inr trivial
 refine⟨_,lcO h2.at_ rfl,?_⟩
 refine⟨_,lcO h2.at_ rfl,?_⟩
 have stop:p≠σ.pos→rk [] H2 fun v H'=>v= .tuple #[]∧k39 H0 H' x σ:=fun hne=>
  rkI ⟨rfl,_,_,h2,rfl,.inr (by show σ.pos<p;omega)⟩
 refine fkI (fun hlt=>?_) (fun hge=>stop (fun e=>?_))
 ·have hlt':p<σ.s.size:=by simp at hlt;exact hlt
  refine⟨_,lcO h2.at_ rfl,?_⟩
  refine⟨_,lcO h2.at_ rfl,?_⟩
  refine⟨by dsimp only;omega,fkI (fun h10=>?_) (fun h10=>stop (fun e=>?_))⟩
  ·refine⟨_,lcO h2.at_ rfl,?_⟩
   refine⟨_,lcO h2.at_ rfl,?_⟩
   refine⟨by dsimp only;omega,fkI (fun h13=>?_) (fun h13=>stop (fun e=>?_))⟩
   ·refine⟨_,lcO h2.at_ rfl,?_⟩
    refine⟨_,lcO h2.at_ rfl,?_⟩
    refine(k4A σ.s p H2 hlt' hs).mono ?_
    rintro _ _ ⟨rfl,rfl⟩
    have hpl:=k4Z σ.s p hlt'
    generalize k0A σ.s p=cn at hpl⊢
    obtain⟨c,n⟩:=cn
    dsimp only at hpl
    refine⟨(c,n),rfl,fkI (fun h0=>?_) (fun h0=>?_)⟩
    ·refine k1e h2.at_ 3 _ {σ with pos:=p,uns:=u,bad:=true} rfl (by decide) rfl ?_
     refine k1e (σ:= {σ with pos:=p,uns:=u,bad:=true}) (k2b _ _ _ _ h2.at_) 4 _ {σ with pos:=p,uns:=true,bad:=true} rfl (by decide) rfl ?_
     refine rkI ⟨rfl,_,_,(h2.store {σ with pos:=p,uns:=u,bad:=true} rfl rfl rfl rfl ⟨Nat.le_refl _,h2.le⟩).store {σ with pos:=p,uns:=true,bad:=true} rfl rfl rfl rfl ⟨Nat.le_refl _,h2.le⟩,rfl,.inl rfl⟩
    ·have hn: ¬n=0:=by simp at h0;omega
     refine(kaO c H2).mono ?_
     rintro _ _ ⟨rfl,rfl⟩
     refine⟨(_,_),rfl,_,lcO h2.at_ rfl,?_⟩
     have step: ∀b:Bool,k08 H2 ⟨x,4,none⟩ [.bool b] fun H19=>k01 H19 false 1 ⟨x,1,none⟩ (pInt .i64) fun(x20:Int)=>k08 H19 ⟨x,1,none⟩ [(.int .i64 (IntKind.i64.wrap (x20+(n:Int))))] fun H21=>
      (∃p' u,σ.pos≤p'∧p'≤σ.s.size∧LexInv H0 H21 x {σ with pos:=p',uns:=u} ts)∧(match k07 H21 false 1 ⟨x,1,none⟩ with|some (.int _ n)=>σ.s.size -n.toNat|_=>0)<(match k07 H2 false 1 ⟨x,1,none⟩ with|some (.int _ n)=>σ.s.size -n.toNat|_=>0):=by
      intro b
      refine k1e h2.at_ 4 _ {σ with pos:=p,uns:=b} rfl (by decide) rfl ?_
      refine⟨_,lcO (k2b _ _ _ _ h2.at_) rfl,?_⟩
      refine k1e (k2b _ _ _ _ h2.at_) 1 _ {σ with pos:=p+n,uns:=b} rfl (by decide) ?_ ?_
      ·dsimp only[k1I,LexSt.obj]
       rw[k38 (by omega) n (by omega)];rfl
      ·have h3:=(h2.store {σ with pos:=p,uns:=b} rfl rfl rfl rfl ⟨Nat.le_refl _,h2.le⟩).store {σ with pos:=p+n,uns:=b} rfl rfl rfl rfl ⟨by show p≤p+n;omega,by show p+n≤σ.s.size;omega⟩
       refine⟨⟨p+n,b,by omega,by omega,h3⟩,?_⟩
       rw[lcO h3.at_ rfl,lcO h2.at_ rfl]
       show σ.s.size -((p+n:Nat):Int).toNat<σ.s.size -(p:Int).toNat
       omega
     refine fkI (fun _=>step _) (fun _=>?_)
     refine fkI (fun _=>step _) (fun _=>?_)
     exact fkI (fun _=>step _) (fun _=>step _)
   ·subst e;simp at h13;rw[h35] at h13;simp at h13
  ·subst e;simp at h10;rw[h35] at h10;simp at h10
 ·subst e;simp at hge;omega
theorem LexInv.grow {H0 H H':Heap} {x:Nat} {σ:LexSt} {ts:List Tk} (h:LexInv H0 H x σ ts) (he:Ext [] H H'):LexInv H0 H' x σ ts:=
 ⟨h.ext.trans he,he.get _ _ h.at_ (by simp),h.new,h.own.ext he (by simp),h.row,h.le,h.many,h.toks⟩
theorem LexInv.uns {H0 H:Heap} {x:Nat} {σ:LexSt} {ts:List Tk} (h:LexInv H0 H x σ ts) (u:Bool):LexInv H0 (H.setIfInBounds x {σ with uns:=u}.obj) x {σ with uns:=u} ts:=
 h.store _ rfl rfl rfl rfl ⟨Nat.le_refl _,h.le⟩
theorem kge (c:Int):(Utf8.encode c).size≤4:=by
 have key: ∀(k:Nat) (b:Nat→UInt8),(if k<0x80 then(⟨#[b k]⟩:BA) else if k<0x800 then⟨#[b (0xC0+k/64),b (0x80+k% 64)]⟩
  else if k<0x10000 then⟨#[b (0xE0+k/4096),b (0x80+k/64% 64),b (0x80+k% 64)]⟩
  else⟨#[b (0xF0+k/262144),b (0x80+k/4096% 64),b (0x80+k/64% 64),b (0x80+k% 64)]⟩).size≤4:=by
  intro k b
  split
  ·exact(show(1:Nat)≤4 by decide)
  split
  ·exact(show(2:Nat)≤4 by decide)
  split
  ·exact(show(3:Nat)≤4 by decide)
  ·exact(show(4:Nat)≤4 by decide)
 exact key _ _
theorem kgw (c:Int):hexM c= -1∨(0≤hexM c∧hexM c≤15):=by
 unfold hexM;split;omega;split;omega;split;omega;omega
theorem khW (H0 H:Heap) (x:Nat) (σ:LexSt) (ts:List Tk) (h:LexInv H0 H x σ ts) (i:Nat) (hs:σ.s.size<4294967296) (hi:i<σ.s.size):
 Fn PP fq239 #[.pointer (some ⟨x,0,none⟩),.int .i64 i] H fun v H'=> ∃(t:BA) (n:Nat) (u:Bool),v= .tuple #[.string t,.int .i64 n]∧LexInv H0 H' x {σ with uns:=u} ts∧
  (n=0∨(2≤n∧i+n≤σ.s.size∧t.size≤4)):=by
 refine k6j.enter x i H _ ?_
 unfold k6j.W
 rw[k0h (by omega)]
 refine(k2Z x (i+1) σ H h.at_).mono ?_
 rintro _ _ ⟨rfl,rfl⟩
 refine⟨_,rfl,?_⟩
 have fin0: ∀(H':Heap) (u:Bool),LexInv H0 H' x {σ with uns:=u} ts→rk [sE,.int .i64 0] H' fun v H'=> ∃(t:BA) (n:Nat) (u:Bool),v= .tuple #[.string t,.int .i64 n]∧LexInv H0 H' x {σ with uns:=u} ts∧
  (n=0∨(2≤n∧i+n≤σ.s.size∧t.size≤4)):=fun H' u hu=>rkI ⟨_,0,u,rfl,hu,.inl rfl⟩
 refine⟨fun z H'=>H=H'∧ ∃k:Nat,z.1=k∧k≤8,fun z _=>8 -z.1.toNat,⟨rfl,0,rfl,by omega⟩,?_⟩
 rintro⟨_,_⟩ _ ⟨rfl,k,hk,hk8⟩
 dsimp only at hk⊢
 subst hk
 have e8:(bs [34,92,47,98,102,110,114,116]).size=8:=rfl
 have e8':(bs [34,92,47,8,12,10,13,9]).size=8:=rfl
 rw[e8,e8',k0h (by omega)]
 refine fkI (fun hlt=>?_) (fun hge=>?_)
 ·have hlt':k<8:=by simp at hlt;omega
  refine⟨by omega,fkI (fun he=>?_) (fun he=>?_)⟩
  ·refine⟨by omega,rkI ⟨_,2,σ.uns,rfl,h,.inr ⟨Nat.le_refl _,?_,?_⟩⟩⟩
   ·have hne:k0v σ.s (i+1)≠0:=by
     intro h0
     rw[h0] at he
     have: ∀k:Nat,k<8→(bt (bs [34,92,47,98,102,110,114,116]) (k:Int)==0)=false:=by decide
     rw[this k hlt'] at he;cases he
    have:=k3N hne
    omega
   ·rw[ByteArray.size_extract];omega
  ·exact⟨⟨rfl,k+1,rfl,by omega⟩,by omega⟩
 ·refine fkI (fun hu=>fin0 _ _ h) (fun hu=>?_)
  rw[k2S (k:=i) 2,k2S (k:=i) 6]
  refine⟨fun z H'=>H=H'∧ ∃k:Nat,z.2.1=k∧i+2≤k∧k≤i+6∧(k=i+2∨k≤σ.s.size)∧0≤z.1∧
   (k=i+2∧z.1=0∨k=i+3∧z.1<16∨k=i+4∧z.1<256∨k=i+5∧z.1<4096∨k=i+6∧z.1<65536),fun z _=>i+6 -z.2.1.toNat,
   ⟨rfl,i+2,rfl,by omega,by omega,.inl rfl,by omega,.inl ⟨rfl,rfl⟩⟩,?_⟩
  rintro⟨c,_,_⟩ _ ⟨rfl,k,hk,hk1,hk2,hks,hc0,hcb⟩
  dsimp only at hk hc0 hcb⊢
  subst hk
  refine fkI (fun hlt=>?_) (fun hge=>?_)
  ·have hlt':k<i+6:=by simp at hlt;omega
   refine(k2Z x k σ H h.at_).mono ?_
   rintro _ _ ⟨rfl,rfl⟩
   refine⟨_,rfl,?_⟩
   have hnr:0≤k0v σ.s k∧k0v σ.s k≤255:=by
    unfold k0v;split
    ·omega
    ·exact k2s _ _
   refine(kgx _ _ hnr).mono ?_
   rintro _ _ ⟨rfl,rfl⟩
   refine⟨_,rfl,fkI (fun hneg=>?_) (fun hpos=>?_)⟩
   ·refine⟨_,lcO h.at_ rfl,fkI (fun _=>?_) (fun _=>?_)⟩
    ·refine k1e h.at_ 4 _ {σ with uns:=true} rfl (by decide) rfl ?_
     exact fin0 _ _ (h.uns _)
    ·refine(k2Z x k σ H h.at_).mono ?_
     rintro _ _ ⟨rfl,rfl⟩
     refine⟨_,rfl,?_⟩
     refine k1e h.at_ 4 _ {σ with uns:=k0v σ.s k==123} rfl (by decide) rfl ?_
     exact fin0 _ _ (h.uns _)
   ·have hp:0≤hexM (k0v σ.s k):=by simpa using hpos
    have hr:=kgw (k0v σ.s k)
    have hks':k<σ.s.size:=by
     apply k3N
     intro h0
     rw[h0] at hp
     simp[hexM] at hp
    generalize hexM (k0v σ.s k)=d at hp hr
    rw[i64w (n:=16*c) (by omega),k0h (by omega),i64w (n:=16*c+d) (by omega)]
    exact⟨⟨rfl,k+1,rfl,by omega,by omega,.inr hks',by omega,by omega⟩,by omega⟩
  ·have hk6:k=i+6:=by simp at hge;omega
   refine k2w ?_
   refine fkI (fun _=>?_) (fun _=>?_)
   ·refine k1e h.at_ 4 _ {σ with uns:=true} rfl (by decide) rfl ?_
    exact fin0 _ _ (h.uns _)
   ·refine⟨_,lcO h.at_ rfl,?_⟩
    have last: ∀(H':Heap) (u:Bool),LexInv H0 H' x {σ with uns:=u} ts→k00 PP fq251 #[.int .i64 c] H' pStr fun(x23:BA) H24=>rk [.string x23,.int .i64 6] H24
     fun v H'=> ∃(t:BA) (n:Nat) (u:Bool),v= .tuple #[.string t,.int .i64 n]∧LexInv H0 H' x {σ with uns:=u} ts∧(n=0∨(2≤n∧i+n≤σ.s.size∧t.size≤4)):=by
     intro H' u hu
     refine(keM c H').mono ?_
     rintro _ H2 ⟨rfl,he⟩
     exact⟨_,rfl,rkI ⟨_,6,u,rfl,hu.grow he,.inr ⟨by omega,by omega,kge _⟩⟩⟩
    refine fkI (fun _=>?_) (fun _=>?_)
    ·refine k1e h.at_ 4 _ {σ with uns:=true} rfl (by decide) rfl ?_
     exact last _ _ (h.uns _)
    ·refine k1e h.at_ 4 _ {σ with uns:=c==0} rfl (by decide) rfl ?_
     exact last _ _ (h.uns _)
theorem khZ (H0 H:Heap) (x:Nat) (σ:LexSt) (ts:List Tk) (h:LexInv H0 H x σ ts) (hs:σ.s.size<4294967296) (hp:σ.pos<σ.s.size):
 Fn PP fq223 #[.pointer (some ⟨x,0,none⟩)] H fun v H'=>v= .tuple #[]∧k39 H0 H' x σ:=by
 refine k6p.enter x H _ ?_
 unfold k6p.W
 refine⟨_,lcO h.at_ rfl,?_⟩
 dsimp only
 rw[k0h (by omega)]
 refine⟨fun z H'=> ∃(p:Nat) (u:Bool),z.2.1=p∧σ.pos<p∧p≤σ.s.size∧z.1.size≤4*p∧LexInv H0 H' x {σ with uns:=u} ts,fun z _=>σ.s.size -z.2.1.toNat,
  ⟨σ.pos+1,σ.uns,rfl,by omega,by omega,by simp[bs,ByteArray.size],h⟩,?_⟩
 rintro⟨out,_,_⟩ H2 ⟨p,u,hp',hp1,hp2,ho,h2⟩
 dsimp only at hp' ho⊢
 subst hp'
 have fail: ∀(H':Heap) (u:Bool),LexInv H0 H' x {σ with uns:=u} ts→k00 PP fq224 #[.pointer (some ⟨x,0,none⟩)] H' ⟨Unit,fun _=> .tuple #[]⟩ fun(_:Unit) H12=>
  rk [] H12 fun v H'=>v= .tuple #[]∧k39 H0 H' x σ:=by
  intro H' u hu
  refine(k6l H0 H' x _ ts hu).mono ?_
  rintro _ H' ⟨rfl,h'⟩
  exact⟨(),rfl,rkI ⟨rfl,_,_,h',rfl,.inl rfl⟩⟩
 refine⟨_,lcO h2.at_ rfl,?_⟩
 refine fkI (fun hlt=>?_) (fun _=>fail _ _ h2)
 have hlt':p<σ.s.size:=by simp at hlt;exact hlt
 refine⟨_,lcO h2.at_ rfl,?_⟩
 refine⟨by dsimp only;omega,fkI (fun _=>?_) (fun _=>?_)⟩
 ·rw[k0h (by omega)]
  refine(k4O H0 H2 x _ ts h2 18 (p+1) out ⟨by dsimp only;omega,by dsimp only;omega⟩ hs (by rintro(h|h)<;>simp at h)).mono ?_
  rintro _ H' ⟨rfl,a,c,h'⟩
  exact⟨(),rfl,rkI ⟨rfl,_,_,h',rfl,.inr (by dsimp only;omega)⟩⟩
 refine k3r (fkI (fun _=>fail _ _ h2) (fun _=>fkI (fun _=>?_) (fun _=>?_)))
 ·refine(khW H0 H2 x _ ts h2 p hs hlt').mono ?_
  rintro _ H' ⟨t,n,u',rfl,h',hn⟩
  refine⟨(t,n),rfl,fkI (fun _=>fail _ _ h') (fun h0=>?_)⟩
  have hn0: ¬n=0:=by simp at h0;omega
  have hn':2≤n∧p+n≤σ.s.size∧t.size≤4:=by rcases hn with h|h;exact absurd h hn0;exact h
  dsimp only
  rw[i64w (by omega)]
  refine⟨by omega,⟨p+n,u',by omega,by omega,by omega,?_,h'⟩,by omega⟩
  rw[ByteArray.size_append];omega
 ·refine⟨_,lcO h2.at_ rfl,?_⟩
  refine(k4A σ.s p H2 hlt' hs).mono ?_
  rintro _ _ ⟨rfl,rfl⟩
  have hpl:=k4Z σ.s p hlt'
  generalize k0A σ.s p=cn at hpl⊢
  obtain⟨c,n⟩:=cn
  dsimp only at hpl
  refine⟨(c,n),rfl,(kaO c H2).mono ?_⟩
  rintro _ _ ⟨rfl,rfl⟩
  refine⟨(_,_),rfl,?_⟩
  refine k3r (fkI (fun _=>?_) (fun h0=>?_))
  ·refine⟨_,lcO h2.at_ rfl,?_⟩
   refine fkI (fun _=>?_) (fun _=>?_)
   ·refine k1e h2.at_ 4 _ {σ with uns:=true} rfl (by decide) rfl ?_
    exact fail _ _ (h2.uns _)
   ·refine k1e h2.at_ 4 _ {σ with uns:=((n:Int)==0)} rfl (by decide) rfl ?_
    exact fail _ _ (h2.uns _)
  ·have hn0: ¬n=0:=by simp at h0;omega
   refine⟨_,lcO h2.at_ rfl,?_⟩
   dsimp only
   have step: ∀b:Bool,k08 H2 ⟨x,4,none⟩ [.bool b] fun H32=>k01 H32 false 1 ⟨x,0,none⟩ pStr fun(x33:BA)=>
    (((0:Int)≤(IntKind.i64.wrap ((p:Int)+(n:Int)))∧(IntKind.i64.wrap ((p:Int)+(n:Int)))≤((x33.size:Nat):Int))∧((0:Int)≤(p:Int)∧(p:Int)≤(((IntKind.i64.wrap ((p:Int)+(n:Int))).toNat:Nat):Int)))∧
    (((out.size+(x33.extract (p:Int).toNat (IntKind.i64.wrap ((p:Int)+(n:Int))).toNat).size:Nat):Int)≤9223372036854775807)∧
    ((∃(p':Nat) (u:Bool),(IntKind.i64.wrap ((p:Int)+(n:Int)))=p'∧σ.pos<p'∧p'≤σ.s.size∧(out++(x33.extract (p:Int).toNat (IntKind.i64.wrap ((p:Int)+(n:Int))).toNat)).size≤4*p'∧LexInv H0 H32 x {σ with uns:=u} ts)∧
      σ.s.size -(IntKind.i64.wrap ((p:Int)+(n:Int))).toNat<σ.s.size -(p:Int).toNat):=by
    intro b
    refine k1e h2.at_ 4 _ {σ with uns:=b} rfl (by decide) rfl ?_
    refine⟨_,lcO (k2b _ _ _ _ h2.at_) rfl,?_⟩
    dsimp only
    rw[k38 (by omega) n (by omega)]
    have e1:((p+n:Nat):Int).toNat=p+n:=by omega
    have e2:(p:Int).toNat=p:=by omega
    rw[e1,e2,ByteArray.size_append,ByteArray.size_extract]
    exact⟨by omega,by omega,⟨p+n,b,rfl,by omega,by omega,by omega,h2.uns _⟩,by omega⟩
   exact fkI (fun _=>step _) (fun _=>step _)
end Go.Vx
