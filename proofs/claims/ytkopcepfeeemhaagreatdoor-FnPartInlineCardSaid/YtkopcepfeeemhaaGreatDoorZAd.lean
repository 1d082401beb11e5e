/- A part of the proof of what the last text of this claim says: PT, PA1, PA2, PA3, PA4, PA5. Conditions: none. -/
import Derived.Laws.Strings
import Derived.Test.YtkopcepfeeemhaaGreatDoorZAc
namespace Go.Vx
open Go
theorem joinPK_and {H:Heap} {c e:Bool} {rest:Bool×Unit→Prop} (h:rest (c&&e,())):joinPK (Bool×Unit) H (fun J=>forkB c (J (e,()) H) (J (false,()) H)) rest:=
 ⟨(c&&e,()),by cases c<;>exact⟨rfl,rfl⟩,h⟩
theorem joinPK_or {H:Heap} {c e:Bool} {rest:Bool×Unit→Prop} (h:rest (c||e,())):joinPK (Bool×Unit) H (fun J=>forkB c (J (true,()) H) (J (e,()) H)) rest:=
 ⟨(c||e,()),by cases c<;>exact⟨rfl,rfl⟩,h⟩
theorem joinPK_or2 {H:Heap} {c e:Bool} {s1 s:Prop} {rest:Bool×Unit→Prop} (h1:s1) (hs:c=false→s) (h:rest (c||e,())):joinPK (Bool×Unit) H (fun J=>s1∧forkB c (J (true,()) H) (s∧J (e,()) H)) rest:=
 ⟨(c||e,()),⟨h1,by cases c;exact⟨hs rfl,rfl,rfl⟩;exact⟨rfl,rfl⟩⟩,h⟩
theorem wrap_bt (s:ByteArray) (n:Int):IntKind.i64.wrap (bt s n)=bt s n:=by
 have:=bt_range s n;exact i64w (by omega)
theorem wrapN {k:Nat} (h:k<4294967300) (m:Nat) (hm:m<1000):IntKind.i64.wrap ((k:Int)+(m:Int))=((k+m:Nat):Int):=by
 rw[i64w (by omega)];omega
theorem wrap1 {k:Nat} (h:k<4294967300):IntKind.i64.wrap ((k:Int)+1)=((k+1:Nat):Int):=by
 rw[i64w (by omega)];omega
theorem wrapL {k:Nat} (m:Int) (h:k<4294967300:=by omega) (hm:0≤m∧m<1000:=by omega):IntKind.i64.wrap ((k:Int)+m)=((k+m.toNat:Nat):Int):=by
 rw[i64w (by omega)];omega
theorem OwnS.ext {S:List Nat} {H H':Heap} {e size:Nat} {a:Option Addr} {n c:Nat} {xs:List Value} (h:OwnS H e size a n c xs) (he:Ext S H H') (hs: ∀r,rowOf a=some r→r∉S):
 OwnS H' e size a n c xs:=by
 refine⟨h.1,h.2.imp id ?_⟩
 rintro⟨g,cur,rfl,hg,hr⟩
 exact⟨g,cur,rfl,he.get _ _ hg (hs g rfl),hr⟩
theorem Grow.ext {H H':Heap} {row:Option Nat} (h:Grow H H' row):Ext row.toList H H':=
 ⟨h.size,fun k o hk hn=>by rw[h.block k (lt_of_get hk) (fun e=>hn (by rw[←e];simp)),hk]⟩
theorem OwnS.row {H:Heap} {e size:Nat} {a:Option Addr} {n c:Nat} {xs:List Value} (h:OwnS H e size a n c xs) {r:Nat} (hr:rowOf a=some r):
 ∃cur,a=some ⟨r,0,none⟩∧H[r]?=some (.cells cur e (0,0))∧n≤c∧c≤maxLen∧cur.size=c*size∧cur.toList.take (n*size)=xs:=by
 rcases h.2 with⟨rfl,_⟩|⟨g,cur,rfl,hr'⟩
 ·cases hr
 ·cases hr;exact⟨cur,rfl,hr'⟩
theorem OwnS.ne {H:Heap} {e size:Nat} {a:Option Addr} {n c:Nat} {xs:List Value} (h:OwnS H e size a n c xs) {x:Nat} {cs:Array Value} {f:TypeId} {fr:Nat×Nat} (hx:H[x]?=some (.cells cs f fr))
 (hef:e≠f) {r:Nat} (hr:rowOf a=some r):r≠x:=by
 rintro rfl
 obtain⟨cur,_,hg,_⟩:=h.row hr
 rw[hx] at hg;cases hg;exact hef rfl
theorem OwnS.nil (H:Heap) (e size:Nat):OwnS H e size none 0 0 []:=⟨by simp,.inl ⟨rfl,rfl,rfl⟩⟩
theorem OwnS.load {H:Heap} {e size:Nat} {a:Option Addr} {n c:Nat} {xs:List Value} (h:OwnS H e size a n c xs) {k:Nat} {v:Value} (hv:xs[k]?=some v):
 loadC H false 1 ⟨blkOf a,offOf a+k,none⟩=some v∧ ∃r,a=some ⟨r,0,none⟩:=by
 rcases h.2 with⟨rfl,h0,_⟩|⟨g,cur,rfl,hg,_,_,hs,ht⟩
 ·have:=h.1;rw[h0] at this;simp at this;subst this;simp at hv
 ·refine⟨?_,g,rfl⟩
  have hk:k<n*size:=by
   have:=(List.getElem?_eq_some_iff.1 hv).1;rw[h.1] at this;exact this
  simp only[blkOf,offOf,Nat.zero_add]
  simp only[loadC,cellAt,hg]
  rw[←ht,List.getElem?_take] at hv
  simp only[hk,if_true] at hv
  simpa using hv
theorem OwnS.loads {H:Heap} {e size:Nat} {a:Option Addr} {n c:Nat} {xs:List Value} (h:OwnS H e size a n c xs) (hn:0<n) (k m:Nat) (hk:k+m≤n*size):
 loadC H true m ⟨blkOf a,offOf a+k,none⟩=some (.agg ((xs.drop k).take m).toArray)∧ ∃r,a=some ⟨r,0,none⟩:=by
 rcases h.2 with⟨rfl,h0,_⟩|⟨g,cur,rfl,hg,hnc,_,hs,ht⟩
 ·omega
 ·refine⟨?_,g,rfl⟩
  have hle:k+m≤cur.size:=by rw[hs];have:=Nat.mul_le_mul_right size hnc;omega
  simp only[blkOf,offOf,Nat.zero_add]
  simp only[loadC,cellsAt,hg,hle,if_true]
  rw[←ht,List.drop_take,List.take_take,Nat.min_eq_left (by omega)]
theorem NewsS.of_block {H:Heap} {b m size:Nat} {c:Array Value} {e:TypeId} {fr:Nat×Nat} (h:H[b]?=some (.cells c e fr)) (hs:c.size=m*size):NewsS H size (some ⟨b,0,none⟩) m c.toList:=by
 refine⟨by simpa using hs,by simp,?_⟩
 intro ad had j u hj
 cases had
 rw[addr_add]
 simp only[cellAt,h,Nat.zero_add]
 simpa using hj
def isBeginM (c:Int):Bool:=(decide (97≤c)&&decide (c≤122))||(decide (65≤c)&&decide (c≤90))||c==95
def isDigitM (c:Int):Bool:=decide (48≤c)&&decide (c≤57)
theorem isBegin_ok (c:Int) (H:Heap):Fn PP fq47 #[.int .u8 c] H fun v H'=>v= .bool (isBeginM c)∧H=H':=by
 refine isBegin.enter c H _ ?_
 unfold isBegin.W
 repeat' refine fkI (fun _=>?_) (fun _=>?_)
 all_goals
  refine rkI ⟨?_,rfl⟩
  simp_all [isBeginM,retV]
  try omega
theorem isDigit_ok (c:Int) (H:Heap):Fn PP fq48 #[.int .u8 c] H fun v H'=>v= .bool (isDigitM c)∧H=H':=by
 refine isDigit.enter c H _ ?_
 unfold isDigit.W
 repeat' refine fkI (fun _=>?_) (fun _=>?_)
 all_goals
  refine rkI ⟨?_,rfl⟩
  simp_all [isDigitM,retV]
  try omega
def nameC (s:ByteArray) (j:Nat):Bool:=isBeginM (bt s j)||(decide (j≠0)&&isDigitM (bt s j))
def NameP (s:ByteArray):Prop:=0<s.size∧ ∀j,j<s.size→nameC s j=true
theorem IsName_ok (s:ByteArray) (H:Heap) (hs:s.size<4294967296):Fn PP fq49 #[.string s] H fun v H'=> ∃b,v= .bool b∧H=H'∧(b=true→NameP s):=by
 refine IsName.enter s H _ ?_
 unfold IsName.W
 refine⟨fun z H'=>H=H'∧ ∃k:Nat,z.1=k∧k≤s.size∧ ∀j,j<k→nameC s j=true,fun z _=>(s.size -z.1.toNat),⟨rfl,0,rfl,Nat.zero_le _,fun j hj=>by omega⟩,?_⟩
 rintro⟨_,_⟩ H2 ⟨rfl,k,hk,hks,hj⟩
 dsimp only at hk⊢
 subst hk
 have hw:IntKind.i64.wrap ((k:Int)+1)=((k+1:Nat):Int):=by rw[i64w (by omega)];omega
 have next:nameC s k=true→k<s.size→((H=H∧ ∃k':Nat,(IntKind.i64.wrap ((k:Int)+1))=k'∧k'≤s.size∧ ∀j,j<k'→nameC s j=true)∧s.size -(IntKind.i64.wrap ((k:Int)+1)).toNat<s.size -((k:Int)).toNat):=by
  intro hn hlt
  rw[hw]
  refine⟨⟨rfl,k+1,rfl,hlt,fun j hjk=>?_⟩,by omega⟩
  rcases Nat.lt_succ_iff_lt_or_eq.1 hjk with h|rfl
  ·exact hj j h
  ·exact hn
 refine fkI (fun hlt=>?_) (fun hge=>?_)
 ·have hlt':k<s.size:=by simpa using hlt
  refine⟨⟨by omega,by omega⟩,(isBegin_ok _ _).mono ?_⟩
  rintro _ _ ⟨rfl,rfl⟩
  refine⟨_,rfl,?_⟩
  refine fkI (fun hb=>?_) (fun hb=>?_)
  ·refine fkI (fun h0=>rkI ⟨false,rfl,rfl,by simp⟩) (fun h0=>?_)
   refine⟨⟨by omega,by omega⟩,(isDigit_ok _ _).mono ?_⟩
   rintro _ _ ⟨rfl,rfl⟩
   refine⟨_,rfl,?_⟩
   refine fkI (fun h0=>rkI ⟨false,rfl,rfl,by simp⟩) (fun hd=>?_)
   have h0':k≠0:=by simpa using h0
   exact next (by simp[nameC,h0'];right;simpa using hd) hlt'
  ·exact next (by simp[nameC];left;simpa using hb) hlt'
 ·have hge':s.size≤k:=by simpa using hge
  obtain rfl:k=s.size:=by omega
  refine rkI ⟨_,rfl,rfl,fun hb=>⟨?_,hj⟩⟩
  simp only[Bool.not_eq_true',beq_eq_false_iff_ne,ne_eq] at hb
  rcases Nat.eq_zero_or_pos s.size with h0|h0
  ·exfalso;apply hb
   have:s=bs []:=by
    cases s with|mk d=>
    simp only[bs,ByteArray.mk.injEq]
    exact Array.eq_empty_of_size_eq_zero h0
   rw[this]
  ·exact h0
structure LexSt where
 s:ByteArray
 pos:Nat
 oa:Option Addr
 on:Nat
 oc:Nat
 bad:Bool
 uns:Bool
def LexSt.obj (σ:LexSt):Obj:= .cells #[.string σ.s,.int .i64 σ.pos,.slice σ.oa σ.on σ.oc,.bool σ.bad,.bool σ.uns] tq326
def LexAt (H:Heap) (x:Nat) (σ:LexSt):Prop:=H[x]?=some σ.obj
def nextM (s:ByteArray) (i:Nat):Int:=if s.size≤i then 0 else bt s i
theorem lexNext_ok (x i:Nat) (σ:LexSt) (H:Heap) (hx:LexAt H x σ):Fn PP fq220 #[.pointer (some ⟨x,0,none⟩),.int .i64 i] H fun v H'=>v= .int .u8 (nextM σ.s i)∧H=H':=by
 refine lexNext.enter x i H _ ?_
 unfold lexNext.W
 refine⟨_,lcO hx rfl,?_⟩
 refine fkI (fun h=>?_) (fun h=>?_)
 ·have h':σ.s.size≤i:=by simpa using h
  exact rkI ⟨by simp[retV,nextM,h'],rfl⟩
 ·have h': ¬σ.s.size≤i:=by simpa using h
  refine⟨_,lcO hx rfl,⟨by omega,by omega⟩,rkI ⟨by simp[retV,nextM,h'],rfl⟩⟩
def DigitsTo (s:ByteArray) (i j:Nat):Prop:=i≤j∧(∀k,i≤k→k<j→isDigitM (nextM s k)=true)∧isDigitM (nextM s j)=false
theorem lexDigits_ok (x i:Nat) (σ:LexSt) (H:Heap) (hx:LexAt H x σ) (hs:σ.s.size<4294967296) (hi:i≤σ.s.size+2):
 Fn PP fq249 #[.pointer (some ⟨x,0,none⟩),.int .i64 i] H fun v H'=> ∃j:Nat,v= .int .i64 j∧H=H'∧DigitsTo σ.s i j∧(j≤σ.s.size∨j=i):=by
 refine lexDigits.enter x i H _ ?_
 unfold lexDigits.W
 refine⟨fun z H'=>H=H'∧ ∃k:Nat,z.1=k∧i≤k∧(k≤σ.s.size∨k=i)∧ ∀j,i≤j→j<k→isDigitM (nextM σ.s j)=true,fun z _=>(σ.s.size+3 -z.1.toNat),
  ⟨rfl,i,rfl,Nat.le_refl _,.inr rfl,fun j h1 h2=>by omega⟩,?_⟩
 rintro⟨_,_⟩ H2 ⟨rfl,k,hk,hik,hks,hj⟩
 dsimp only at hk⊢
 subst hk
 refine(lexNext_ok x k σ _ hx).mono ?_
 rintro _ _ ⟨rfl,rfl⟩
 refine⟨_,rfl,(isDigit_ok _ _).mono ?_⟩
 rintro _ _ ⟨rfl,rfl⟩
 refine⟨_,rfl,fkI (fun hd=>?_) (fun hd=>rkI ⟨k,rfl,rfl,⟨hik,hj,hd⟩,hks⟩)⟩
 have hlt:k<σ.s.size:=by
  rcases Nat.lt_or_ge k σ.s.size with h|h
  ·exact h
  ·simp[nextM,h,isDigitM] at hd
 have hw:IntKind.i64.wrap ((k:Int)+1)=((k+1:Nat):Int):=by rw[i64w (by omega)];omega
 rw[hw]
 refine⟨⟨rfl,k+1,rfl,by omega,.inl hlt,fun j h1 h2=>?_⟩,by omega⟩
 rcases Nat.lt_succ_iff_lt_or_eq.1 h2 with h|rfl
 ·exact hj j h1 h
 ·exact hd
def isE (c:Int):Bool:=c==101||c==69
def isPM (c:Int):Bool:=c==43||c==45
def Num (s:ByteArray) (i:Nat) (kind:Int) (j:Nat):Prop:=
 ∃a b k1 c,a=(if nextM s i=45 then i+1 else i)∧DigitsTo s a b∧a<b∧ ¬(bt s a=48∧a+1<b)∧
  ((nextM s b=46∧k1=17∧DigitsTo s (b+1) c∧b+1<c)∨(nextM s b≠46∧k1=16∧c=b))∧
  ((isE (nextM s c)=true∧kind=17∧ ∃e,e=(if isPM (nextM s (c+1)) then c+2 else c+1)∧DigitsTo s e j∧e<j)∨(isE (nextM s c)=false∧kind=k1∧j=c))
theorem digits_le {s:ByteArray} {i j:Nat} (h:DigitsTo s i j) (hlt:i<j):j≤s.size:=by
 have:=h.2.1 (j -1) (by omega) (by omega)
 rcases Nat.lt_or_ge (j -1) s.size with h'|h'
 ·omega
 ·simp[nextM,h',isDigitM] at this
theorem next_lt {s:ByteArray} {i:Nat} (h:nextM s i≠0):i<s.size:=by
 rcases Nat.lt_or_ge i s.size with h'|h'
 ·exact h'
 ·simp[nextM,h'] at h
theorem lexNumeral_ok (x i:Nat) (σ:LexSt) (H:Heap) (hx:LexAt H x σ) (hs:σ.s.size<4294967296) (hi:i<σ.s.size):
 Fn PP fq238 #[.pointer (some ⟨x,0,none⟩),.int .i64 i] H fun v H'=> ∃k j:Int,v= .tuple #[.int .i64 k,.int .i64 j]∧H=H'∧
  ((k=0∧j=0)∨ ∃n:Nat,j=n∧(k=16∨k=17)∧Num σ.s i k n∧i<n∧n≤σ.s.size):=by
 refine lexNumeral.enter x i H _ ?_
 unfold lexNumeral.W
 refine(lexNext_ok x i σ _ hx).mono ?_
 rintro _ _ ⟨rfl,rfl⟩
 refine⟨_,rfl,?_⟩
 refine⟨fun y H'=>H=H'∧y.1=(((if nextM σ.s i=45 then i+1 else i):Nat):Int),?_,?_⟩
 ·refine fkI (fun h=>⟨rfl,?_⟩) (fun h=>⟨rfl,?_⟩)
  ·have h':nextM σ.s i=45:=by simpa using h
   simp[h',wrap1 (k:=i) (by omega)]
  ·have h':nextM σ.s i≠45:=by simpa using h
   simp[h']
 rintro⟨y,_⟩ H5 ⟨rfl,hy⟩
 dsimp only at hy⊢
 generalize ha:(if nextM σ.s i=45 then i+1 else i)=a at hy
 subst hy
 have hai:i≤a∧a≤i+1:=by subst ha;split<;>omega
 refine(lexDigits_ok x a σ _ hx hs (by omega)).mono ?_
 rintro _ _ ⟨b,rfl,rfl,hab,hbs⟩
 refine⟨_,rfl,?_⟩
 have hable:=hab.1
 refine⟨((!decide (a<b)||(bt σ.s a==48&&decide (a+1<b))),()),?_,?_⟩
 ·refine fkI (fun h=>?_) (fun h=>?_)
  ·have h':b=a:=by have:(b:Int)=a:=by simpa using h
                   omega
   exact⟨by simp[h'],rfl⟩
  ·have h': ¬b=a:=by have: ¬(b:Int)=a:=by simpa using h
                     omega
   have hlt:a<b:=by omega
   have hb:=digits_le hab hlt
   refine⟨_,lcO hx rfl,⟨by omega,by omega⟩,?_⟩
   refine fkI (fun h2=>?_) (fun h2=>?_)
   ·have h2':bt σ.s a=48:=by simpa using h2
    refine⟨?_,rfl⟩
    simp only[Prod.mk.injEq,and_true]
    rw[wrap1 (by omega)]
    simp only[h2',hlt,decide_true,Bool.not_true,Bool.false_or,beq_self_eq_true,Bool.true_and]
    rw[decide_eq_decide];omega
   ·have h2': ¬bt σ.s a=48:=by simpa using h2
    exact⟨by simp[hlt,h2'],rfl⟩
 dsimp only
 refine fkI (fun h=>rkI ⟨0,0,rfl,rfl,.inl ⟨rfl,rfl⟩⟩) (fun h=>?_)
 have hlt:a<b:=by simp at h;exact h.1
 have hz: ¬(bt σ.s a=48∧a+1<b):=by simp at h;intro hh;have:=h.2 hh.1;omega
 have hb:=digits_le hab hlt
 clear h hbs
 refine(lexNext_ok x b σ _ hx).mono ?_
 rintro _ _ ⟨rfl,rfl⟩
 refine⟨_,rfl,?_⟩
 refine⟨fun y H'=>H=H'∧ ∃c:Nat,y.2.1=c∧b≤c∧c≤σ.s.size∧((nextM σ.s b=46∧y.1=17∧DigitsTo σ.s (b+1) c∧b+1<c)∨(nextM σ.s b≠46∧y.1=16∧c=b)),?_,?_⟩
 ·refine fkI (fun h=>?_) (fun h=>?_)
  ·have h':nextM σ.s b=46:=by simpa using h
   have hbl:=next_lt (s:=σ.s) (i:=b) (by omega)
   rw[wrap1 (by omega)]
   refine(lexDigits_ok x (b+1) σ _ hx hs (by omega)).mono ?_
   rintro _ _ ⟨c,rfl,rfl,hc,hcs⟩
   refine⟨_,rfl,?_⟩
   refine fkI (fun h=>rkI ⟨0,0,rfl,rfl,.inl ⟨rfl,rfl⟩⟩) (fun h2=>?_)
   have h2': ¬c=b+1:=by simp at h2;omega
   have:=hc.1
   have hlt2:b+1<c:=by omega
   exact⟨rfl,c,rfl,by omega,digits_le hc hlt2,.inl ⟨h',rfl,hc,hlt2⟩⟩
  ·have h':nextM σ.s b≠46:=by simpa using h
   exact⟨rfl,b,rfl,by omega,by omega,.inr ⟨h',rfl,rfl⟩⟩
 rintro⟨k1,y2,_⟩ H15 ⟨rfl,c,hc1,hbc,hcs,hc⟩
 dsimp only at hc1 hc⊢
 subst hc1
 refine(lexNext_ok x c σ _ hx).mono ?_
 rintro _ _ ⟨rfl,rfl⟩
 refine⟨_,rfl,?_⟩
 refine⟨(isE (nextM σ.s c),()),?_,?_⟩
 ·refine fkI (fun h=>⟨by simp at h;simp[isE,h],rfl⟩) (fun h=>⟨by simp at h;simp[isE,h],rfl⟩)
 dsimp only
 refine⟨fun y H'=>H=H'∧ ∃j:Nat,y.2.1=j∧(y.1=16∨y.1=17)∧Num σ.s i y.1 j∧i<j∧j≤σ.s.size,?_,?_⟩
 ·refine fkI (fun h=>?_) (fun h=>?_)
  ·have hcl:=next_lt (s:=σ.s) (i:=c) (by intro h0;rw[h0] at h;simp[isE] at h)
   rw[wrap1 (by omega)]
   refine(lexNext_ok x (c+1) σ _ hx).mono ?_
   rintro _ _ ⟨rfl,rfl⟩
   refine⟨_,rfl,?_⟩
   refine⟨(isPM (nextM σ.s (c+1)),()),?_,?_⟩
   ·refine fkI (fun h=>⟨by simp at h;simp[isPM,h],rfl⟩) (fun h=>⟨by simp at h;simp[isPM,h],rfl⟩)
   dsimp only
   refine⟨fun y H'=>H=H'∧y.1=(((if isPM (nextM σ.s (c+1)) then c+2 else c+1):Nat):Int),?_,?_⟩
   ·refine fkI (fun h=>⟨rfl,?_⟩) (fun h=>⟨rfl,?_⟩)
    ·simp only[h,if_true];rw[wrap1 (by omega)]
    ·simp[h]
   rintro⟨y,_⟩ H31 ⟨rfl,hy⟩
   dsimp only at hy⊢
   generalize he:(if isPM (nextM σ.s (c+1)) then c+2 else c+1)=e at hy
   subst hy
   have hel:c<e∧e≤c+2:=by subst he;split<;>omega
   refine(lexDigits_ok x e σ _ hx hs (by omega)).mono ?_
   rintro _ _ ⟨j,rfl,rfl,hj,hjs⟩
   refine⟨_,rfl,?_⟩
   refine fkI (fun h=>rkI ⟨0,0,rfl,rfl,.inl ⟨rfl,rfl⟩⟩) (fun h2=>?_)
   have h2': ¬j=e:=by simp at h2;omega
   have:=hj.1
   have hlt2:e<j:=by omega
   exact⟨rfl,j,rfl,.inr rfl,⟨a,b,k1,c,ha.symm,hab,hlt,hz,hc,.inl ⟨h,rfl,e,he.symm,hj,hlt2⟩⟩,by omega,digits_le hj hlt2⟩
  ·refine⟨rfl,c,rfl,?_,⟨a,b,k1,c,ha.symm,hab,hlt,hz,hc,.inr ⟨h,rfl,rfl⟩⟩,by omega,hcs⟩
   rcases hc with⟨_,h,_⟩|⟨_,h,_⟩
   ·exact .inr h
   ·exact .inl h
 rintro⟨k,y2,_⟩ H24 ⟨rfl,j,hj,hk,hn,h1,h2⟩
 dsimp only at hj hk hn⊢
 subst hj
 exact rkI ⟨k,j,rfl,rfl,.inr ⟨j,rfl,hk,hn,h1,h2⟩⟩
set_option maxRecDepth 10000
def pointGo (s:ByteArray) (i:Nat):Nat→Int→Option Int
 |0,c=>some c
 |n+1,c=>if bt s i<128∨191<bt s i then none else pointGo s (i+1) n (c*64+bt s i -128)
def pointHead (f:Int):Int×Nat×Int:=
 if 194≤f∧f<224 then(f -192,2,128) else if 224≤f∧f<240 then(f -224,3,2048) else if 240≤f∧f<245 then(f -240,4,65536) else(0,0,0)
def pointBad (c least:Int):Bool:=decide (c<least)||decide (1114111<c)||(decide (55296≤c)&&decide (c<57344))
def pointM (s:ByteArray) (a:Nat):Int×Nat:=
 let f:=bt s a
 if f<128 then(f,1) else
  let h:=pointHead f
  if h.2.1=0∨s.size<a+h.2.1 then(0,0) else
   match pointGo s (a+1) (h.2.1 -1) h.1 with
   |none=>(0,0)
   |some c=>if pointBad c h.2.2 then(0,0) else(c,h.2.1)
theorem Point_ok (s:ByteArray) (a:Nat) (H:Heap) (ha:a<s.size) (hs:s.size<4294967296):
 Fn PP fq79 #[.string s,.int .i64 a] H fun v H'=>v= .tuple #[.int .i64 (pointM s a).1,.int .i64 (pointM s a).2]∧H=H':=by
 refine Point.enter s a H _ ?_
 unfold Point.W
 simp only[wrap_bt]
 have hr:=bt_range s a
 generalize hf:bt s (a:Int)=f at hr
 refine⟨by omega,fkI (fun h=>rkI ⟨?_,rfl⟩) (fun h=>?_)⟩
 ·have h':f<128:=by simpa using h
  simp[retV,pointM,hf,h']
 have h0: ¬f<128:=by simpa using h
 refine joinPK_and ?_
 refine⟨fun y H'=>H=H'∧y.1=(pointHead f).1∧y.2.1=(pointHead f).2.1∧y.2.2.1=(pointHead f).2.2,?_,?_⟩
 ·refine fkI (fun h=>?_) (fun h=>?_)
  ·have h1:194≤f∧f<224:=by simpa using h
   refine⟨rfl,?_,?_,?_⟩<;>simp[pointHead,h1]
   exact i64w (by omega)
  have h1: ¬(194≤f∧f<224):=by simpa using h
  refine joinPK_and ?_
  refine⟨fun y H'=>H=H'∧y.1=(pointHead f).1∧y.2.1=(pointHead f).2.1∧y.2.2.1=(pointHead f).2.2,?_,fun _ _ h=>h⟩
  refine fkI (fun h=>?_) (fun h=>?_)
  ·have h2:224≤f∧f<240:=by simpa using h
   refine⟨rfl,?_,?_,?_⟩<;>simp[pointHead,h1,h2]
   exact i64w (by omega)
  have h2: ¬(224≤f∧f<240):=by simpa using h
  refine joinPK_and ?_
  refine⟨fun y H'=>H=H'∧y.1=(pointHead f).1∧y.2.1=(pointHead f).2.1∧y.2.2.1=(pointHead f).2.2,?_,fun _ _ h=>h⟩
  refine fkI (fun h=>?_) (fun h=>?_)
  ·have h3:240≤f∧f<245:=by simpa using h
   refine⟨rfl,?_,?_,?_⟩<;>simp[pointHead,h1,h2,h3]
   exact i64w (by omega)
  ·have h3: ¬(240≤f∧f<245):=by simpa using h
   refine⟨rfl,?_,?_,?_⟩<;>simp[pointHead,h1,h2,h3]
 rintro⟨y1,y2,y3,_⟩ H5 ⟨rfl,hy1,hy2,hy3⟩
 dsimp only at hy1 hy2 hy3⊢
 have hp:pointM s a=if(pointHead f).2.1=0∨s.size<a+(pointHead f).2.1 then(0,0) else
  match pointGo s (a+1) ((pointHead f).2.1 -1) (pointHead f).1 with
  |none=>(0,0)
  |some c=>if pointBad c (pointHead f).2.2 then(0,0) else(c,(pointHead f).2.1):=by
  simp only[pointM,hf,h0,if_false]
 have hb:0≤y1∧y1<32∧(pointHead f).2.1≤4:=by
  rw[hy1];unfold pointHead;split
  ·dsimp only;omega
  split
  ·dsimp only;omega
  split
  ·dsimp only;omega
  ·simp
 generalize pointHead f=p at*
 obtain⟨p1,m,p3⟩:=p
 dsimp only at*
 subst hy1 hy2 hy3
 rw[wrapN (by omega) m (by omega),wrap1 (by omega)]
 refine joinPK_or (fkI (fun h=>rkI ⟨?_,rfl⟩) (fun h=>?_))
 ·have:m=0∨s.size<a+m:=by simp at h;omega
  rw[hp,if_pos this];rfl
 have hm: ¬(m=0∨s.size<a+m):=by simp at h;omega
 rw[if_neg hm] at hp
 refine⟨fun z H'=>H=H'∧z.2.1=m∧ ∃i:Nat,z.2.2.1=i∧ ∃k,a+m=i+k∧i=a+m -k∧k+1≤m∧0≤z.1∧
  (k+1=m∧z.1<32∨k+2=m∧z.1<2048∨k+3=m∧z.1<131072∨k+4=m∧z.1<8388608)∧pointGo s (a+1) (m -1) y1=pointGo s i k z.1,
  fun z _=>a+m -z.2.2.1.toNat,⟨rfl,rfl,a+1,rfl,m -1,by omega,by omega,by omega,by omega,.inl ⟨by omega,by omega⟩,rfl⟩,?_⟩
 rintro⟨c,m',i',_⟩ H19 ⟨rfl,rfl,i,hi,k,hk,hk',hk2,hc0,hcb,hgo⟩
 dsimp only at hi hgo hcb hc0⊢
 subst hi
 rw[wrapN (by omega) m (by omega)]
 have hbi:=bt_range s i
 refine fkI (fun h=>?_) (fun h=>?_)
 ·have h':i<a+m:=by simp at h;omega
  refine joinPK_or2 (by omega) (fun _=>by omega) ?_
  obtain⟨k,rfl⟩: ∃k',k=k'+1:=⟨k -1,by omega⟩
  refine fkI (fun h=>rkI ⟨?_,rfl⟩) (fun h=>?_)
  ·have h2:bt s i<128∨191<bt s i:=by simpa using h
   rw[hp,hgo];simp[pointGo,h2,retV]
  ·have h2: ¬(bt s i<128∨191<bt s i):=by simp at h;omega
   have e6:(2:Int)^(min (6:Int).toNat 64)=64:=by decide
   rw[e6,i64w (n:=c*64) (by omega),i64w (n:=c*64+bt s i) (by omega),i64w (n:=c*64+bt s i -128) (by omega),wrap1 (by omega)]
   refine⟨by omega,⟨rfl,rfl,i+1,rfl,k,by omega,by omega,by omega,by omega,by omega,?_⟩,by simp;omega⟩
   rw[hgo];simp only[pointGo,h2,if_false]
 ·have hk0:k=0:=by simp at h;omega
  subst hk0
  simp only[pointGo] at hgo
  rw[hgo] at hp
  refine⟨(pointBad c y3,()),?_,?_⟩
  ·refine fkI (fun h=>⟨by simp at h;simp[pointBad,h],rfl⟩) (fun h=>?_)
   refine fkI (fun h1=>⟨by simp at h1;simp[pointBad,h1],rfl⟩) (fun h1=>?_)
   refine fkI (fun h2=>⟨?_,rfl⟩) (fun h2=>⟨?_,rfl⟩)<;>simp at h h1 h2<;>simp only[Prod.mk.injEq,and_true]<;>rw[Bool.eq_iff_iff]<;>simp[pointBad]<;>omega
  ·refine fkI (fun h=>rkI ⟨?_,rfl⟩) (fun h=>rkI ⟨?_,rfl⟩)<;>dsimp only at h<;>rw[hp]<;>simp[h,retV]
theorem pointM_le (s:ByteArray) (a:Nat) (ha:a<s.size):(pointM s a).2≤4∧((pointM s a).2=0∨a+(pointM s a).2≤s.size):=by
 unfold pointM
 have hb:(pointHead (bt s a)).2.1≤4:=by unfold pointHead;split;simp;split;simp;split<;>simp
 dsimp only
 split
 ·dsimp only;omega
 ·split
  ·simp
  ·split
   ·simp
   ·split
    ·simp
    ·dsimp only;omega
end Go.Vx
