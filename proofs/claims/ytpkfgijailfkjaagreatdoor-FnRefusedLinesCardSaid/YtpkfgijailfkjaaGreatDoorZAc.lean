/- A part of the proof of what the last text of this claim says: PT, PA1, PA2, PA3, PA4, PA5, PA6, PA7, PA8, PA9, PA10, PA11, PB1, PB2. Conditions: none. -/
import Derived.Laws.Strings
import Derived.Test.YtpkfgijailfkjaaGreatDoorZAb
namespace Go.Vx
open Go
theorem joinPK_and {H:Heap} {c e:Bool} {rest:Bool×Unit→Prop} (h:rest (c&&e,())):joinPK (Bool×Unit) H (fun J=>forkB c (J (e,()) H) (J (false,()) H)) rest:=
 ⟨(c&&e,()),by cases c<;>exact⟨rfl,rfl⟩,h⟩
theorem joinPK_or {H:Heap} {c e:Bool} {rest:Bool×Unit→Prop} (h:rest (c||e,())):joinPK (Bool×Unit) H (fun J=>forkB c (J (true,()) H) (J (e,()) H)) rest:=
 ⟨(c||e,()),by cases c<;>exact⟨rfl,rfl⟩,h⟩
theorem joinPK_or2 {H:Heap} {c e:Bool} {s1 s:Prop} {rest:Bool×Unit→Prop} (h1:s1) (hs:c=false→s) (h:rest (c||e,())):joinPK (Bool×Unit) H (fun J=>s1∧forkB c (J (true,()) H) (s∧J (e,()) H)) rest:=
 ⟨(c||e,()),⟨h1,by cases c;exact⟨hs rfl,rfl,rfl⟩;exact⟨rfl,rfl⟩⟩,h⟩
theorem wrap_bt (s:ByteArray) (n:Int):IntKind.i64.wrap (bt s n)=bt s n:=by
 have:=bt_range s n;exact i64w (by omega)
theorem wrapN {k:Nat} (h:k<4294967300) (m:Nat) (hm:m<1000):IntKind.i64.wrap ((k:Int)+(m:Int))=((k+m:Nat):Int):=by
 rw[i64w (by omega)];omega
theorem wrap1 {k:Nat} (h:k<4294967300):IntKind.i64.wrap ((k:Int)+1)=((k+1:Nat):Int):=by
 rw[i64w (by omega)];omega
theorem wrapL {k:Nat} (m:Int) (h:k<4294967300:=by omega) (hm:0≤m∧m<1000:=by omega):IntKind.i64.wrap ((k:Int)+m)=((k+m.toNat:Nat):Int):=by
 rw[i64w (by omega)];omega
theorem OwnS.ext {S:List Nat} {H H':Heap} {e size:Nat} {a:Option Addr} {n c:Nat} {xs:List Value} (h:OwnS H e size a n c xs) (he:Ext S H H') (hs: ∀r,rowOf a=some r→r∉S):
 OwnS H' e size a n c xs:=by
 refine⟨h.1,h.2.imp id ?_⟩
 rintro⟨g,cur,rfl,hg,hr⟩
 exact⟨g,cur,rfl,he.get _ _ hg (hs g rfl),hr⟩
theorem Grow.ext {H H':Heap} {row:Option Nat} (h:Grow H H' row):Ext row.toList H H':=
 ⟨h.size,fun k o hk hn=>by rw[h.block k (lt_of_get hk) (fun e=>hn (by rw[←e];simp)),hk]⟩
theorem OwnS.row {H:Heap} {e size:Nat} {a:Option Addr} {n c:Nat} {xs:List Value} (h:OwnS H e size a n c xs) {r:Nat} (hr:rowOf a=some r):
 ∃cur,a=some ⟨r,0,none⟩∧H[r]?=some (.cells cur e (0,0))∧n≤c∧c≤maxLen∧cur.size=c*size∧cur.toList.take (n*size)=xs:=by
 rcases h.2 with⟨rfl,_⟩|⟨g,cur,rfl,hr'⟩
 ·cases hr
 ·cases hr;exact⟨cur,rfl,hr'⟩
theorem OwnS.ne {H:Heap} {e size:Nat} {a:Option Addr} {n c:Nat} {xs:List Value} (h:OwnS H e size a n c xs) {x:Nat} {cs:Array Value} {f:TypeId} {fr:Nat×Nat} (hx:H[x]?=some (.cells cs f fr))
 (hef:e≠f) {r:Nat} (hr:rowOf a=some r):r≠x:=by
 rintro rfl
 obtain⟨cur,_,hg,_⟩:=h.row hr
 rw[hx] at hg;cases hg;exact hef rfl
theorem OwnS.nil (H:Heap) (e size:Nat):OwnS H e size none 0 0 []:=⟨by simp,.inl ⟨rfl,rfl,rfl⟩⟩
theorem OwnS.load {H:Heap} {e size:Nat} {a:Option Addr} {n c:Nat} {xs:List Value} (h:OwnS H e size a n c xs) {k:Nat} {v:Value} (hv:xs[k]?=some v):
 loadC H false 1 ⟨blkOf a,offOf a+k,none⟩=some v∧ ∃r,a=some ⟨r,0,none⟩:=by
 rcases h.2 with⟨rfl,h0,_⟩|⟨g,cur,rfl,hg,_,_,hs,ht⟩
 ·have:=h.1;rw[h0] at this;simp at this;subst this;simp at hv
 ·refine⟨?_,g,rfl⟩
  have hk:k<n*size:=by
   have:=(List.getElem?_eq_some_iff.1 hv).1;rw[h.1] at this;exact this
  simp only[blkOf,offOf,Nat.zero_add]
  simp only[loadC,cellAt,hg]
  rw[←ht,List.getElem?_take] at hv
  simp only[hk,if_true] at hv
  simpa using hv
theorem OwnS.loads {H:Heap} {e size:Nat} {a:Option Addr} {n c:Nat} {xs:List Value} (h:OwnS H e size a n c xs) (hn:0<n) (k m:Nat) (hk:k+m≤n*size):
 loadC H true m ⟨blkOf a,offOf a+k,none⟩=some (.agg ((xs.drop k).take m).toArray)∧ ∃r,a=some ⟨r,0,none⟩:=by
 rcases h.2 with⟨rfl,h0,_⟩|⟨g,cur,rfl,hg,hnc,_,hs,ht⟩
 ·omega
 ·refine⟨?_,g,rfl⟩
  have hle:k+m≤cur.size:=by rw[hs];have:=Nat.mul_le_mul_right size hnc;omega
  simp only[blkOf,offOf,Nat.zero_add]
  simp only[loadC,cellsAt,hg,hle,if_true]
  rw[←ht,List.drop_take,List.take_take,Nat.min_eq_left (by omega)]
theorem NewsS.of_block {H:Heap} {b m size:Nat} {c:Array Value} {e:TypeId} {fr:Nat×Nat} (h:H[b]?=some (.cells c e fr)) (hs:c.size=m*size):NewsS H size (some ⟨b,0,none⟩) m c.toList:=by
 refine⟨by simpa using hs,by simp,?_⟩
 intro ad had j u hj
 cases had
 rw[addr_add]
 simp only[cellAt,h,Nat.zero_add]
 simpa using hj
def isBeginM (c:Int):Bool:=(decide (97≤c)&&decide (c≤122))||(decide (65≤c)&&decide (c≤90))||c==95
def isDigitM (c:Int):Bool:=decide (48≤c)&&decide (c≤57)
theorem isBegin_ok (c:Int) (H:Heap):Fn PP fq45 #[.int .u8 c] H fun v H'=>v= .bool (isBeginM c)∧H=H':=by
 refine isBegin.enter c H _ ?_
 unfold isBegin.W
 repeat' refine fkI (fun _=>?_) (fun _=>?_)
 all_goals
  refine rkI ⟨?_,rfl⟩
  simp_all [isBeginM,retV]
  try omega
theorem isDigit_ok (c:Int) (H:Heap):Fn PP fq47 #[.int .u8 c] H fun v H'=>v= .bool (isDigitM c)∧H=H':=by
 refine isDigit.enter c H _ ?_
 unfold isDigit.W
 repeat' refine fkI (fun _=>?_) (fun _=>?_)
 all_goals
  refine rkI ⟨?_,rfl⟩
  simp_all [isDigitM,retV]
  try omega
def nameC (s:ByteArray) (j:Nat):Bool:=isBeginM (bt s j)||(decide (j≠0)&&isDigitM (bt s j))
def NameP (s:ByteArray):Prop:=0<s.size∧ ∀j,j<s.size→nameC s j=true
structure LexSt where
 s:ByteArray
 pos:Nat
 oa:Option Addr
 on:Nat
 oc:Nat
 bad:Bool
 uns:Bool
def LexSt.obj (σ:LexSt):Obj:= .cells #[.string σ.s,.int .i64 σ.pos,.slice σ.oa σ.on σ.oc,.bool σ.bad,.bool σ.uns] tq75
def LexAt (H:Heap) (x:Nat) (σ:LexSt):Prop:=H[x]?=some σ.obj
def nextM (s:ByteArray) (i:Nat):Int:=if s.size≤i then 0 else bt s i
theorem lexNext_ok (x i:Nat) (σ:LexSt) (H:Heap) (hx:LexAt H x σ):Fn PP fq46 #[.pointer (some ⟨x,0,none⟩),.int .i64 i] H fun v H'=>v= .int .u8 (nextM σ.s i)∧H=H':=by
 refine lexNext.enter x i H _ ?_
 unfold lexNext.W
 refine⟨_,lcO hx rfl,?_⟩
 refine fkI (fun h=>?_) (fun h=>?_)
 ·have h':σ.s.size≤i:=by simpa using h
  exact rkI ⟨by simp[retV,nextM,h'],rfl⟩
 ·have h': ¬σ.s.size≤i:=by simpa using h
  refine⟨_,lcO hx rfl,⟨by omega,by omega⟩,rkI ⟨by simp[retV,nextM,h'],rfl⟩⟩
def DigitsTo (s:ByteArray) (i j:Nat):Prop:=i≤j∧(∀k,i≤k→k<j→isDigitM (nextM s k)=true)∧isDigitM (nextM s j)=false
theorem lexDigits_ok (x i:Nat) (σ:LexSt) (H:Heap) (hx:LexAt H x σ) (hs:σ.s.size<4294967296) (hi:i≤σ.s.size+2):
 Fn PP fq115 #[.pointer (some ⟨x,0,none⟩),.int .i64 i] H fun v H'=> ∃j:Nat,v= .int .i64 j∧H=H'∧DigitsTo σ.s i j∧(j≤σ.s.size∨j=i):=by
 refine lexDigits.enter x i H _ ?_
 unfold lexDigits.W
 refine⟨fun z H'=>H=H'∧ ∃k:Nat,z.1=k∧i≤k∧(k≤σ.s.size∨k=i)∧ ∀j,i≤j→j<k→isDigitM (nextM σ.s j)=true,fun z _=>(σ.s.size+3 -z.1.toNat),
  ⟨rfl,i,rfl,Nat.le_refl _,.inr rfl,fun j h1 h2=>by omega⟩,?_⟩
 rintro⟨_,_⟩ H2 ⟨rfl,k,hk,hik,hks,hj⟩
 dsimp only at hk⊢
 subst hk
 refine(lexNext_ok x k σ _ hx).mono ?_
 rintro _ _ ⟨rfl,rfl⟩
 refine⟨_,rfl,(isDigit_ok _ _).mono ?_⟩
 rintro _ _ ⟨rfl,rfl⟩
 refine⟨_,rfl,fkI (fun hd=>?_) (fun hd=>rkI ⟨k,rfl,rfl,⟨hik,hj,hd⟩,hks⟩)⟩
 have hlt:k<σ.s.size:=by
  rcases Nat.lt_or_ge k σ.s.size with h|h
  ·exact h
  ·simp[nextM,h,isDigitM] at hd
 have hw:IntKind.i64.wrap ((k:Int)+1)=((k+1:Nat):Int):=by rw[i64w (by omega)];omega
 rw[hw]
 refine⟨⟨rfl,k+1,rfl,by omega,.inl hlt,fun j h1 h2=>?_⟩,by omega⟩
 rcases Nat.lt_succ_iff_lt_or_eq.1 h2 with h|rfl
 ·exact hj j h1 h
 ·exact hd
def isE (c:Int):Bool:=c==101||c==69
def isPM (c:Int):Bool:=c==43||c==45
def Num (s:ByteArray) (i:Nat) (kind:Int) (j:Nat):Prop:=
 ∃a b k1 c,a=(if nextM s i=45 then i+1 else i)∧DigitsTo s a b∧a<b∧ ¬(bt s a=48∧a+1<b)∧
  ((nextM s b=46∧k1=17∧DigitsTo s (b+1) c∧b+1<c)∨(nextM s b≠46∧k1=16∧c=b))∧
  ((isE (nextM s c)=true∧kind=17∧ ∃e,e=(if isPM (nextM s (c+1)) then c+2 else c+1)∧DigitsTo s e j∧e<j)∨(isE (nextM s c)=false∧kind=k1∧j=c))
theorem digits_le {s:ByteArray} {i j:Nat} (h:DigitsTo s i j) (hlt:i<j):j≤s.size:=by
 have:=h.2.1 (j -1) (by omega) (by omega)
 rcases Nat.lt_or_ge (j -1) s.size with h'|h'
 ·omega
 ·simp[nextM,h',isDigitM] at this
theorem next_lt {s:ByteArray} {i:Nat} (h:nextM s i≠0):i<s.size:=by
 rcases Nat.lt_or_ge i s.size with h'|h'
 ·exact h'
 ·simp[nextM,h'] at h
theorem lexNumeral_ok (x i:Nat) (σ:LexSt) (H:Heap) (hx:LexAt H x σ) (hs:σ.s.size<4294967296) (hi:i<σ.s.size):
 Fn PP fq84 #[.pointer (some ⟨x,0,none⟩),.int .i64 i] H fun v H'=> ∃k j:Int,v= .tuple #[.int .i64 k,.int .i64 j]∧H=H'∧
  ((k=0∧j=0)∨ ∃n:Nat,j=n∧(k=16∨k=17)∧Num σ.s i k n∧i<n∧n≤σ.s.size):=by
 refine lexNumeral.enter x i H _ ?_
 unfold lexNumeral.W
 refine(lexNext_ok x i σ _ hx).mono ?_
 rintro _ _ ⟨rfl,rfl⟩
 refine⟨_,rfl,?_⟩
 refine⟨fun y H'=>H=H'∧y.1=(((if nextM σ.s i=45 then i+1 else i):Nat):Int),?_,?_⟩
 ·refine fkI (fun h=>⟨rfl,?_⟩) (fun h=>⟨rfl,?_⟩)
  ·have h':nextM σ.s i=45:=by simpa using h
   simp[h',wrap1 (k:=i) (by omega)]
  ·have h':nextM σ.s i≠45:=by simpa using h
   simp[h']
 rintro⟨y,_⟩ H5 ⟨rfl,hy⟩
 dsimp only at hy⊢
 generalize ha:(if nextM σ.s i=45 then i+1 else i)=a at hy
 subst hy
 have hai:i≤a∧a≤i+1:=by subst ha;split<;>omega
 refine(lexDigits_ok x a σ _ hx hs (by omega)).mono ?_
 rintro _ _ ⟨b,rfl,rfl,hab,hbs⟩
 refine⟨_,rfl,?_⟩
 have hable:=hab.1
 refine⟨((!decide (a<b)||(bt σ.s a==48&&decide (a+1<b))),()),?_,?_⟩
 ·refine fkI (fun h=>?_) (fun h=>?_)
  ·have h':b=a:=by have:(b:Int)=a:=by simpa using h
                   omega
   exact⟨by simp[h'],rfl⟩
  ·have h': ¬b=a:=by have: ¬(b:Int)=a:=by simpa using h
                     omega
   have hlt:a<b:=by omega
   have hb:=digits_le hab hlt
   refine⟨_,lcO hx rfl,⟨by omega,by omega⟩,?_⟩
   refine fkI (fun h2=>?_) (fun h2=>?_)
   ·have h2':bt σ.s a=48:=by simpa using h2
    refine⟨?_,rfl⟩
    simp only[Prod.mk.injEq,and_true]
    rw[wrap1 (by omega)]
    simp only[h2',hlt,decide_true,Bool.not_true,Bool.false_or,beq_self_eq_true,Bool.true_and]
    rw[decide_eq_decide];omega
   ·have h2': ¬bt σ.s a=48:=by simpa using h2
    exact⟨by simp[hlt,h2'],rfl⟩
 dsimp only
 refine fkI (fun h=>rkI ⟨0,0,rfl,rfl,.inl ⟨rfl,rfl⟩⟩) (fun h=>?_)
 have hlt:a<b:=by simp at h;exact h.1
 have hz: ¬(bt σ.s a=48∧a+1<b):=by simp at h;intro hh;have:=h.2 hh.1;omega
 have hb:=digits_le hab hlt
 clear h hbs
 refine(lexNext_ok x b σ _ hx).mono ?_
 rintro _ _ ⟨rfl,rfl⟩
 refine⟨_,rfl,?_⟩
 refine⟨fun y H'=>H=H'∧ ∃c:Nat,y.2.1=c∧b≤c∧c≤σ.s.size∧((nextM σ.s b=46∧y.1=17∧DigitsTo σ.s (b+1) c∧b+1<c)∨(nextM σ.s b≠46∧y.1=16∧c=b)),?_,?_⟩
 ·refine fkI (fun h=>?_) (fun h=>?_)
  ·have h':nextM σ.s b=46:=by simpa using h
   have hbl:=next_lt (s:=σ.s) (i:=b) (by omega)
   rw[wrap1 (by omega)]
   refine(lexDigits_ok x (b+1) σ _ hx hs (by omega)).mono ?_
   rintro _ _ ⟨c,rfl,rfl,hc,hcs⟩
   refine⟨_,rfl,?_⟩
   refine fkI (fun h=>rkI ⟨0,0,rfl,rfl,.inl ⟨rfl,rfl⟩⟩) (fun h2=>?_)
   have h2': ¬c=b+1:=by simp at h2;omega
   have:=hc.1
   have hlt2:b+1<c:=by omega
   exact⟨rfl,c,rfl,by omega,digits_le hc hlt2,.inl ⟨h',rfl,hc,hlt2⟩⟩
  ·have h':nextM σ.s b≠46:=by simpa using h
   exact⟨rfl,b,rfl,by omega,by omega,.inr ⟨h',rfl,rfl⟩⟩
 rintro⟨k1,y2,_⟩ H15 ⟨rfl,c,hc1,hbc,hcs,hc⟩
 dsimp only at hc1 hc⊢
 subst hc1
 refine(lexNext_ok x c σ _ hx).mono ?_
 rintro _ _ ⟨rfl,rfl⟩
 refine⟨_,rfl,?_⟩
 refine⟨(isE (nextM σ.s c),()),?_,?_⟩
 ·refine fkI (fun h=>⟨by simp at h;simp[isE,h],rfl⟩) (fun h=>⟨by simp at h;simp[isE,h],rfl⟩)
 dsimp only
 refine⟨fun y H'=>H=H'∧ ∃j:Nat,y.2.1=j∧(y.1=16∨y.1=17)∧Num σ.s i y.1 j∧i<j∧j≤σ.s.size,?_,?_⟩
 ·refine fkI (fun h=>?_) (fun h=>?_)
  ·have hcl:=next_lt (s:=σ.s) (i:=c) (by intro h0;rw[h0] at h;simp[isE] at h)
   rw[wrap1 (by omega)]
   refine(lexNext_ok x (c+1) σ _ hx).mono ?_
   rintro _ _ ⟨rfl,rfl⟩
   refine⟨_,rfl,?_⟩
   refine⟨(isPM (nextM σ.s (c+1)),()),?_,?_⟩
   ·refine fkI (fun h=>⟨by simp at h;simp[isPM,h],rfl⟩) (fun h=>⟨by simp at h;simp[isPM,h],rfl⟩)
   dsimp only
   refine⟨fun y H'=>H=H'∧y.1=(((if isPM (nextM σ.s (c+1)) then c+2 else c+1):Nat):Int),?_,?_⟩
   ·refine fkI (fun h=>⟨rfl,?_⟩) (fun h=>⟨rfl,?_⟩)
    ·simp only[h,if_true];rw[wrap1 (by omega)]
    ·simp[h]
   rintro⟨y,_⟩ H31 ⟨rfl,hy⟩
   dsimp only at hy⊢
   generalize he:(if isPM (nextM σ.s (c+1)) then c+2 else c+1)=e at hy
   subst hy
   have hel:c<e∧e≤c+2:=by subst he;split<;>omega
   refine(lexDigits_ok x e σ _ hx hs (by omega)).mono ?_
   rintro _ _ ⟨j,rfl,rfl,hj,hjs⟩
   refine⟨_,rfl,?_⟩
   refine fkI (fun h=>rkI ⟨0,0,rfl,rfl,.inl ⟨rfl,rfl⟩⟩) (fun h2=>?_)
   have h2': ¬j=e:=by simp at h2;omega
   have:=hj.1
   have hlt2:e<j:=by omega
   exact⟨rfl,j,rfl,.inr rfl,⟨a,b,k1,c,ha.symm,hab,hlt,hz,hc,.inl ⟨h,rfl,e,he.symm,hj,hlt2⟩⟩,by omega,digits_le hj hlt2⟩
  ·refine⟨rfl,c,rfl,?_,⟨a,b,k1,c,ha.symm,hab,hlt,hz,hc,.inr ⟨h,rfl,rfl⟩⟩,by omega,hcs⟩
   rcases hc with⟨_,h,_⟩|⟨_,h,_⟩
   ·exact .inr h
   ·exact .inl h
 rintro⟨k,y2,_⟩ H24 ⟨rfl,j,hj,hk,hn,h1,h2⟩
 dsimp only at hj hk hn⊢
 subst hj
 exact rkI ⟨k,j,rfl,rfl,.inr ⟨j,rfl,hk,hn,h1,h2⟩⟩
set_option maxRecDepth 10000
def pointGo (s:ByteArray) (i:Nat):Nat→Int→Option Int
 |0,c=>some c
 |n+1,c=>if bt s i<128∨191<bt s i then none else pointGo s (i+1) n (c*64+bt s i -128)
def pointHead (f:Int):Int×Nat×Int:=
 if 194≤f∧f<224 then(f -192,2,128) else if 224≤f∧f<240 then(f -224,3,2048) else if 240≤f∧f<245 then(f -240,4,65536) else(0,0,0)
def pointBad (c least:Int):Bool:=decide (c<least)||decide (1114111<c)||(decide (55296≤c)&&decide (c<57344))
def pointM (s:ByteArray) (a:Nat):Int×Nat:=
 let f:=bt s a
 if f<128 then(f,1) else
  let h:=pointHead f
  if h.2.1=0∨s.size<a+h.2.1 then(0,0) else
   match pointGo s (a+1) (h.2.1 -1) h.1 with
   |none=>(0,0)
   |some c=>if pointBad c h.2.2 then(0,0) else(c,h.2.1)
theorem Point_ok (s:ByteArray) (a:Nat) (H:Heap) (ha:a<s.size) (hs:s.size<4294967296):
 Fn PP fq82 #[.string s,.int .i64 a] H fun v H'=>v= .tuple #[.int .i64 (pointM s a).1,.int .i64 (pointM s a).2]∧H=H':=by
 refine Point.enter s a H _ ?_
 unfold Point.W
 simp only[wrap_bt]
 have hr:=bt_range s a
 generalize hf:bt s (a:Int)=f at hr
 refine⟨by omega,fkI (fun h=>rkI ⟨?_,rfl⟩) (fun h=>?_)⟩
 ·have h':f<128:=by simpa using h
  simp[retV,pointM,hf,h']
 have h0: ¬f<128:=by simpa using h
 refine joinPK_and ?_
 refine⟨fun y H'=>H=H'∧y.1=(pointHead f).1∧y.2.1=(pointHead f).2.1∧y.2.2.1=(pointHead f).2.2,?_,?_⟩
 ·refine fkI (fun h=>?_) (fun h=>?_)
  ·have h1:194≤f∧f<224:=by simpa using h
   refine⟨rfl,?_,?_,?_⟩<;>simp[pointHead,h1]
   exact i64w (by omega)
  have h1: ¬(194≤f∧f<224):=by simpa using h
  refine joinPK_and ?_
  refine⟨fun y H'=>H=H'∧y.1=(pointHead f).1∧y.2.1=(pointHead f).2.1∧y.2.2.1=(pointHead f).2.2,?_,fun _ _ h=>h⟩
  refine fkI (fun h=>?_) (fun h=>?_)
  ·have h2:224≤f∧f<240:=by simpa using h
   refine⟨rfl,?_,?_,?_⟩<;>simp[pointHead,h1,h2]
   exact i64w (by omega)
  have h2: ¬(224≤f∧f<240):=by simpa using h
  refine joinPK_and ?_
  refine⟨fun y H'=>H=H'∧y.1=(pointHead f).1∧y.2.1=(pointHead f).2.1∧y.2.2.1=(pointHead f).2.2,?_,fun _ _ h=>h⟩
  refine fkI (fun h=>?_) (fun h=>?_)
  ·have h3:240≤f∧f<245:=by simpa using h
   refine⟨rfl,?_,?_,?_⟩<;>simp[pointHead,h1,h2,h3]
   exact i64w (by omega)
  ·have h3: ¬(240≤f∧f<245):=by simpa using h
   refine⟨rfl,?_,?_,?_⟩<;>simp[pointHead,h1,h2,h3]
 rintro⟨y1,y2,y3,_⟩ H5 ⟨rfl,hy1,hy2,hy3⟩
 dsimp only at hy1 hy2 hy3⊢
 have hp:pointM s a=if(pointHead f).2.1=0∨s.size<a+(pointHead f).2.1 then(0,0) else
  match pointGo s (a+1) ((pointHead f).2.1 -1) (pointHead f).1 with
  |none=>(0,0)
  |some c=>if pointBad c (pointHead f).2.2 then(0,0) else(c,(pointHead f).2.1):=by
  simp only[pointM,hf,h0,if_false]
 have hb:0≤y1∧y1<32∧(pointHead f).2.1≤4:=by
  rw[hy1];unfold pointHead;split
  ·dsimp only;omega
  split
  ·dsimp only;omega
  split
  ·dsimp only;omega
  ·simp
 generalize pointHead f=p at*
 obtain⟨p1,m,p3⟩:=p
 dsimp only at*
 subst hy1 hy2 hy3
 rw[wrapN (by omega) m (by omega),wrap1 (by omega)]
 refine joinPK_or (fkI (fun h=>rkI ⟨?_,rfl⟩) (fun h=>?_))
 ·have:m=0∨s.size<a+m:=by simp at h;omega
  rw[hp,if_pos this];rfl
 have hm: ¬(m=0∨s.size<a+m):=by simp at h;omega
 rw[if_neg hm] at hp
 refine⟨fun z H'=>H=H'∧z.2.1=m∧ ∃i:Nat,z.2.2.1=i∧ ∃k,a+m=i+k∧i=a+m -k∧k+1≤m∧0≤z.1∧
  (k+1=m∧z.1<32∨k+2=m∧z.1<2048∨k+3=m∧z.1<131072∨k+4=m∧z.1<8388608)∧pointGo s (a+1) (m -1) y1=pointGo s i k z.1,
  fun z _=>a+m -z.2.2.1.toNat,⟨rfl,rfl,a+1,rfl,m -1,by omega,by omega,by omega,by omega,.inl ⟨by omega,by omega⟩,rfl⟩,?_⟩
 rintro⟨c,m',i',_⟩ H19 ⟨rfl,rfl,i,hi,k,hk,hk',hk2,hc0,hcb,hgo⟩
 dsimp only at hi hgo hcb hc0⊢
 subst hi
 rw[wrapN (by omega) m (by omega)]
 have hbi:=bt_range s i
 refine fkI (fun h=>?_) (fun h=>?_)
 ·have h':i<a+m:=by simp at h;omega
  refine joinPK_or2 (by omega) (fun _=>by omega) ?_
  obtain⟨k,rfl⟩: ∃k',k=k'+1:=⟨k -1,by omega⟩
  refine fkI (fun h=>rkI ⟨?_,rfl⟩) (fun h=>?_)
  ·have h2:bt s i<128∨191<bt s i:=by simpa using h
   rw[hp,hgo];simp[pointGo,h2,retV]
  ·have h2: ¬(bt s i<128∨191<bt s i):=by simp at h;omega
   have e6:(2:Int)^(min (6:Int).toNat 64)=64:=by decide
   rw[e6,i64w (n:=c*64) (by omega),i64w (n:=c*64+bt s i) (by omega),i64w (n:=c*64+bt s i -128) (by omega),wrap1 (by omega)]
   refine⟨by omega,⟨rfl,rfl,i+1,rfl,k,by omega,by omega,by omega,by omega,by omega,?_⟩,by simp;omega⟩
   rw[hgo];simp only[pointGo,h2,if_false]
 ·have hk0:k=0:=by simp at h;omega
  subst hk0
  simp only[pointGo] at hgo
  rw[hgo] at hp
  refine⟨(pointBad c y3,()),?_,?_⟩
  ·refine fkI (fun h=>⟨by simp at h;simp[pointBad,h],rfl⟩) (fun h=>?_)
   refine fkI (fun h1=>⟨by simp at h1;simp[pointBad,h1],rfl⟩) (fun h1=>?_)
   refine fkI (fun h2=>⟨?_,rfl⟩) (fun h2=>⟨?_,rfl⟩)<;>simp at h h1 h2<;>simp only[Prod.mk.injEq,and_true]<;>rw[Bool.eq_iff_iff]<;>simp[pointBad]<;>omega
  ·refine fkI (fun h=>rkI ⟨?_,rfl⟩) (fun h=>rkI ⟨?_,rfl⟩)<;>dsimp only at h<;>rw[hp]<;>simp[h,retV]
structure Tk where
 kind:Int
 value:ByteArray
 start:Nat
 stop:Nat
def Tk.vals (t:Tk):List Value:=[.int .i64 t.kind,.string t.value,.int .i64 t.start,.int .i64 t.stop]
def tkL (ts:List Tk):List Value:=ts.flatMap Tk.vals
def TkOk (s:ByteArray) (t:Tk):Prop:=t.kind=16∨t.kind=17→Num s t.start t.kind t.stop∧t.start<t.stop∧t.stop≤s.size∧t.value=s.extract t.start t.stop
structure LexInv (H0 H:Heap) (x:Nat) (σ:LexSt) (ts:List Tk):Prop where
 ext:Ext [] H0 H
 at_:LexAt H x σ
 new:H0.size≤x
 own:OwnS H tq39 4 σ.oa σ.on σ.oc (tkL ts)
 row: ∀r,rowOf σ.oa=some r→H0.size≤r
 le:σ.pos≤σ.s.size
 many:σ.on≤σ.pos
 toks: ∀t∈ts,TkOk σ.s t
theorem LexInv.store {H0 H:Heap} {x:Nat} {σ:LexSt} {ts:List Tk} (h:LexInv H0 H x σ ts) (σ':LexSt) (hs:σ'.s=σ.s) (ha:σ'.oa=σ.oa) (hn:σ'.on=σ.on) (hc:σ'.oc=σ.oc)
 (hp:σ.pos≤σ'.pos∧σ'.pos≤σ.s.size):LexInv H0 (H.setIfInBounds x σ'.obj) x σ' ts:=by
 have e:Ext [x] H (H.setIfInBounds x σ'.obj):=Ext.set (by simp) _
 refine⟨h.ext.setNew h.new _,get_setIf _ _ _ _ h.at_,h.new,?_,by rw[ha];exact h.row,by rw[hs];exact hp.2,by rw[hn];exact Nat.le_trans h.many hp.1,by rw[hs];exact h.toks⟩
 rw[ha,hn,hc]
 refine h.own.ext e fun r hr hm=>?_
 exact h.own.ne h.at_ (by decide) hr (by simpa using hm)
theorem lexStore {H:Heap} {x:Nat} {σ:LexSt} (hx:LexAt H x σ) (k:Nat) (v:Value) (σ':LexSt) (hv:one v=true) (hk:k<5) (he: .cells (writeAt #[.string σ.s,.int .i64 σ.pos,.slice σ.oa σ.on σ.oc,.bool σ.bad,.bool σ.uns] k [v]) tq75=σ'.obj) {K:Heap→Prop}
 (h:K (H.setIfInBounds x σ'.obj)):storeW H ⟨x,k,none⟩ [v] K:=by
 refine swI hx (by simp;omega) rfl (by simp[oneL,hv]) fun H' e _ _ _=>?_
 rw[he] at e
 rw[e];exact h
theorem lexFail_ok (H0 H:Heap) (x:Nat) (σ:LexSt) (ts:List Tk) (h:LexInv H0 H x σ ts):
 Fn PP fq51 #[.pointer (some ⟨x,0,none⟩)] H fun v H'=>v= .tuple #[]∧LexInv H0 H' x {σ with bad:=true} ts:=by
 refine lexFail.enter x H _ ?_
 unfold lexFail.W
 refine lexStore h.at_ 3 _ {σ with bad:=true} rfl (by decide) rfl ?_
 exact rkI ⟨rfl,h.store _ rfl rfl rfl rfl ⟨Nat.le_refl _,h.le⟩⟩
theorem lexAdd_ok (H0 H:Heap) (x:Nat) (σ:LexSt) (ts:List Tk) (h:LexInv H0 H x σ ts) (kind:Int) (to:Nat) (value:ByteArray) (hto:σ.pos<to∧to≤σ.s.size) (hs:σ.s.size<4294967296)
 (htk:TkOk σ.s ⟨kind,value,σ.pos,to⟩):
 Fn PP fq43 #[.pointer (some ⟨x,0,none⟩),.int .i64 kind,.int .i64 to,.string value] H fun v H'=>v= .tuple #[]∧
  ∃a c,LexInv H0 H' x {σ with oa:=a,on:=σ.on+1,oc:=c,pos:=to} (ts++[⟨kind,value,σ.pos,to⟩]):=by
 refine lexAdd.enter x kind to value H _ ?_
 unfold lexAdd.W
 refine⟨(σ.oa,σ.on,σ.oc),lcO h.at_ rfl,?_⟩
 refine⟨_,lcO h.at_ rfl,?_⟩
 refine nbI fun H4 e4 hb4 ext4 hs4=>?_
 refine⟨loadC_ext ext4 (lcO h.at_ rfl) (by simp),?_⟩
 have hx4:=ext4.get _ _ h.at_ (by simp)
 have hm:=h.many
 refine .inr ⟨tkL ts,_,h.own.ext ext4 (by simp),NewsS.of_block hb4 rfl,by simp[Value.oneCell'],by simp only[maxLen];omega,by dsimp only;omega,?_⟩
 intro a' c' H7 own' grow hnil hrow
 dsimp only
 have hx7:H7[x]?=some σ.obj:=grow.ext.get _ _ hx4 (by
  intro hm
  rw[Option.mem_toList] at hm
  exact(h.own.ext ext4 (by simp)).ne hx4 (by decide) hm rfl)
 refine lexStore (σ:=σ) hx7 2 _ {σ with oa:=a',on:=σ.on+1,oc:=c'} rfl (by decide) rfl ?_
 refine lexStore (σ:= {σ with oa:=a',on:=σ.on+1,oc:=c'}) (get_setIf _ _ _ _ hx7) 1 _ {σ with oa:=a',on:=σ.on+1,oc:=c',pos:=to} rfl (by decide) rfl ?_
 refine rkI ⟨rfl,a',c',?_⟩
 have ext7:Ext [] H0 H7:=by
  refine⟨Nat.le_trans (Nat.le_trans h.ext.size ext4.size) grow.size,fun k o hk hn=>?_⟩
  refine grow.ext.get _ _ (ext4.get _ _ (h.ext.get _ _ hk hn) hn) ?_
  intro hm
  rw[Option.mem_toList] at hm
  have:=h.row _ hm
  have:=lt_of_get hk
  omega
 have own2:OwnS H7 tq39 4 a' (σ.on+1) c' (tkL (ts++[⟨kind,value,σ.pos,to⟩])):=by
  have:tkL (ts++[⟨kind,value,σ.pos,to⟩])=tkL ts++[.int .i64 kind,.string value,.int .i64 σ.pos,.int .i64 to]:=by simp[tkL,Tk.vals]
  rw[this];exact own'
 refine⟨(ext7.setNew h.new _).setNew h.new _,get_setIf _ _ _ _ (get_setIf _ _ _ _ hx7),h.new,?_,?_,hto.2,by show σ.on+1≤to;omega,?_⟩
 ·have ne: ∀r,rowOf a'=some r→r∉ [x]:=fun r hr hm=>own2.ne hx7 (by decide) hr (by simpa using hm)
  exact(own2.ext (Ext.set (by simp) _) ne).ext (Ext.set (by simp) _) ne
 ·intro r hr
  rcases hrow with h1|h1
  ·exact h.row r (by rw[←h1];exact hr)
  ·have:r=H4.size:=by
    have:=hr.symm.trans h1;simpa using this
   have:=h.ext.size
   omega
 ·intro t ht
  rcases List.mem_append.1 ht with ht|ht
  ·exact h.toks t ht
  ·rw[List.mem_singleton] at ht;subst ht;exact htk
def Stepped (H0 H:Heap) (x:Nat) (σ:LexSt):Prop:= ∃σ' ts',LexInv H0 H x σ' ts'∧σ'.s=σ.s∧(σ'.bad=true∨σ.pos<σ'.pos)
theorem source_ok (c:Int) (H:Heap):Fn PP fq83 #[.int .i64 c] H fun v H'=>v= .tuple #[.bool (c==9||c==10||c==13||decide (32≤c)),.bool (decide (c≤65535))]∧H=H':=by
 refine source_.enter c H _ ?_
 unfold source_.W
 refine fkI (fun h=>rkI ⟨by simp[retV,h],rfl⟩) (fun h=>?_)
 refine fkI (fun h1=>rkI ⟨by simp[retV,h,h1],rfl⟩) (fun h1=>?_)
 exact fkI (fun h2=>rkI ⟨by simp[retV,h,h1,h2],rfl⟩) (fun h2=>rkI ⟨by simp[retV,h,h1,h2],rfl⟩)
def hexM (c:Int):Int:=if 48≤c∧c≤57 then c -48 else if 97≤c∧c≤102 then c -87 else if 65≤c∧c≤70 then c -55 else -1
theorem hex_ok (c:Int) (H:Heap) (hc:0≤c∧c≤255):Fn PP fq119 #[.int .u8 c] H fun v H'=>v= .int .i64 (hexM c)∧H=H':=by
 refine hexadecimal.enter c H _ ?_
 unfold hexadecimal.W
 repeat' refine fkI (fun _=>?_) (fun _=>?_)
 all_goals refine rkI ⟨?_,rfl⟩
 all_goals simp only[decide_eq_true_eq,decide_eq_false_iff_not] at*
 all_goals simp only[retV,Value.int.injEq,true_and]
 all_goals first|rw[u8w (by omega),i64w (n:=c -48) (by omega)]|rw[u8w (by omega),i64w (n:=c -97) (by omega),i64w (by omega)]|rw[u8w (by omega),i64w (n:=c -65) (by omega),i64w (by omega)]|skip
 all_goals unfold hexM
 all_goals first|(rw[if_pos (by omega)]<;>omega)|(rw[if_neg (by omega),if_pos (by omega)]<;>omega)|(rw[if_neg (by omega),if_neg (by omega),if_pos (by omega)]<;>omega)|(rw[if_neg (by omega),if_neg (by omega),if_neg (by omega)])
def signM (c:Int):Int:=if(c==33)=true then 2 else if(c==36)=true then 3 else if(c==40)=true then 4 else if(c==41)=true then 5 else if(c==58)=true then 7 else if(c==61)=true then 8 else if(c==64)=true then 9 else if(c==91)=true then 10 else if(c==93)=true then 11 else if(c==123)=true then 12 else if(c==124)=true then 13 else if(c==125)=true then 14 else if(c==38)=true then 20 else 0
theorem sign_ok (c:Int) (H:Heap):Fn PP fq44 #[.int .u8 c] H fun v H'=>v= .int .i64 (signM c)∧H=H':=by
 refine sign.enter c H _ ?_
 unfold sign.W
 repeat' refine fkI (fun _=>?_) (fun _=>?_)
 all_goals refine rkI ⟨?_,rfl⟩
 all_goals simp only[retV,signM, *,Bool.false_eq_true,if_false,if_true]
theorem signM_range (c:Int):signM c=0∨2≤signM c∧signM c≤14∨signM c=20:=by
 unfold signM;repeat' split
 all_goals omega
def startsM (s:ByteArray) (a:Nat) (t:ByteArray):Bool:=decide (a+t.size≤s.size)&&((s.extract a (a+t.size)).toList==t.toList)
theorem starts_ok (s t:ByteArray) (a:Nat) (H:Heap) (ha:a≤s.size) (hs:s.size<4294967296) (ht:t.size<1000):
 Fn PP fq41 #[.string s,.int .i64 a,.string t] H fun v H'=>v= .bool (startsM s a t)∧H=H':=by
 refine starts.enter s a t H _ ?_
 unfold starts.W
 rw[wrapN (by omega) _ ht]
 refine fkI (fun h=>?_) (fun h=>rkI ⟨?_,rfl⟩)
 ·have h':a+t.size≤s.size:=by simp at h;omega
  refine⟨by omega,rkI ⟨?_,rfl⟩⟩
  have e:((a+t.size:Nat):Int).toNat=a+t.size:=by omega
  rw[e]
  simp[retV,startsM,h']
 ·have h': ¬a+t.size≤s.size:=by simp at h;omega
  simp[retV,startsM,h']
theorem Encoded_ok (c:Int) (H:Heap):Fn PP fq120 #[.int .i64 c] H fun v H'=>v= .string (Utf8.encode (IntKind.i32.wrap c))∧Ext [] H H':=by
 refine Encoded.enter c H _ ?_
 unfold Encoded.W
 refine nbI fun H4 e4 hb4 ext4 hs4=>?_
 exact⟨_,lcO hb4 rfl,rkI ⟨rfl,ext4⟩⟩
theorem LexInv.grow {H0 H H':Heap} {x:Nat} {σ:LexSt} {ts:List Tk} (h:LexInv H0 H x σ ts) (he:Ext [] H H'):LexInv H0 H' x σ ts:=
 ⟨h.ext.trans he,he.get _ _ h.at_ (by simp),h.new,h.own.ext he (by simp),h.row,h.le,h.many,h.toks⟩
theorem LexInv.uns {H0 H:Heap} {x:Nat} {σ:LexSt} {ts:List Tk} (h:LexInv H0 H x σ ts) (u:Bool):LexInv H0 (H.setIfInBounds x {σ with uns:=u}.obj) x {σ with uns:=u} ts:=
 h.store _ rfl rfl rfl rfl ⟨Nat.le_refl _,h.le⟩
theorem encode_size (c:Int):(Utf8.encode c).size≤4:=by
 have key: ∀(k:Nat) (b:Nat→UInt8),(if k<0x80 then(⟨#[b k]⟩:ByteArray) else if k<0x800 then⟨#[b (0xC0+k/64),b (0x80+k% 64)]⟩
  else if k<0x10000 then⟨#[b (0xE0+k/4096),b (0x80+k/64% 64),b (0x80+k% 64)]⟩
  else⟨#[b (0xF0+k/262144),b (0x80+k/4096% 64),b (0x80+k/64% 64),b (0x80+k% 64)]⟩).size≤4:=by
  intro k b
  split
  ·exact(show(1:Nat)≤4 by decide)
  split
  ·exact(show(2:Nat)≤4 by decide)
  split
  ·exact(show(3:Nat)≤4 by decide)
  ·exact(show(4:Nat)≤4 by decide)
 exact key _ _
theorem hexM_range (c:Int):hexM c= -1∨(0≤hexM c∧hexM c≤15):=by
 unfold hexM;split;omega;split;omega;split;omega;omega
def whiteB (c:Int):Bool:=c==32||c==9
def leadGo (s:ByteArray) (k:Nat):Nat:=if k<s.size∧whiteB (bt s k)=true then leadGo s (k+1) else k
 termination_by s.size -k
 decreasing_by omega
def leadM (s:ByteArray):Nat:=leadGo s 0
theorem leading_ok (s:ByteArray) (H:Heap) (hs:s.size<4294967296):Fn PP fq118 #[.string s] H fun v H'=>v= .int .i64 (leadM s)∧H=H':=by
 refine leading.enter s H _ ?_
 unfold leading.W
 refine⟨fun z H'=>H=H'∧ ∃k:Nat,z.1=k∧k≤s.size∧leadM s=leadGo s k,fun z _=>s.size -z.1.toNat,⟨rfl,0,rfl,Nat.zero_le _,rfl⟩,?_⟩
 rintro⟨_,_⟩ _ ⟨rfl,k,hk,hks,hl⟩
 dsimp only at hk⊢
 subst hk
 refine⟨(decide (k<s.size)&&whiteB (bt s k),()),?_,?_⟩
 ·refine fkI (fun h=>?_) (fun h=>?_)
  ·have h':k<s.size:=by simp at h;exact h
   refine⟨by omega,fkI (fun h1=>⟨?_,rfl⟩) (fun h1=>⟨by omega,?_,rfl⟩)⟩
   ·simp only[h',decide_true,Bool.true_and,whiteB,h1,Bool.true_or]
   ·simp only[h',decide_true,Bool.true_and,whiteB,h1,Bool.false_or]
  ·have h': ¬k<s.size:=by simp at h;omega
   exact⟨by simp only[h',decide_false,Bool.false_and],rfl⟩
 ·unfold leadGo at hl
  refine fkI (fun h=>?_) (fun h=>?_)
  ·simp only[Bool.and_eq_true,decide_eq_true_eq] at h
   rw[if_pos h] at hl
   rw[wrap1 (by omega)]
   exact⟨⟨rfl,k+1,rfl,h.1,hl⟩,by omega⟩
  ·rw[if_neg (by simpa using h)] at hl
   exact rkI ⟨by rw[hl];rfl,rfl⟩
def StrsAt (H:Heap) (a:Option Addr) (n:Nat) (ss:List ByteArray):Prop:=
 n=ss.length∧(n=0∨ ∃g o c e fr,a=some ⟨g,o,none⟩∧H[g]?=some (.cells c e fr)∧ ∀i s,ss[i]?=some s→c[o+i]?=some (.string s))
theorem StrsAt.ext {S:List Nat} {H H':Heap} {a:Option Addr} {n:Nat} {ss:List ByteArray} (h:StrsAt H a n ss) (he:Ext S H H') (hs: ∀r,rowOf a=some r→r∉S):StrsAt H' a n ss:=by
 refine⟨h.1,h.2.imp id ?_⟩
 rintro⟨g,o,c,e,fr,rfl,hg,hr⟩
 exact⟨g,o,c,e,fr,rfl,he.get _ _ hg (hs g rfl),hr⟩
theorem StrsAt.load {H:Heap} {a:Option Addr} {n:Nat} {ss:List ByteArray} (h:StrsAt H a n ss) {i:Nat} {s:ByteArray} (hi:ss[i]?=some s):
 IxOk a (i:Int) n∧loadC H false 1 ⟨blkOf a,offOf a+(i:Int).toNat*1,none⟩=some (.string s):=by
 have hlt:=(List.getElem?_eq_some_iff.1 hi).1
 rcases h.2 with h0|⟨g,o,c,e,fr,rfl,hg,hr⟩
 ·have:=h.1;omega
 ·refine⟨ix_some (by omega) (by have:=h.1;omega),?_⟩
  have:=hr i s hi
  simp only[blkOf,offOf,loadC,cellAt,hg]
  have e:(i:Int).toNat*1=i:=by omega
  rw[e];simpa using this
theorem StrsAt.of_own {H:Heap} {e:TypeId} {a:Option Addr} {n c:Nat} {ss:List ByteArray} (h:OwnS H e 1 a n c (ss.map .string)):StrsAt H a n ss:=by
 have hl:n=ss.length:=by have:=h.1;simp at this;omega
 refine⟨hl,?_⟩
 rcases h.2 with⟨_,h0,_⟩|⟨g,cur,rfl,hg,_,_,_,ht⟩
 ·exact .inl h0
 ·refine .inr ⟨g,0,cur,e,(0,0),rfl,hg,fun i s hi=>?_⟩
  have hlt:=(List.getElem?_eq_some_iff.1 hi).1
  have h2:(cur.toList.take (n*1))[i]?=some (.string s):=by rw[ht];simp[hi]
  rw[List.getElem?_take,if_pos (by omega)] at h2
  simpa using h2
def commonGo:List ByteArray→Int→Int
 |[],out=>out
 |e::r,out=>commonGo r (if decide ((leadM e:Int)<e.size)&&(decide (out<0)||decide ((leadM e:Int)<out)) then(leadM e:Int) else out)
def commonM (l:List ByteArray):Int:=if 0>commonGo l.tail (-1) then 0 else commonGo l.tail (-1)
theorem common_ok (b o n c:Nat) (ss:List ByteArray) (H:Heap) (h:StrsAt H (some ⟨b,o,none⟩) n ss) (hs: ∀s∈ss,s.size<4294967296) (hn:n<4294967296) (h0:ss≠ []):
 Fn PP fq117 #[.slice (some ⟨b,o,none⟩) n c] H fun v H'=>v= .int .i64 (commonM ss)∧H=H':=by
 refine common.enter b o n c H _ ?_
 unfold common.W
 have hlen:=h.1
 refine⟨fun z H'=>H=H'∧ ∃k:Nat,z.2.1=k∧1≤k∧k≤n∧commonGo ss.tail (-1)=commonGo (ss.drop k) z.1,fun z _=>n -z.2.1.toNat,
  ⟨rfl,1,rfl,Nat.le_refl _,?_,by rw[List.drop_one]⟩,?_⟩
 ·cases ss with
  |nil=>exact absurd rfl h0
  |cons _ _=>simp at hlen;omega
 rintro⟨out,_,_⟩ _ ⟨rfl,k,hk,hk1,hkn,hgo⟩
 dsimp only at hk hgo⊢
 subst hk
 refine fkI (fun hlt=>?_) (fun hge=>?_)
 ·have hlt':k<ss.length:=by simp at hlt;omega
  have hi:ss[k]?=some ss[k]:=List.getElem?_eq_getElem hlt'
  have hd:ss.drop k=ss[k]::ss.drop (k+1):=List.drop_eq_getElem_cons hlt'
  rw[hd] at hgo
  simp only[commonGo] at hgo
  have hz:=hs _ (List.getElem_mem hlt')
  generalize ss[k]=s at hi hgo hz
  refine⟨(h.load hi).1,_,(h.load hi).2,(leading_ok s H hz).mono ?_⟩
  rintro _ _ ⟨rfl,rfl⟩
  refine⟨_,rfl,?_⟩
  refine⟨(decide ((leadM s:Int)<s.size)&&(decide (out<0)||decide ((leadM s:Int)<out)),()),?_,?_⟩
  ·refine⟨(h.load hi).1,_,(h.load hi).2,fkI (fun h1=>fkI (fun h2=>⟨?_,rfl⟩) (fun h2=>⟨?_,rfl⟩)) (fun h1=>⟨?_,rfl⟩)⟩
   ·rw[h1,h2];rfl
   ·rw[h1,h2];rfl
   ·rw[h1];rfl
  ·rw[wrap1 (by omega)]
   dsimp only
   refine⟨fun y H'=>H=H'∧commonGo ss.tail (-1)=commonGo (ss.drop (k+1)) y.1,?_,?_⟩
   ·refine fkI (fun h1=>⟨rfl,?_⟩) (fun h1=>⟨rfl,?_⟩)
    ·rw[hgo,h1];rfl
    ·rw[hgo,h1];rfl
   ·rintro⟨y,_⟩ _ ⟨rfl,hy⟩
    exact⟨⟨rfl,k+1,rfl,by omega,by omega,hy⟩,by omega⟩
 ·have hge':k=ss.length:=by simp at hge;omega
  rw[hge',List.drop_length] at hgo
  simp only[commonGo] at hgo
  refine rkI ⟨?_,rfl⟩
  simp only[retV,commonM,hgo]
def linesGo (s:ByteArray) (fr i:Nat):List ByteArray:=
 if i<s.size then
  if(bt s i !=10&&bt s i !=13)=true then linesGo s fr (i+1)
  else if(bt s i==13&&(decide (i+1<s.size)&&bt s (i+1:Nat)==10))=true then s.extract fr i::linesGo s (i+2) (i+2)
  else s.extract fr i::linesGo s (i+1) (i+1)
 else[s.extract fr s.size]
 termination_by s.size -i
 decreasing_by all_goals omega
def linesM (s:ByteArray):List ByteArray:=linesGo s 0 0
theorem linesGo_ne (s:ByteArray): ∀(n fr i:Nat),s.size -i≤n→linesGo s fr i≠ []∧(linesGo s fr i).length≤n+1∧ ∀e∈linesGo s fr i,e.size≤s.size:=by
 intro n
 induction n with
 |zero=>
  intro fr i h
  unfold linesGo
  rw[if_neg (by omega)]
  refine⟨by simp,by simp,fun e he=>?_⟩
  simp at he;subst he;rw[ByteArray.size_extract];omega
 |succ n ih=>
  intro fr i h
  unfold linesGo
  split
  ·split
   ·have:=ih fr (i+1) (by omega);exact⟨this.1,by omega,this.2.2⟩
   ·split
    ·have:=ih (i+2) (i+2) (by omega)
     refine⟨by simp,by simp;omega,fun e he=>?_⟩
     rcases List.mem_cons.1 he with rfl|he
     ·rw[ByteArray.size_extract];omega
     ·exact this.2.2 e he
    ·have:=ih (i+1) (i+1) (by omega)
     refine⟨by simp,by simp;omega,fun e he=>?_⟩
     rcases List.mem_cons.1 he with rfl|he
     ·rw[ByteArray.size_extract];omega
     ·exact this.2.2 e he
  ·refine⟨by simp,by simp,fun e he=>?_⟩
   simp at he;subst he;rw[ByteArray.size_extract];omega
theorem linesM_ne (s:ByteArray):linesM s≠ []∧(linesM s).length≤s.size+1∧ ∀e∈linesM s,e.size≤s.size:=linesGo_ne s s.size 0 0 (by omega)
structure Fresh (H0 H:Heap) (e:TypeId) (size:Nat) (a:Option Addr) (n c:Nat) (xs:List Value):Prop where
 ext:Ext [] H0 H
 own:OwnS H e size a n c xs
 row: ∀r,rowOf a=some r→H0.size≤r
theorem Fresh.grow {H0 H H':Heap} {e:TypeId} {size:Nat} {a:Option Addr} {n c:Nat} {xs:List Value} (h:Fresh H0 H e size a n c xs) (he:Ext [] H H'):Fresh H0 H' e size a n c xs:=
 ⟨h.ext.trans he,h.own.ext he (by simp),h.row⟩
theorem Fresh.nil (H:Heap) (e:TypeId) (size:Nat):Fresh H H e size none 0 0 []:=⟨Ext.refl _ _,OwnS.nil _ _ _,fun _ h=>by cases h⟩
theorem Fresh.append {H0 H:Heap} {e:TypeId} {size bytes:Nat} {a:Option Addr} {n c:Nat} {xs:List Value} (h:Fresh H0 H e size a n c xs) {b m:Nat} {cs:Array Value} {f:TypeId} {fr:Nat×Nat}
 (hb:H[b]?=some (.cells cs f fr)) (hcs:cs.size=m*size) (h1: ∀u∈cs.toList,u.oneCell'=true) (hn:n+m<4294967296) (hby:bytes<1000) {K:Option Addr→Nat→Heap→Prop}
 (hk: ∀a' c' H',Fresh H0 H' e size a' (n+m) c' (xs++cs.toList)→Grow H H' (rowOf a)→(rowOf a'=rowOf a∨rowOf a'=some H.size)→K a' c' H'):
 appK H e size bytes a n c (some ⟨b,0,none⟩) m K:=by
 refine .inr ⟨xs,_,h.own,NewsS.of_block hb hcs,h1,by simp only[maxLen];omega,?_,?_⟩
 ·have:(n+m)*bytes≤4294967296*1000:=Nat.mul_le_mul (by omega) (by omega)
  omega
 ·intro a' c' H' own' grow hnil hrow
  refine hk a' c' H' ⟨?_,own',?_⟩ grow hrow
  ·refine⟨Nat.le_trans h.ext.size grow.size,fun k o hk hn=>?_⟩
   refine grow.ext.get _ _ (h.ext.get _ _ hk hn) ?_
   intro hm
   rw[Option.mem_toList] at hm
   have:=h.row _ hm
   have:=lt_of_get hk
   omega
  ·intro r hr
   rcases hrow with h1|h1
   ·exact h.row r (by rw[←h1];exact hr)
   ·have:r=H.size:=by
     have:=hr.symm.trans h1;simpa using this
    have:=h.ext.size
    omega
theorem Lines_ok (s:ByteArray) (H:Heap) (hs:s.size<4294967200):
 Fn PP fq116 #[.string s] H fun v H'=> ∃g n c,v= .slice (some ⟨g,0,none⟩) n c∧Fresh H H' tq9 1 (some ⟨g,0,none⟩) n c ((linesM s).map .string):=by
 refine Lines.enter s H _ ?_
 unfold Lines.W
 refine⟨fun z H'=> ∃(fr i:Nat) (ss:List ByteArray),z.2.1=fr∧z.2.2.1=i∧fr≤i∧i≤s.size∧z.1.2.1≤i∧Fresh H H' tq9 1 z.1.1 z.1.2.1 z.1.2.2 (ss.map .string)∧linesM s=ss++linesGo s fr i,
  fun z _=>s.size -z.2.2.1.toNat,⟨0,0,[],rfl,rfl,Nat.le_refl _,Nat.zero_le _,Nat.le_refl _,Fresh.nil H tq9 1,rfl⟩,?_⟩
 rintro⟨⟨a,n,c⟩,_,_,_⟩ H2 ⟨fr,i,ss,hfr,hi,hfi,his,hni,hf,hss⟩
 dsimp only at hfr hi hf hni⊢
 subst hfr hi
 refine fkI (fun hlt=>?_) (fun hge=>?_)
 ·have hlt':i<s.size:=by simp at hlt;exact hlt
  unfold linesGo at hss
  rw[if_pos hlt'] at hss
  refine⟨((bt s i !=10&&bt s i !=13),()),⟨by omega,fkI (fun h1=>⟨by omega,?_,rfl⟩) (fun h1=>⟨?_,rfl⟩)⟩,?_⟩
  ·rw[h1];rfl
  ·rw[h1];rfl
  refine fkI (fun h1=>?_) (fun h1=>?_)
  ·dsimp only at h1
   rw[if_pos h1] at hss
   rw[wrap1 (by omega)]
   exact⟨⟨fr,i+1,ss,rfl,rfl,by omega,by omega,by omega,hf,hss⟩,by omega⟩
  ·dsimp only at h1
   rw[if_neg (by rw[h1];simp)] at hss
   refine⟨by omega,nbI fun H4 e4 hb4 ext4 hs4=>?_⟩
   refine(hf.grow ext4).append hb4 rfl (by simp[Value.oneCell']) (by omega) (by omega) ?_
   intro a' c' H7 hf7 _ _
   rw[wrap1 (k:=i) (by omega)]
   refine⟨((bt s i==13&&(decide (i+1<s.size)&&bt s (i+1:Nat)==10)),()),⟨by omega,?_⟩,?_⟩
   ·refine fkI (fun h2=>fkI (fun h3=>?_) (fun h3=>?_)) (fun h2=>?_)
    ·have h3':i+1<s.size:=by simp at h3;omega
     refine⟨by omega,?_,rfl⟩
     simp only[h2,h3',decide_true,Bool.true_and]
    ·have h3': ¬i+1<s.size:=by simp at h3;omega
     refine⟨?_,rfl⟩
     simp only[h2,h3',decide_false,Bool.true_and,Bool.false_and]
    ·refine⟨?_,rfl⟩
     simp only[h2,Bool.false_and]
   ·have hcell:ss.map Value.string++ #[Value.string (s.extract (fr:Int).toNat (i:Int).toNat)].toList=(ss++[s.extract fr i]).map .string:=by simp
    rw[hcell] at hf7
    refine⟨fun y H'=>H7=H'∧y.1=(if(bt s i==13&&(decide (i+1<s.size)&&bt s (i+1:Nat)==10))=true then((i+1:Nat):Int) else(i:Int)),?_,?_⟩
    ·refine fkI (fun h2=>⟨rfl,?_⟩) (fun h2=>⟨rfl,?_⟩)
     ·dsimp only at h2;rw[if_pos h2]
     ·dsimp only at h2;rw[if_neg (by rw[h2];simp)]
    ·rintro⟨y,_⟩ _ ⟨rfl,hy⟩
     dsimp only at hy⊢
     by_cases h2:(bt s i==13&&(decide (i+1<s.size)&&bt s (i+1:Nat)==10))=true
     ·rw[if_pos h2] at hy hss
      subst hy
      have hl:i+1<s.size:=by simp at h2;omega
      rw[wrap1 (by omega)]
      exact⟨⟨i+2,i+2,ss++[s.extract fr i],rfl,rfl,by omega,by omega,by omega,hf7,by rw[hss];simp⟩,by omega⟩
     ·rw[if_neg h2] at hy hss
      subst hy
      rw[wrap1 (by omega)]
      exact⟨⟨i+1,i+1,ss++[s.extract fr i],rfl,rfl,by omega,by omega,by omega,hf7,by rw[hss];simp⟩,by omega⟩
 ·have hge': ¬i<s.size:=by simp at hge;omega
  unfold linesGo at hss
  rw[if_neg hge'] at hss
  refine⟨by omega,nbI fun H4 e4 hb4 ext4 hs4=>?_⟩
  refine(hf.grow ext4).append hb4 rfl (by simp[Value.oneCell']) (by omega) (by omega) ?_
  intro a' c' H7 hf7 _ _
  have hcell:ss.map Value.string++ #[Value.string (s.extract (fr:Int).toNat s.size)].toList=(linesM s).map .string:=by rw[hss];simp
  rw[hcell] at hf7
  cases a' with
  |none=>
   have:=hf7.own.2
   rcases this with⟨_,h,_⟩|⟨g,cur,h,_⟩
   ·omega
   ·cases h
  |some ad=>
   have:=hf7.own.2
   rcases this with⟨h,_⟩|⟨g,cur,h,_⟩
   ·cases h
   ·cases h
    exact rkI ⟨g,n+1,c',rfl,hf7⟩
def blankM (e:ByteArray):Bool:=decide ((leadM e:Int)=e.size)
def shortM (n:Int) (e:ByteArray):Bool:=blankM e&&(decide (0<e.size)&&decide ((e.size:Int)<n))
def plainM (raw:ByteArray):Bool:=
 !(decide (0<commonM (linesM raw))&&decide ((leadM ((linesM raw).headD (bs [])):Int)<((linesM raw).headD (bs [])).size))&&(linesM raw).tail.all fun e=>!shortM (commonM (linesM raw)) e
theorem commonM_nonneg (l:List ByteArray):0≤commonM l:=by unfold commonM;split<;>omega
theorem plainBlock_ok (raw:ByteArray) (H:Heap) (hs:raw.size<268435456):Fn PP fq85 #[.string raw] H fun v H'=>v= .bool (plainM raw)∧Ext [] H H':=by
 refine plainBlock.enter raw H _ ?_
 unfold plainBlock.W
 refine(Lines_ok raw H (by omega)).mono ?_
 rintro _ H2 ⟨g,n,c,rfl,hf⟩
 refine⟨(some ⟨g,0,none⟩,n,c),rfl,?_⟩
 have hA:=StrsAt.of_own hf.own
 obtain⟨h0,hlen,hsz⟩:=linesM_ne raw
 have hn:=hA.1
 dsimp only
 refine(common_ok g 0 n c _ H2 hA (fun s hs'=>by have:=hsz s hs';omega) (by omega) h0).mono ?_
 rintro _ _ ⟨rfl,rfl⟩
 refine⟨_,rfl,?_⟩
 obtain⟨e0,r0,he0⟩: ∃e0 r0,linesM raw=e0::r0:=by
  cases h:linesM raw with
  |nil=>exact absurd h h0
  |cons a b=>exact⟨a,b,rfl⟩
 have hp:plainM raw=(!(decide (0<commonM (linesM raw))&&decide ((leadM e0:Int)<e0.size))&&r0.all fun e=>!shortM (commonM (linesM raw)) e):=by
  unfold plainM;rw[he0];rfl
 have ht:(linesM raw).tail=r0:=by rw[he0];rfl
 generalize hcm:commonM (linesM raw)=m at hp⊢
 have loop:(decide (0<m)&&decide ((leadM e0:Int)<e0.size))=false→loopK (Int×Unit) (1,()) H2 fun z18 H19 next20=>
  forkB (decide (z18.1<((n:Nat):Int)))
  ((IxOk (some ⟨g,0,none⟩) z18.1 n)∧
    loadW H19 false 1 ⟨(blkOf (some ⟨g,0,none⟩)),(offOf (some ⟨g,0,none⟩)+z18.1.toNat*1),none⟩ pStr fun(x21:ByteArray)=>
    (IxOk (some ⟨g,0,none⟩) z18.1 n)∧
    loadW H19 false 1 ⟨(blkOf (some ⟨g,0,none⟩)),(offOf (some ⟨g,0,none⟩)+z18.1.toNat*1),none⟩ pStr fun(x22:ByteArray)=>
    callW PP fq118 #[(.string x21)] H19 (pInt .i64) fun(x23:Int) H24=>
    loadC H24 false 1 ⟨(blkOf (some ⟨g,0,none⟩)),(offOf (some ⟨g,0,none⟩)+z18.1.toNat*1),none⟩=some (.string x22)∧
    forkB (x23==((x22.size:Nat):Int))
    ((IxOk (some ⟨g,0,none⟩) z18.1 n)∧
      loadW H24 false 1 ⟨(blkOf (some ⟨g,0,none⟩)),(offOf (some ⟨g,0,none⟩)+z18.1.toNat*1),none⟩ pStr fun(x25:ByteArray)=>
      forkB (decide (((x25.size:Nat):Int)>0))
      ((IxOk (some ⟨g,0,none⟩) z18.1 n)∧
        loadW H24 false 1 ⟨(blkOf (some ⟨g,0,none⟩)),(offOf (some ⟨g,0,none⟩)+z18.1.toNat*1),none⟩ pStr fun(x26:ByteArray)=>
        forkB (decide (((x26.size:Nat):Int)<m))
        (retK (some [(.bool false)]) H24 fun v H'=>v= .bool (plainM raw)∧Ext [] H H')
        (next20 ((IntKind.i64.wrap (z18.1+1)),()) H24))
      (next20 ((IntKind.i64.wrap (z18.1+1)),()) H24))
    (next20 ((IntKind.i64.wrap (z18.1+1)),()) H24))
  (retK (some [(.bool true)]) H19 fun v H'=>v= .bool (plainM raw)∧Ext [] H H'):=by
  intro hd
  rw[hd] at hp
  simp only[Bool.not_false,Bool.true_and] at hp
  refine⟨fun z H'=>H2=H'∧ ∃k:Nat,z.1=k∧1≤k∧k≤n∧plainM raw=((linesM raw).drop k).all fun e=>!shortM m e,fun z _=>n -z.1.toNat,
   ⟨rfl,1,rfl,Nat.le_refl _,by rw[hn,he0];simp,by rw[hp,←ht,List.drop_one]⟩,?_⟩
  rintro⟨_,_⟩ _ ⟨rfl,k,hk,hk1,hkn,hgo⟩
  dsimp only at hk⊢
  subst hk
  refine fkI (fun hlt=>?_) (fun hge=>?_)
  ·have hlt':k<(linesM raw).length:=by simp at hlt;omega
   have hi:(linesM raw)[k]?=some (linesM raw)[k]:=List.getElem?_eq_getElem hlt'
   rw[List.drop_eq_getElem_cons hlt'] at hgo
   simp only[List.all_cons] at hgo
   have hz:=hsz _ (List.getElem_mem hlt')
   generalize (linesM raw)[k]=s at hi hgo hz
   have hL:=hA.load hi
   refine⟨hL.1,_,hL.2,hL.1,_,hL.2,(leading_ok s H2 (by omega)).mono ?_⟩
   rintro _ _ ⟨rfl,rfl⟩
   refine⟨_,rfl,hL.2,?_⟩
   rw[wrap1 (by omega)]
   have next:shortM m s=false→(H2=H2∧ ∃k_1:Nat,((k+1:Nat):Int)=k_1∧1≤k_1∧k_1≤n∧plainM raw=((linesM raw).drop k_1).all fun e=>!shortM m e)∧n -((k+1:Nat):Int).toNat<n -(k:Int).toNat:=by
    intro h
    rw[h] at hgo
    exact⟨⟨rfl,k+1,rfl,by omega,by omega,by simpa using hgo⟩,by omega⟩
   refine fkI (fun h1=>?_) (fun h1=>next ?_)
   ·have h1':(leadM s:Int)=s.size:=by simpa using h1
    refine⟨hL.1,_,hL.2,fkI (fun h2=>?_) (fun h2=>next ?_)⟩
    ·have h2':0<s.size:=by have:=of_decide_eq_true h2;omega
     refine⟨hL.1,_,hL.2,fkI (fun h3=>?_) (fun h3=>next ?_)⟩
     ·have:shortM m s=true:=by simp only[shortM,blankM,h1',h2',decide_true,Bool.true_and];exact h3
      rw[this] at hgo
      refine rkI ⟨?_,hf.ext⟩
      rw[hgo];rfl
     ·simp only[shortM,blankM,h1',h2',decide_true,Bool.true_and];exact h3
    ·have h2': ¬0<s.size:=by have:=of_decide_eq_false h2;omega
     simp only[shortM,h2',decide_false,Bool.false_and,Bool.and_false]
   ·have h1': ¬(leadM s:Int)=s.size:=by simpa using h1
    simp only[shortM,blankM,h1',decide_false,Bool.false_and]
  ·have hge':k=(linesM raw).length:=by simp at hge;omega
   rw[hge',List.drop_length] at hgo
   exact rkI ⟨by rw[hgo];rfl,hf.ext⟩
 have hi0:(linesM raw)[0]?=some e0:=by rw[he0];rfl
 have hL:=hA.load hi0
 refine fkI (fun h1=>?_) (fun h1=>loop ?_)
 ·have h1':0<m:=by simpa using h1
  refine⟨hL.1,_,hL.2,hL.1,_,hL.2,(leading_ok e0 H2 (by have:=hsz e0 (by rw[he0];simp);omega)).mono ?_⟩
  rintro _ _ ⟨rfl,rfl⟩
  refine⟨_,rfl,hL.2,fkI (fun h2=>?_) (fun h2=>loop ?_)⟩
  ·refine rkI ⟨?_,hf.ext⟩
   rw[hp,h2];simp[h1',retV]
  ·rw[h2];simp
 ·have h1': ¬0<m:=by simpa using h1
  simp[h1']
def cutM (m:Int) (e:ByteArray):ByteArray:=e.extract (if(e.size:Int)<m then(e.size:Int) else m).toNat e.size
def cutsM (m:Int):List ByteArray→List ByteArray
 |[]=> []
 |e::r=>e::r.map (cutM m)
def joinGoM (out:ByteArray) (k:Nat):List ByteArray→ByteArray
 |[]=>out
 |e::r=>joinGoM ((if 0<k then out++bs [10] else out)++e) (k+1) r
def trimM (l:List ByteArray):List ByteArray:=(l.reverse.dropWhile blankM).reverse
def blockM (raw:ByteArray):ByteArray:=joinGoM (bs []) 0 (trimM ((cutsM (commonM (linesM raw)) (linesM raw)).dropWhile blankM))
theorem OwnS.store {H:Heap} {e:TypeId} {g n c:Nat} {xs:List Value} (h:OwnS H e 1 (some ⟨g,0,none⟩) n c xs) {k o:Nat} (hk:k<n) (ho:o=k) {v:Value} (hv:one v=true) {K:Heap→Prop}
 (hK: ∀H',OwnS H' e 1 (some ⟨g,0,none⟩) n c (xs.set k v)→Ext [g] H H'→H'.size=H.size→K H'):storeW H ⟨g,o,none⟩ [v] K:=by
 subst ho
 obtain⟨cur,_,hg,hnc,hcm,hs,ht⟩:=h.row rfl
 refine swI hg (by simp;omega) rfl (by simp[oneL,hv]) fun H' e1 hg' ext hs'=>hK H' ?_ ext hs'
 refine⟨by rw[List.length_set];exact h.1,.inr ⟨g,_,rfl,hg',hnc,hcm,by simp[writeAt,hs],?_⟩⟩
 simp only[writeAt,Array.toList_setIfInBounds]
 rw[List.take_set,ht]
theorem cutM_size (m:Int) (e:ByteArray):(cutM m e).size≤e.size:=by unfold cutM;rw[ByteArray.size_extract];omega
theorem StrsAt.slice_lo {H:Heap} {a:Option Addr} {n c:Nat} {e:ByteArray} {ss:List ByteArray} (h:StrsAt H a n (e::ss)) (hc:n≤c):StrsAt H (slcA a c 1 1) (n -1) ss:=by
 have hl:=h.1
 refine⟨by simp at hl;omega,?_⟩
 rcases h.2 with h0|⟨g,o,cs,e',fr,rfl,hg,hr⟩
 ·simp at hl;omega
 ·by_cases hc1:c=1
  ·left;omega
  ·right
   refine⟨g,o+1,cs,e',fr,by simp[slcA,slcO,hc1],hg,fun i s hi=>?_⟩
   have:=hr (i+1) s (by simpa using hi)
   rw[show o+1+i=o+(i+1) by omega];exact this
theorem StrsAt.slice_hi {H:Heap} {a:Option Addr} {n c:Nat} {ss:List ByteArray} (h:StrsAt H a n ss) {m:Nat} (hm:m≤n):StrsAt H (slcA a c 0 1) m (ss.take m):=by
 have hl:=h.1
 refine⟨by rw[List.length_take];omega,?_⟩
 rcases h.2 with h0|⟨g,o,cs,e',fr,rfl,hg,hr⟩
 ·left;omega
 ·right
  refine⟨g,o,cs,e',fr,by simp[slcA,slcO],hg,fun i s hi=>?_⟩
  rw[List.getElem?_take] at hi
  split at hi
  ·exact hr i s hi
  ·cases hi
theorem trimM_last {l:List ByteArray} {e:ByteArray} (h:blankM e=true):trimM (l++[e])=trimM l:=by
 unfold trimM;rw[List.reverse_append];simp[h]
theorem trimM_stop {l:List ByteArray} {e:ByteArray} (h:blankM e=false):trimM (l++[e])=l++[e]:=by
 unfold trimM;rw[List.reverse_append];simp[h]
theorem BlockValue_ok (raw:ByteArray) (H:Heap) (hs:raw.size<268435456):Fn PP fq86 #[.string raw] H fun v H'=>v= .string (blockM raw)∧Ext [] H H':=by
 refine BlockValue.enter raw H _ ?_
 unfold BlockValue.W
 refine(Lines_ok raw H (by omega)).mono ?_
 rintro _ H2 ⟨g,n,c,rfl,hf⟩
 refine⟨(some ⟨g,0,none⟩,n,c),rfl,?_⟩
 have hA:=StrsAt.of_own hf.own
 obtain⟨h0,hlen,hsz⟩:=linesM_ne raw
 have hn:=hA.1
 have hgH:H.size≤g:=hf.row g rfl
 dsimp only
 refine(common_ok g 0 n c _ H2 hA (fun s hs'=>by have:=hsz s hs';omega) (by omega) h0).mono ?_
 rintro _ _ ⟨rfl,rfl⟩
 refine⟨_,rfl,?_⟩
 have hm0:=commonM_nonneg (linesM raw)
 have hb:blockM raw=joinGoM (bs []) 0 (trimM ((cutsM (commonM (linesM raw)) (linesM raw)).dropWhile blankM)):=rfl
 generalize commonM (linesM raw)=m at hm0 hb⊢
 generalize linesM raw=L at*
 have hC:(cutsM m L).length=L.length:=by cases L<;>simp[cutsM]
 have hC1:(cutsM m L).take 1=L.take 1:=by cases L<;>simp[cutsM]
 have hCk: ∀k,1≤k→ ∀e,L[k]?=some e→(cutsM m L)[k]?=some (cutM m e):=by
  intro k hk e he
  cases L with
  |nil=>simp at he
  |cons a r=>
   obtain⟨k,rfl⟩: ∃k',k=k'+1:=⟨k -1,by omega⟩
   simp at he
   simp[cutsM,he]
 have hCs: ∀e∈cutsM m L,e.size≤raw.size:=by
  intro e he
  cases L with
  |nil=>simp[cutsM] at he
  |cons a r=>
   simp only[cutsM,List.mem_cons,List.mem_map] at he
   rcases he with rfl|⟨e',he',rfl⟩
   ·exact hsz _ (by simp)
   ·exact Nat.le_trans (cutM_size _ _) (hsz e' (by simp[he']))
 refine⟨fun z H'=> ∃k:Nat,z.1=k∧1≤k∧k≤n∧Fresh H H' tq9 1 (some ⟨g,0,none⟩) n c (((cutsM m L).take k++L.drop k).map .string),fun z _=>n -z.1.toNat,
  ⟨1,rfl,Nat.le_refl _,?_,by rw[hC1,List.take_append_drop];exact hf⟩,?_⟩
 ·cases L with
  |nil=>exact absurd rfl h0
  |cons _ _=>simp at hn;omega
 rintro⟨_,_⟩ H3 ⟨k,hk,hk1,hkn,hf3⟩
 dsimp only at hk⊢
 subst hk
 refine fkI (fun hlt=>?_) (fun hge=>?_)
 ·have hlt':k<L.length:=by simp at hlt;omega
  have hi:L[k]?=some L[k]:=List.getElem?_eq_getElem hlt'
  have hz:=hsz _ (List.getElem_mem hlt')
  generalize L[k]=e at hi hz
  have hck:=hCk k hk1 e hi
  have hcur:((cutsM m L).take k++L.drop k)[k]?=some e:=by
   rw[List.getElem?_append_right (by rw[List.length_take];omega),List.length_take,List.getElem?_drop]
   rw[show k+(k -min k (cutsM m L).length)=k by omega];exact hi
  have hL:=(StrsAt.of_own hf3.own).load hcur
  refine⟨hL.1,_,hL.2,hL.1,_,hL.2,?_⟩
  refine⟨by split<;>omega,hL.1,?_⟩
  refine OwnS.store (k:=k) hf3.own (by omega) (by simp[offOf]) rfl ?_
  intro H4 own4 ext4 hs4
  rw[wrap1 (by omega)]
  refine⟨⟨k+1,rfl,by omega,by omega,⟨?_,?_,hf3.row⟩⟩,by omega⟩
  ·refine⟨Nat.le_trans hf3.ext.size ext4.size,fun j o hj hn=>ext4.get _ _ (hf3.ext.get _ _ hj hn) ?_⟩
   have:=lt_of_get hj
   simp;omega
  ·have:(((cutsM m L).take k++L.drop k).map Value.string).set k (.string (e.extract (if(e.size:Int)<m then(e.size:Int) else m).toNat e.size))=((cutsM m L).take (k+1)++L.drop (k+1)).map .string:=by
    rw[←List.map_set]
    congr 1
    apply List.ext_getElem?
    intro j
    rw[List.getElem?_set]
    by_cases hjk:k=j
    ·subst hjk
     rw[if_pos rfl,if_pos (by rw[List.length_append,List.length_take,List.length_drop];omega)]
     rw[List.getElem?_append_left (by rw[List.length_take];omega),List.getElem?_take,if_pos (Nat.lt_succ_self k),hck]
     rfl
    ·rw[if_neg hjk]
     rcases Nat.lt_or_ge j k with hj|hj
     ·rw[List.getElem?_append_left (by rw[List.length_take];omega),List.getElem?_append_left (by rw[List.length_take];omega),List.getElem?_take,List.getElem?_take,if_pos hj,if_pos (by omega)]
     ·rw[List.getElem?_append_right (by rw[List.length_take];omega),List.getElem?_append_right (by rw[List.length_take];omega),List.length_take,List.length_take,List.getElem?_drop,List.getElem?_drop]
      rw[show k+(j -min k (cutsM m L).length)=j by omega,show k+1+(j -min (k+1) (cutsM m L).length)=j by omega]
   rw[←this];exact own4
 ·have hge':k=L.length:=by simp at hge;omega
  have hcur:(cutsM m L).take k++L.drop k=cutsM m L:=by
   rw[hge',List.drop_length,List.append_nil,←hC,List.take_length]
  rw[hcur] at hf3
  have hS:=StrsAt.of_own hf3.own
  have hnc:n≤c:=(hf3.own.row rfl).choose_spec.2.2.1
  have hcM:c≤maxLen:=(hf3.own.row rfl).choose_spec.2.2.2.1
  simp only[maxLen] at hcM
  clear hcur hC hC1 hCk hsz hf
  generalize cutsM m L=L1 at*
  refine⟨fun y H'=>H3=H'∧ ∃ss,StrsAt H3 y.1.1 y.1.2.1 ss∧y.1.2.1≤n∧y.1.2.1≤y.1.2.2∧y.1.2.2≤c∧ss=L1.dropWhile blankM∧ ∀e∈ss,e.size≤raw.size,?_,?_⟩
  ·refine⟨fun z H'=>H3=H'∧ ∃ss,StrsAt H3 z.1.1 z.1.2.1 ss∧z.1.2.1≤n∧z.1.2.1≤z.1.2.2∧z.1.2.2≤c∧ss.dropWhile blankM=L1.dropWhile blankM∧ ∀e∈ss,e.size≤raw.size,fun z _=>z.1.2.1,
    ⟨rfl,L1,hS,Nat.le_refl _,hnc,Nat.le_refl _,rfl,hCs⟩,?_⟩
   rintro⟨⟨a,n',c'⟩,_⟩ _ ⟨rfl,ss,hss,hn',hc',hcc,hd,hsz⟩
   dsimp only at hss hn' hc' hcc⊢
   cases ss with
   |nil=>
    have hl:=hss.1
    refine fkI (fun hlt=>?_) (fun _=>⟨rfl,[],hss,hn',hc',hcc,by rw[←hd];rfl,hsz⟩)
    simp at hl hlt;omega
   |cons e ss=>
    have hl:=hss.1
    refine fkI (fun _=>?_) (fun hge=>?_)
    ·have hL:=hss.load (i:=0) (s:=e) rfl
     refine⟨hL.1,_,hL.2,hL.1,_,hL.2,(leading_ok e H3 (by have:=hsz e (by simp);omega)).mono ?_⟩
     rintro _ _ ⟨rfl,rfl⟩
     refine⟨_,rfl,hL.2,fkI (fun hb=>?_) (fun hb=>⟨rfl,e::ss,hss,hn',hc',hcc,?_,hsz⟩)⟩
     ·have hb':blankM e=true:=by simpa [blankM] using hb
      simp at hl
      refine⟨by omega,⟨rfl,ss,hss.slice_lo hc',?_,?_,?_,?_,fun e' he'=>hsz e' (by simp[he'])⟩,?_⟩
      ·show n' -1≤n;omega
      ·show n' -1≤c' -1;omega
      ·show c' -1≤c;omega
      ·rw[←hd];simp[hb']
      ·show n' -1<n';omega
     ·have hb':blankM e=false:=by simpa [blankM] using hb
      rw[←hd];simp[hb']
    ·simp at hl hge;omega
  rintro⟨⟨a,n',c'⟩,_⟩ _ ⟨rfl,ss,hss,hn',hc',hcc,hd,hsz⟩
  dsimp only at hss hn' hc' hcc⊢
  rw[←hd] at hb
  clear hd hS hCs
  refine⟨fun y H'=>H3=H'∧ ∃ss',StrsAt H3 y.1.1 y.1.2.1 ss'∧y.1.2.1≤n∧ss'=trimM ss∧ ∀e∈ss',e.size≤raw.size,?_,?_⟩
  ·refine⟨fun z H'=>H3=H'∧ ∃ss',StrsAt H3 z.1.1 z.1.2.1 ss'∧z.1.2.1≤n∧z.1.2.1≤z.1.2.2∧z.1.2.2≤c∧trimM ss'=trimM ss∧ ∀e∈ss',e.size≤raw.size,fun z _=>z.1.2.1,
    ⟨rfl,ss,hss,hn',hc',hcc,rfl,hsz⟩,?_⟩
   rintro⟨⟨a2,n2,c2⟩,_⟩ _ ⟨rfl,s2,hs2,hn2,hc2,hcc2,ht,hsz2⟩
   dsimp only at hs2 hn2 hc2 hcc2⊢
   have hl:=hs2.1
   rcases List.eq_nil_or_concat s2 with rfl|⟨r,e,rfl⟩
   ·refine fkI (fun hlt=>?_) (fun _=>⟨rfl,[],hs2,hn2,ht,hsz2⟩)
    simp at hl hlt;omega
   ·refine fkI (fun _=>?_) (fun hge=>?_)
    ·have hl':n2=r.length+1:=by simpa using hl
     have hw:IntKind.i64.wrap ((n2:Int) -1)=(r.length:Int):=by rw[i64w (by omega)];omega
     rw[hw]
     have hL:=hs2.load (i:=r.length) (s:=e) (by simp)
     refine⟨hL.1,_,hL.2,hL.1,_,hL.2,(leading_ok e H3 (by have:=hsz2 e (by simp);omega)).mono ?_⟩
     rintro _ _ ⟨rfl,rfl⟩
     refine⟨_,rfl,hL.2,fkI (fun hb=>?_) (fun hb=>⟨rfl,_,hs2,hn2,?_,hsz2⟩)⟩
     ·have hb':blankM e=true:=by simpa [blankM] using hb
      have h3:=hs2.slice_hi (c:=c2) (m:=r.length) (by omega)
      simp only[List.concat_eq_append,List.take_left'] at h3
      refine⟨by omega,⟨rfl,r,h3,?_,?_,hcc2,?_,fun e' he'=>hsz2 e' (by simp[he'])⟩,?_⟩
      ·show(r.length:Int).toNat≤n;omega
      ·show(r.length:Int).toNat≤c2;omega
      ·rw[←ht,List.concat_eq_append,trimM_last hb']
      ·show(r.length:Int).toNat<n2;omega
     ·have hb':blankM e=false:=by simpa [blankM] using hb
      rw[←ht,List.concat_eq_append,trimM_stop hb']
    ·simp at hl hge;omega
  rintro⟨⟨a2,n2,c2⟩,_⟩ _ ⟨rfl,s2,hs2,hn2,ht,hsz2⟩
  dsimp only at hs2 hn2⊢
  rw[←ht] at hb
  have hl:=hs2.1
  refine⟨fun z H'=>H3=H'∧ ∃k:Nat,z.2.1=k∧k≤n2∧blockM raw=joinGoM z.1 k (s2.drop k)∧z.1.size≤k*(raw.size+1),fun z _=>n2 -z.2.1.toNat,
   ⟨rfl,0,rfl,Nat.zero_le _,by rw[hb];rfl,(show(0:Nat)≤_ from Nat.zero_le _)⟩,?_⟩
  rintro⟨out,_,_⟩ _ ⟨rfl,j,hj,hjn,hgo,ho⟩
  dsimp only at hj hgo ho⊢
  subst hj
  refine fkI (fun hlt=>?_) (fun hge=>?_)
  ·have hlt':j<s2.length:=by simp at hlt;omega
   have hi:s2[j]?=some s2[j]:=List.getElem?_eq_getElem hlt'
   rw[List.drop_eq_getElem_cons hlt'] at hgo
   simp only[joinGoM] at hgo
   have hz:=hsz2 _ (List.getElem_mem hlt')
   generalize s2[j]=e at hi hgo hz
   have hL:=hs2.load hi
   have hbound:(j+1)*(raw.size+1)≤268435456*268435456:=Nat.mul_le_mul (by omega) (by omega)
   have hsucc:(j+1)*(raw.size+1)=j*(raw.size+1)+raw.size+1:=by rw[Nat.succ_mul];omega
   have e1:(bs [10]).size=1:=rfl
   refine⟨fun y H'=>H3=H'∧y.1=(if 0<j then out++bs [10] else out),?_,?_⟩
   ·refine fkI (fun h1=>⟨?_,rfl,?_⟩) (fun h1=>⟨rfl,?_⟩)
    ·rw[e1];omega
    ·have:0<j:=by simp at h1;omega
     rw[if_pos this]
    ·have: ¬0<j:=by simp at h1;omega
     rw[if_neg this]
   ·rintro⟨y,_⟩ _ ⟨rfl,hy⟩
    dsimp only at hy⊢
    rw[←hy] at hgo
    have hys:y.size≤j*(raw.size+1)+1:=by
     rw[hy];split
     ·rw[ByteArray.size_append,e1];omega
     ·omega
    rw[wrap1 (by omega)]
    refine⟨hL.1,_,hL.2,by omega,⟨rfl,j+1,rfl,by omega,hgo,?_⟩,by omega⟩
    rw[ByteArray.size_append,hsucc];omega
  ·have hge':j=s2.length:=by simp at hge;omega
   rw[hge',List.drop_length] at hgo
   exact rkI ⟨by rw[hgo];rfl,hf3.ext⟩
theorem startsM_le {s t:ByteArray} {a:Nat} (h:startsM s a t=true):a+t.size≤s.size:=by
 unfold startsM at h;simp at h;exact h.1
theorem LexInv.done {H0 H:Heap} {x:Nat} {σ σ':LexSt} {ts:List Tk} (h:LexInv H0 H x σ' ts) (hs:σ'.s=σ.s) (hp:σ.pos<σ'.pos):Stepped H0 H x σ:=⟨σ',ts,h,hs,.inr hp⟩
theorem bytes_eq {a b:ByteArray} (h:(a.toList==b.toList)=true):a=b:=by
 have:=eq_of_beq h
 rw[Go.ByteArray.toList_eq,Go.ByteArray.toList_eq] at this
 cases a;cases b
 congr 1
 exact Array.toList_inj.1 this
def quotes3:ByteArray:=bs [34,34,34]
theorem bytes_beq (a b:ByteArray):(a.toList==b.toList)=decide (a=b):=by
 cases h:(a.toList==b.toList) with
 |true=>rw[bytes_eq h];simp
 |false=>
  symm
  rw[decide_eq_false_iff_not]
  rintro rfl
  simp at h
abbrev eB:ByteArray:=bs []
abbrev onB:ByteArray:=bs [111,110]
abbrev trueB:ByteArray:=bs [116,114,117,101]
abbrev falseB:ByteArray:=bs [102,97,108,115,101]
inductive Tr where
 |node (n:Nd) (ks:List Tr)
def Tr.n:Tr→Nd
 | .node n _=>n
def Tr.ks:Tr→List Tr
 | .node _ ks=>ks
mutual
def flat:Tr→List Nd
 | .node n ks=>n::flatL ks
def flatL:List Tr→List Nd
 |[]=> []
 |t::r=>flat t++flatL r
end
def At (ds:List Nd) (p:Nat) (l:List Nd):Prop:= ∃post,ds.drop p=l++post
theorem At.le {ds l:List Nd} {p:Nat} (h:At ds p l) (hp:p≤ds.length):p+l.length≤ds.length:=by
 obtain⟨post,h⟩:=h
 have:=congrArg List.length h
 simp at this;omega
theorem At.left {ds a b:List Nd} {p:Nat} (h:At ds p (a++b)):At ds p a:=by
 obtain⟨post,h⟩:=h;exact⟨b++post,by rw[h,List.append_assoc]⟩
theorem At.right {ds a b:List Nd} {p:Nat} (h:At ds p (a++b)):At ds (p+a.length) b:=by
 obtain⟨post,h⟩:=h
 refine⟨post,?_⟩
 rw[←List.drop_drop,h,List.append_assoc,List.drop_left]
theorem At.tail {ds l:List Nd} {n:Nd} {p:Nat} (h:At ds p (n::l)):At ds (p+1) l:=by
 have:At ds p ([n]++l):=h
 exact this.right
theorem At.kids {ds:List Nd} {n:Nd} {ks:List Tr} {p:Nat} (h:At ds p (flat (.node n ks))):At ds (p+1) (flatL ks):=by
 simp only[flat] at h;exact h.tail
theorem At.trans {ds a b:List Nd} {p q:Nat} (h:At ds p a) (k:At a q b) (hq:q≤a.length):At ds (p+q) b:=by
 obtain⟨x,hx⟩:=h
 obtain⟨y,hy⟩:=k
 refine⟨y++x,?_⟩
 rw[←List.drop_drop,hx,List.drop_append_of_le_length hq,hy,List.append_assoc]
def SlcAt (H:Heap) (a:Option Addr) (n:Nat) (vs:List Value):Prop:=
 n=vs.length∧(n=0∨ ∃g o c e fr,a=some ⟨g,o,none⟩∧H[g]?=some (.cells c e fr)∧ ∀i s,vs[i]?=some s→c[o+i]?=some s)
theorem SlcAt.ext {S:List Nat} {H H':Heap} {a:Option Addr} {n:Nat} {vs:List Value} (h:SlcAt H a n vs) (he:Ext S H H') (hs: ∀r,rowOf a=some r→r∉S):SlcAt H' a n vs:=by
 refine⟨h.1,h.2.imp id ?_⟩
 rintro⟨g,o,c,e,fr,rfl,hg,hr⟩
 exact⟨g,o,c,e,fr,rfl,he.get _ _ hg (hs g rfl),hr⟩
theorem SlcAt.load {H:Heap} {a:Option Addr} {n:Nat} {vs:List Value} (h:SlcAt H a n vs) {i:Nat} {v:Value} (hi:vs[i]?=some v):
 IxOk a (i:Int) n∧loadC H false 1 ⟨blkOf a,offOf a+(i:Int).toNat*1,none⟩=some v:=by
 have hlt:=(List.getElem?_eq_some_iff.1 hi).1
 rcases h.2 with h0|⟨g,o,c,e,fr,rfl,hg,hr⟩
 ·have:=h.1;omega
 ·refine⟨ix_some (by omega) (by have:=h.1;omega),?_⟩
  have:=hr i v hi
  simp only[blkOf,offOf,loadC,cellAt,hg]
  have e:(i:Int).toNat*1=i:=by omega
  rw[e];simpa using this
theorem SlcAt.of_own {H:Heap} {e:TypeId} {a:Option Addr} {n c:Nat} {vs:List Value} (h:OwnS H e 1 a n c vs):SlcAt H a n vs:=by
 have hl:n=vs.length:=by have:=h.1;omega
 refine⟨hl,?_⟩
 rcases h.2 with⟨_,h0,_⟩|⟨g,cur,rfl,hg,_,_,_,ht⟩
 ·exact .inl h0
 ·refine .inr ⟨g,0,cur,e,(0,0),rfl,hg,fun i s hi=>?_⟩
  have hlt:=(List.getElem?_eq_some_iff.1 hi).1
  have h2:(cur.toList.take (n*1))[i]?=some s:=by rw[ht];exact hi
  rw[List.getElem?_take,if_pos (by omega)] at h2
  simpa using h2
theorem SlcAt.slice_lo {H:Heap} {a:Option Addr} {n c:Nat} {e:Value} {vs:List Value} (h:SlcAt H a n (e::vs)) (hc:n≤c):SlcAt H (slcA a c 1 1) (n -1) vs:=by
 have hl:=h.1
 refine⟨by simp at hl;omega,?_⟩
 rcases h.2 with h0|⟨g,o,cs,e',fr,rfl,hg,hr⟩
 ·simp at hl;omega
 ·by_cases hc1:c=1
  ·left;omega
  ·right
   refine⟨g,o+1,cs,e',fr,by simp[slcA,slcO,hc1],hg,fun i s hi=>?_⟩
   have:=hr (i+1) s (by simpa using hi)
   rw[show o+1+i=o+(i+1) by omega];exact this
end Go.Vx
