/- A part of the proof of what the last text of this claim says: PA9, PA10, PA11, PB1, PB2, PB3, PB4, PB5, PB6. Conditions: none. -/
import Derived.Test.YtkopcepfeeemhaaGreatDoorYDAd
set_option maxRecDepth 10000
namespace Go.Vx
open Go Go.Proofs
def k4w (c:Int):Bool:=c==32||c==9
def k2Y (s:BA) (k:Nat):Nat:=if k<s.size∧k4w (bt s k)=true then k2Y s (k+1) else k
 termination_by s.size -k
 decreasing_by omega
def k1b (s:BA):Nat:=k2Y s 0
theorem khA (s:BA): ∀(n k:Nat),s.size -k=n→k≤s.size→k≤k2Y s k∧k2Y s k≤s.size:=by
 intro n
 induction n with
 |zero=>intro k h hk;unfold k2Y;rw[if_neg (by omega)];omega
 |succ n ih=>
  intro k h hk
  unfold k2Y
  split
  ·have:=ih (k+1) (by omega) (by omega);omega
  ·omega
theorem khB (s:BA):k1b s≤s.size:=(khA s _ 0 rfl (Nat.zero_le _)).2
theorem k6e (s:BA) (H:Heap) (hs:s.size<4294967296):Fn PP fq135 #[.string s] H fun v H'=>v= .int .i64 (k1b s)∧H=H':=by
 refine leading.enter s H _ ?_
 unfold leading.W
 refine⟨fun z H'=>H=H'∧ ∃k:Nat,z.1=k∧k≤s.size∧k1b s=k2Y s k,fun z _=>s.size -z.1.toNat,⟨rfl,0,rfl,Nat.zero_le _,rfl⟩,?_⟩
 rintro⟨_,_⟩ _ ⟨rfl,k,hk,hks,hl⟩
 dsimp only at hk⊢
 subst hk
 refine⟨(decide (k<s.size)&&k4w (bt s k),()),?_,?_⟩
 ·refine fkI (fun h=>?_) (fun h=>?_)
  ·have h':k<s.size:=by simp at h;exact h
   refine⟨by omega,fkI (fun h1=>⟨?_,rfl⟩) (fun h1=>⟨by omega,?_,rfl⟩)⟩
   ·simp only[h',decide_true,Bool.true_and,k4w,h1,Bool.true_or]
   ·simp only[h',decide_true,Bool.true_and,k4w,h1,Bool.false_or]
  ·have h': ¬k<s.size:=by simp at h;omega
   exact⟨by simp only[h',decide_false,Bool.false_and],rfl⟩
 ·unfold k2Y at hl
  refine fkI (fun h=>?_) (fun h=>?_)
  ·simp only[Bool.and_eq_true,decide_eq_true_eq] at h
   rw[if_pos h] at hl
   rw[k0h (by omega)]
   exact⟨⟨rfl,k+1,rfl,h.1,hl⟩,by omega⟩
  ·rw[if_neg (by simpa using h)] at hl
   exact rkI ⟨by rw[hl];rfl,rfl⟩
def k0I (H:Heap) (a:OA) (n:Nat) (ss:List BA):Prop:=
 n=ss.length∧(n=0∨ ∃g o c e fr,a=some ⟨g,o,none⟩∧H[g]?=some (.cells c e fr)∧ ∀i s,ss[i]?=some s→c[o+i]?=some (.string s))
theorem k0I.ext {S:List Nat} {H H':Heap} {a:OA} {n:Nat} {ss:List BA} (h:k0I H a n ss) (he:Ext S H H') (hs: ∀r,k0u a=some r→r∉S):k0I H' a n ss:=by
 refine⟨h.1,h.2.imp id ?_⟩
 rintro⟨g,o,c,e,fr,rfl,hg,hr⟩
 exact⟨g,o,c,e,fr,rfl,he.get _ _ hg (hs g rfl),hr⟩
theorem k0I.load {H:Heap} {a:OA} {n:Nat} {ss:List BA} (h:k0I H a n ss) {i:Nat} {s:BA} (hi:ss[i]?=some s):
 IxOk a (i:Int) n∧k07 H false 1 ⟨k0c a,k0b a+(i:Int).toNat*1,none⟩=some (.string s):=by
 have hlt:=(List.getElem?_eq_some_iff.1 hi).1
 rcases h.2 with h0|⟨g,o,c,e,fr,rfl,hg,hr⟩
 ·have:=h.1;omega
 ·refine⟨k0k (by omega) (by have:=h.1;omega),?_⟩
  have:=hr i s hi
  simp only[k0c,k0b,k07,k1a,hg]
  have e:(i:Int).toNat*1=i:=by omega
  rw[e];simpa using this
theorem k0I.of_own {H:Heap} {e:TypeId} {a:OA} {n c:Nat} {ss:List BA} (h:OwnS H e 1 a n c (ss.map .string)):k0I H a n ss:=by
 have hl:n=ss.length:=by have:=h.1;simp at this;omega
 refine⟨hl,?_⟩
 rcases h.2 with⟨_,h0,_⟩|⟨g,cur,rfl,hg,_,_,_,ht⟩
 ·exact .inl h0
 ·refine .inr ⟨g,0,cur,e,(0,0),rfl,hg,fun i s hi=>?_⟩
  have hlt:=(List.getElem?_eq_some_iff.1 hi).1
  have h2:(cur.toList.take (n*1))[i]?=some (.string s):=by rw[ht];simp[hi]
  rw[List.getElem?_take,if_pos (by omega)] at h2
  simpa using h2
def k0Z:List BA→Int→Int
 |[],out=>out
 |e::r,out=>k0Z r (if decide ((k1b e:Int)<e.size)&&(decide (out<0)||decide ((k1b e:Int)<out)) then(k1b e:Int) else out)
def k1W (l:List BA):Int:=if 0>k0Z l.tail (-1) then 0 else k0Z l.tail (-1)
theorem kbJ (b o n c:Nat) (ss:List BA) (H:Heap) (h:k0I H (some ⟨b,o,none⟩) n ss) (hs: ∀s∈ss,s.size<4294967296) (hn:n<4294967296) (h0:ss≠ []):
 Fn PP fq134 #[.slice (some ⟨b,o,none⟩) n c] H fun v H'=>v= .int .i64 (k1W ss)∧H=H':=by
 refine common.enter b o n c H _ ?_
 unfold common.W
 have hlen:=h.1
 refine⟨fun z H'=>H=H'∧ ∃k:Nat,z.2.1=k∧1≤k∧k≤n∧k0Z ss.tail (-1)=k0Z (ss.drop k) z.1,fun z _=>n -z.2.1.toNat,
  ⟨rfl,1,rfl,Nat.le_refl _,?_,by rw[List.drop_one]⟩,?_⟩
 ·cases ss with
  |nil=>exact absurd rfl h0
  |cons _ _=>simp at hlen;omega
 rintro⟨out,_,_⟩ _ ⟨rfl,k,hk,hk1,hkn,hgo⟩
 dsimp only at hk hgo⊢
 subst hk
 refine fkI (fun hlt=>?_) (fun hge=>?_)
 ·have hlt':k<ss.length:=by simp at hlt;omega
  have hi:ss[k]?=some ss[k]:=List.getElem?_eq_getElem hlt'
  have hd:ss.drop k=ss[k]::ss.drop (k+1):=List.drop_eq_getElem_cons hlt'
  rw[hd] at hgo
  simp only[k0Z] at hgo
  have hz:=hs _ (List.getElem_mem hlt')
  generalize ss[k]=s at hi hgo hz
  refine⟨(h.load hi).1,_,(h.load hi).2,(k6e s H hz).mono ?_⟩
  rintro _ _ ⟨rfl,rfl⟩
  refine⟨_,rfl,?_⟩
  refine⟨(decide ((k1b s:Int)<s.size)&&(decide (out<0)||decide ((k1b s:Int)<out)),()),?_,?_⟩
  ·refine⟨(h.load hi).1,_,(h.load hi).2,fkI (fun h1=>fkI (fun h2=>⟨?_,rfl⟩) (fun h2=>⟨?_,rfl⟩)) (fun h1=>⟨?_,rfl⟩)⟩
   ·rw[h1,h2];rfl
   ·rw[h1,h2];rfl
   ·rw[h1];rfl
  ·rw[k0h (by omega)]
   dsimp only
   refine⟨fun y H'=>H=H'∧k0Z ss.tail (-1)=k0Z (ss.drop (k+1)) y.1,?_,?_⟩
   ·refine fkI (fun h1=>⟨rfl,?_⟩) (fun h1=>⟨rfl,?_⟩)
    ·rw[hgo,h1];rfl
    ·rw[hgo,h1];rfl
   ·rintro⟨y,_⟩ _ ⟨rfl,hy⟩
    exact⟨⟨rfl,k+1,rfl,by omega,by omega,hy⟩,by omega⟩
 ·have hge':k=ss.length:=by simp at hge;omega
  rw[hge',List.drop_length] at hgo
  simp only[k0Z] at hgo
  refine rkI ⟨?_,rfl⟩
  simp only[retV,k1W,hgo]
def k1X (s:BA) (fr i:Nat):List BA:=
 if i<s.size then
  if(bt s i !=10&&bt s i !=13)=true then k1X s fr (i+1)
  else if(bt s i==13&&(decide (i+1<s.size)&&bt s (i+1:Nat)==10))=true then s.extract fr i::k1X s (i+2) (i+2)
  else s.extract fr i::k1X s (i+1) (i+1)
 else[s.extract fr s.size]
 termination_by s.size -i
 decreasing_by all_goals omega
def k0w (s:BA):List BA:=k1X s 0 0
theorem ki3 (s:BA): ∀(n fr i:Nat),s.size -i≤n→k1X s fr i≠ []∧(k1X s fr i).length≤n+1∧ ∀e∈k1X s fr i,e.size≤s.size:=by
 intro n
 induction n with
 |zero=>
  intro fr i h
  unfold k1X
  rw[if_neg (by omega)]
  refine⟨by simp,by simp,fun e he=>?_⟩
  simp at he;subst he;rw[ByteArray.size_extract];omega
 |succ n ih=>
  intro fr i h
  unfold k1X
  split
  ·split
   ·have:=ih fr (i+1) (by omega);exact⟨this.1,by omega,this.2.2⟩
   ·split
    ·have:=ih (i+2) (i+2) (by omega)
     refine⟨by simp,by simp;omega,fun e he=>?_⟩
     rcases List.mem_cons.1 he with rfl|he
     ·rw[ByteArray.size_extract];omega
     ·exact this.2.2 e he
    ·have:=ih (i+1) (i+1) (by omega)
     refine⟨by simp,by simp;omega,fun e he=>?_⟩
     rcases List.mem_cons.1 he with rfl|he
     ·rw[ByteArray.size_extract];omega
     ·exact this.2.2 e he
  ·refine⟨by simp,by simp,fun e he=>?_⟩
   simp at he;subst he;rw[ByteArray.size_extract];omega
theorem k80 (s:BA):k0w s≠ []∧(k0w s).length≤s.size+1∧ ∀e∈k0w s,e.size≤s.size:=ki3 s s.size 0 0 (by omega)
structure Fresh (H0 H:Heap) (e:TypeId) (size:Nat) (a:OA) (n c:Nat) (xs:List Value):Prop where
 ext:Ext [] H0 H
 own:OwnS H e size a n c xs
 row: ∀r,k0u a=some r→H0.size≤r
theorem Fresh.grow {H0 H H':Heap} {e:TypeId} {size:Nat} {a:OA} {n c:Nat} {xs:List Value} (h:Fresh H0 H e size a n c xs) (he:Ext [] H H'):Fresh H0 H' e size a n c xs:=
 ⟨h.ext.trans he,h.own.ext he (by simp),h.row⟩
theorem Fresh.nil (H:Heap) (e:TypeId) (size:Nat):Fresh H H e size none 0 0 []:=⟨Ext.refl _ _,OwnS.nil _ _ _,fun _ h=>by cases h⟩
theorem Fresh.append {H0 H:Heap} {e:TypeId} {size bytes:Nat} {a:OA} {n c:Nat} {xs:List Value} (h:Fresh H0 H e size a n c xs) {b m:Nat} {cs:Array Value} {f:TypeId} {fr:Nat×Nat}
 (hb:H[b]?=some (.cells cs f fr)) (hcs:cs.size=m*size) (h1: ∀u∈cs.toList,u.oneCell'=true) (hn:n+m<4294967296) (hby:bytes<1000) {K:OA→Nat→Heap→Prop}
 (hk: ∀a' c' H',Fresh H0 H' e size a' (n+m) c' (xs++cs.toList)→Grow H H' (k0u a)→(k0u a'=k0u a∨k0u a'=some H.size)→K a' c' H'):
 appK H e size bytes a n c (some ⟨b,0,none⟩) m K:=by
 refine .inr ⟨xs,_,h.own,k2o.of_block hb hcs,h1,by simp only[maxLen];omega,?_,?_⟩
 ·have:(n+m)*bytes≤4294967296*1000:=Nat.mul_le_mul (by omega) (by omega)
  omega
 ·intro a' c' H' own' grow hnil hrow
  refine hk a' c' H' ⟨?_,own',?_⟩ grow hrow
  ·refine⟨Nat.le_trans h.ext.size grow.size,fun k o hk hn=>?_⟩
   refine grow.ext.get _ _ (h.ext.get _ _ hk hn) ?_
   intro hm
   rw[Option.mem_toList] at hm
   have:=h.row _ hm
   have:=k0l hk
   omega
  ·intro r hr
   rcases hrow with h1|h1
   ·exact h.row r (by rw[←h1];exact hr)
   ·have:r=H.size:=by
     have:=hr.symm.trans h1;simpa using this
    have:=h.ext.size
    omega
theorem kb6 (s:BA) (H:Heap) (hs:s.size<4294967200):
 Fn PP fq133 #[.string s] H fun v H'=> ∃g n c,v= .slice (some ⟨g,0,none⟩) n c∧Fresh H H' tq9 1 (some ⟨g,0,none⟩) n c ((k0w s).map .string):=by
 refine Lines.enter s H _ ?_
 unfold Lines.W
 refine⟨fun z H'=> ∃(fr i:Nat) (ss:List BA),z.2.1=fr∧z.2.2.1=i∧fr≤i∧i≤s.size∧z.1.2.1≤i∧Fresh H H' tq9 1 z.1.1 z.1.2.1 z.1.2.2 (ss.map .string)∧k0w s=ss++k1X s fr i,
  fun z _=>s.size -z.2.2.1.toNat,⟨0,0,[],rfl,rfl,Nat.le_refl _,Nat.zero_le _,Nat.le_refl _,Fresh.nil H tq9 1,rfl⟩,?_⟩
 rintro⟨⟨a,n,c⟩,_,_,_⟩ H2 ⟨fr,i,ss,hfr,hi,hfi,his,hni,hf,hss⟩
 dsimp only at hfr hi hf hni⊢
 subst hfr hi
 refine fkI (fun hlt=>?_) (fun hge=>?_)
 ·have hlt':i<s.size:=by simp at hlt;exact hlt
  unfold k1X at hss
  rw[if_pos hlt'] at hss
  refine⟨((bt s i !=10&&bt s i !=13),()),⟨by omega,fkI (fun h1=>⟨by omega,?_,rfl⟩) (fun h1=>⟨?_,rfl⟩)⟩,?_⟩
  ·rw[h1];rfl
  ·rw[h1];rfl
  refine fkI (fun h1=>?_) (fun h1=>?_)
  ·dsimp only at h1
   rw[if_pos h1] at hss
   rw[k0h (by omega)]
   exact⟨⟨fr,i+1,ss,rfl,rfl,by omega,by omega,by omega,hf,hss⟩,by omega⟩
  ·dsimp only at h1
   rw[if_neg (by rw[h1];simp)] at hss
   refine⟨by omega,nbI fun H4 e4 hb4 ext4 hs4=>?_⟩
   refine(hf.grow ext4).append hb4 rfl (by simp[Value.oneCell']) (by omega) (by omega) ?_
   intro a' c' H7 hf7 _ _
   rw[k0h (k:=i) (by omega)]
   refine⟨((bt s i==13&&(decide (i+1<s.size)&&bt s (i+1:Nat)==10)),()),⟨by omega,?_⟩,?_⟩
   ·refine fkI (fun h2=>fkI (fun h3=>?_) (fun h3=>?_)) (fun h2=>?_)
    ·have h3':i+1<s.size:=by simp at h3;omega
     refine⟨by omega,?_,rfl⟩
     simp only[h2,h3',decide_true,Bool.true_and]
    ·have h3': ¬i+1<s.size:=by simp at h3;omega
     refine⟨?_,rfl⟩
     simp only[h2,h3',decide_false,Bool.true_and,Bool.false_and]
    ·refine⟨?_,rfl⟩
     simp only[h2,Bool.false_and]
   ·have hcell:ss.map Value.string++ #[Value.string (s.extract (fr:Int).toNat (i:Int).toNat)].toList=(ss++[s.extract fr i]).map .string:=by simp
    rw[hcell] at hf7
    refine⟨fun y H'=>H7=H'∧y.1=(if(bt s i==13&&(decide (i+1<s.size)&&bt s (i+1:Nat)==10))=true then((i+1:Nat):Int) else(i:Int)),?_,?_⟩
    ·refine fkI (fun h2=>⟨rfl,?_⟩) (fun h2=>⟨rfl,?_⟩)
     ·dsimp only at h2;rw[if_pos h2]
     ·dsimp only at h2;rw[if_neg (by rw[h2];simp)]
    ·rintro⟨y,_⟩ _ ⟨rfl,hy⟩
     dsimp only at hy⊢
     by_cases h2:(bt s i==13&&(decide (i+1<s.size)&&bt s (i+1:Nat)==10))=true
     ·rw[if_pos h2] at hy hss
      subst hy
      have hl:i+1<s.size:=by simp at h2;omega
      rw[k0h (by omega)]
      exact⟨⟨i+2,i+2,ss++[s.extract fr i],rfl,rfl,by omega,by omega,by omega,hf7,by rw[hss];simp⟩,by omega⟩
     ·rw[if_neg h2] at hy hss
      subst hy
      rw[k0h (by omega)]
      exact⟨⟨i+1,i+1,ss++[s.extract fr i],rfl,rfl,by omega,by omega,by omega,hf7,by rw[hss];simp⟩,by omega⟩
 ·have hge': ¬i<s.size:=by simp at hge;omega
  unfold k1X at hss
  rw[if_neg hge'] at hss
  refine⟨by omega,nbI fun H4 e4 hb4 ext4 hs4=>?_⟩
  refine(hf.grow ext4).append hb4 rfl (by simp[Value.oneCell']) (by omega) (by omega) ?_
  intro a' c' H7 hf7 _ _
  have hcell:ss.map Value.string++ #[Value.string (s.extract (fr:Int).toNat s.size)].toList=(k0w s).map .string:=by rw[hss];simp
  rw[hcell] at hf7
  cases a' with
  |none=>
   have:=hf7.own.2
   rcases this with⟨_,h,_⟩|⟨g,cur,h,_⟩
   ·omega
   ·cases h
  |some ad=>
   have:=hf7.own.2
   rcases this with⟨h,_⟩|⟨g,cur,h,_⟩
   ·cases h
   ·cases h
    exact rkI ⟨g,n+1,c',rfl,hf7⟩
def k13 (e:BA):Bool:=decide ((k1b e:Int)=e.size)
def k34 (n:Int) (e:BA):Bool:=k13 e&&(decide (0<e.size)&&decide ((e.size:Int)<n))
def k2O (raw:BA):Bool:=
 !(decide (0<k1W (k0w raw))&&decide ((k1b ((k0w raw).headD (bs [])):Int)<((k0w raw).headD (bs [])).size))&&(k0w raw).tail.all fun e=>!k34 (k1W (k0w raw)) e
theorem kg0 (l:List BA):0≤k1W l:=by unfold k1W;split<;>omega
theorem kdz (raw:BA) (H:Heap) (hs:raw.size<268435456):Fn PP fq82 #[.string raw] H fun v H'=>v= .bool (k2O raw)∧Ext [] H H':=by
 refine plainBlock.enter raw H _ ?_
 unfold plainBlock.W
 refine(kb6 raw H (by omega)).mono ?_
 rintro _ H2 ⟨g,n,c,rfl,hf⟩
 refine⟨(some ⟨g,0,none⟩,n,c),rfl,?_⟩
 have hA:=k0I.of_own hf.own
 obtain⟨h0,hlen,hsz⟩:=k80 raw
 have hn:=hA.1
 dsimp only
 refine(kbJ g 0 n c _ H2 hA (fun s hs'=>by have:=hsz s hs';omega) (by omega) h0).mono ?_
 rintro _ _ ⟨rfl,rfl⟩
 refine⟨_,rfl,?_⟩
 obtain⟨e0,r0,he0⟩: ∃e0 r0,k0w raw=e0::r0:=by
  cases h:k0w raw with
  |nil=>exact absurd h h0
  |cons a b=>exact⟨a,b,rfl⟩
 have hp:k2O raw=(!(decide (0<k1W (k0w raw))&&decide ((k1b e0:Int)<e0.size))&&r0.all fun e=>!k34 (k1W (k0w raw)) e):=by
  unfold k2O;rw[he0];rfl
 have ht:(k0w raw).tail=r0:=by rw[he0];rfl
 generalize hcm:k1W (k0w raw)=m at hp⊢
 have loop:(decide (0<m)&&decide ((k1b e0:Int)<e0.size))=false→k0e (Int×Unit) (1,()) H2 fun z18 H19 next20=>
  k02 (decide (z18.1<((n:Nat):Int)))
  ((IxOk (some ⟨g,0,none⟩) z18.1 n)∧
    k01 H19 false 1 ⟨(k0c (some ⟨g,0,none⟩)),(k0b (some ⟨g,0,none⟩)+z18.1.toNat*1),none⟩ pStr fun(x21:BA)=>
    (IxOk (some ⟨g,0,none⟩) z18.1 n)∧
    k01 H19 false 1 ⟨(k0c (some ⟨g,0,none⟩)),(k0b (some ⟨g,0,none⟩)+z18.1.toNat*1),none⟩ pStr fun(x22:BA)=>
    k00 PP fq135 #[(.string x21)] H19 (pInt .i64) fun(x23:Int) H24=>
    k07 H24 false 1 ⟨(k0c (some ⟨g,0,none⟩)),(k0b (some ⟨g,0,none⟩)+z18.1.toNat*1),none⟩=some (.string x22)∧
    k02 (x23==((x22.size:Nat):Int))
    ((IxOk (some ⟨g,0,none⟩) z18.1 n)∧
      k01 H24 false 1 ⟨(k0c (some ⟨g,0,none⟩)),(k0b (some ⟨g,0,none⟩)+z18.1.toNat*1),none⟩ pStr fun(x25:BA)=>
      k02 (decide (((x25.size:Nat):Int)>0))
      ((IxOk (some ⟨g,0,none⟩) z18.1 n)∧
        k01 H24 false 1 ⟨(k0c (some ⟨g,0,none⟩)),(k0b (some ⟨g,0,none⟩)+z18.1.toNat*1),none⟩ pStr fun(x26:BA)=>
        k02 (decide (((x26.size:Nat):Int)<m))
        (rk [(.bool false)] H24 fun v H'=>v= .bool (k2O raw)∧Ext [] H H')
        (next20 ((IntKind.i64.wrap (z18.1+1)),()) H24))
      (next20 ((IntKind.i64.wrap (z18.1+1)),()) H24))
    (next20 ((IntKind.i64.wrap (z18.1+1)),()) H24))
  (rk [(.bool true)] H19 fun v H'=>v= .bool (k2O raw)∧Ext [] H H'):=by
  intro hd
  rw[hd] at hp
  simp only[Bool.not_false,Bool.true_and] at hp
  refine⟨fun z H'=>H2=H'∧ ∃k:Nat,z.1=k∧1≤k∧k≤n∧k2O raw=((k0w raw).drop k).all fun e=>!k34 m e,fun z _=>n -z.1.toNat,
   ⟨rfl,1,rfl,Nat.le_refl _,by rw[hn,he0];simp,by rw[hp,←ht,List.drop_one]⟩,?_⟩
  rintro⟨_,_⟩ _ ⟨rfl,k,hk,hk1,hkn,hgo⟩
  dsimp only at hk⊢
  subst hk
  refine fkI (fun hlt=>?_) (fun hge=>?_)
  ·have hlt':k<(k0w raw).length:=by simp at hlt;omega
   have hi:(k0w raw)[k]?=some (k0w raw)[k]:=List.getElem?_eq_getElem hlt'
   rw[List.drop_eq_getElem_cons hlt'] at hgo
   simp only[List.all_cons] at hgo
   have hz:=hsz _ (List.getElem_mem hlt')
   generalize (k0w raw)[k]=s at hi hgo hz
   have hL:=hA.load hi
   refine⟨hL.1,_,hL.2,hL.1,_,hL.2,(k6e s H2 (by omega)).mono ?_⟩
   rintro _ _ ⟨rfl,rfl⟩
   refine⟨_,rfl,hL.2,?_⟩
   rw[k0h (by omega)]
   have next:k34 m s=false→(H2=H2∧ ∃k_1:Nat,((k+1:Nat):Int)=k_1∧1≤k_1∧k_1≤n∧k2O raw=((k0w raw).drop k_1).all fun e=>!k34 m e)∧n -((k+1:Nat):Int).toNat<n -(k:Int).toNat:=by
    intro h
    rw[h] at hgo
    exact⟨⟨rfl,k+1,rfl,by omega,by omega,by simpa using hgo⟩,by omega⟩
   refine fkI (fun h1=>?_) (fun h1=>next ?_)
   ·have h1':(k1b s:Int)=s.size:=by simpa using h1
    refine⟨hL.1,_,hL.2,fkI (fun h2=>?_) (fun h2=>next ?_)⟩
    ·have h2':0<s.size:=by have:=of_decide_eq_true h2;omega
     refine⟨hL.1,_,hL.2,fkI (fun h3=>?_) (fun h3=>next ?_)⟩
     ·have:k34 m s=true:=by simp only[k34,k13,h1',h2',decide_true,Bool.true_and];exact h3
      rw[this] at hgo
      refine rkI ⟨?_,hf.ext⟩
      rw[hgo];rfl
     ·simp only[k34,k13,h1',h2',decide_true,Bool.true_and];exact h3
    ·have h2': ¬0<s.size:=by have:=of_decide_eq_false h2;omega
     simp only[k34,h2',decide_false,Bool.false_and,Bool.and_false]
   ·have h1': ¬(k1b s:Int)=s.size:=by simpa using h1
    simp only[k34,k13,h1',decide_false,Bool.false_and]
  ·have hge':k=(k0w raw).length:=by simp at hge;omega
   rw[hge',List.drop_length] at hgo
   exact rkI ⟨by rw[hgo];rfl,hf.ext⟩
 have hi0:(k0w raw)[0]?=some e0:=by rw[he0];rfl
 have hL:=hA.load hi0
 refine fkI (fun h1=>?_) (fun h1=>loop ?_)
 ·have h1':0<m:=by simpa using h1
  refine⟨hL.1,_,hL.2,hL.1,_,hL.2,(k6e e0 H2 (by have:=hsz e0 (by rw[he0];simp);omega)).mono ?_⟩
  rintro _ _ ⟨rfl,rfl⟩
  refine⟨_,rfl,hL.2,fkI (fun h2=>?_) (fun h2=>loop ?_)⟩
  ·refine rkI ⟨?_,hf.ext⟩
   rw[hp,h2];simp[h1',retV]
  ·rw[h2];simp
 ·have h1': ¬0<m:=by simpa using h1
  simp[h1']
def cutM (m:Int) (e:BA):BA:=e.extract (if(e.size:Int)<m then(e.size:Int) else m).toNat e.size
def k1h (m:Int):List BA→List BA
 |[]=> []
 |e::r=>e::r.map (cutM m)
def k1F (out:BA) (k:Nat):List BA→BA
 |[]=>out
 |e::r=>k1F ((if 0<k then out++bs [10] else out)++e) (k+1) r
def k2g (l:List BA):List BA:=(l.reverse.dropWhile k13).reverse
def k44 (raw:BA):BA:=k1F (bs []) 0 (k2g ((k1h (k1W (k0w raw)) (k0w raw)).dropWhile k13))
theorem OwnS.store {H:Heap} {e:TypeId} {g n c:Nat} {xs:List Value} (h:OwnS H e 1 (some ⟨g,0,none⟩) n c xs) {k o:Nat} (hk:k<n) (ho:o=k) {v:Value} (hv:one v=true) {K:Heap→Prop}
 (hK: ∀H',OwnS H' e 1 (some ⟨g,0,none⟩) n c (xs.set k v)→Ext [g] H H'→H'.size=H.size→K H'):k08 H ⟨g,o,none⟩ [v] K:=by
 subst ho
 obtain⟨cur,_,hg,hnc,hcm,hs,ht⟩:=h.row rfl
 refine swI hg (by simp;omega) rfl (by simp[oneL,hv]) fun H' e1 hg' ext hs'=>hK H' ?_ ext hs'
 refine⟨by rw[List.length_set];exact h.1,.inr ⟨g,_,rfl,hg',hnc,hcm,by simp[k1I,hs],?_⟩⟩
 simp only[k1I,Array.toList_setIfInBounds]
 rw[List.take_set,ht]
theorem kg1 (m:Int) (e:BA):(cutM m e).size≤e.size:=by unfold cutM;rw[ByteArray.size_extract];omega
theorem k0I.slice_lo {H:Heap} {a:OA} {n c:Nat} {e:BA} {ss:List BA} (h:k0I H a n (e::ss)) (hc:n≤c):k0I H (slcA a c 1 1) (n -1) ss:=by
 have hl:=h.1
 refine⟨by simp at hl;omega,?_⟩
 rcases h.2 with h0|⟨g,o,cs,e',fr,rfl,hg,hr⟩
 ·simp at hl;omega
 ·by_cases hc1:c=1
  ·left;omega
  ·right
   refine⟨g,o+1,cs,e',fr,by simp[slcA,slcO,hc1],hg,fun i s hi=>?_⟩
   have:=hr (i+1) s (by simpa using hi)
   rw[show o+1+i=o+(i+1) by omega];exact this
theorem k0I.slice_hi {H:Heap} {a:OA} {n c:Nat} {ss:List BA} (h:k0I H a n ss) {m:Nat} (hm:m≤n):k0I H (slcA a c 0 1) m (ss.take m):=by
 have hl:=h.1
 refine⟨by rw[List.length_take];omega,?_⟩
 rcases h.2 with h0|⟨g,o,cs,e',fr,rfl,hg,hr⟩
 ·left;omega
 ·right
  refine⟨g,o,cs,e',fr,by simp[slcA,slcO],hg,fun i s hi=>?_⟩
  rw[List.getElem?_take] at hi
  split at hi
  ·exact hr i s hi
  ·cases hi
theorem ker {l:List BA} {e:BA} (h:k13 e=true):k2g (l++[e])=k2g l:=by
 unfold k2g;rw[List.reverse_append];simp[h]
theorem kes {l:List BA} {e:BA} (h:k13 e=false):k2g (l++[e])=l++[e]:=by
 unfold k2g;rw[List.reverse_append];simp[h]
theorem kb0 (raw:BA) (H:Heap) (hs:raw.size<268435456):Fn PP fq81 #[.string raw] H fun v H'=>v= .string (k44 raw)∧Ext [] H H':=by
 refine BlockValue.enter raw H _ ?_
 unfold BlockValue.W
 refine(kb6 raw H (by omega)).mono ?_
 rintro _ H2 ⟨g,n,c,rfl,hf⟩
 refine⟨(some ⟨g,0,none⟩,n,c),rfl,?_⟩
 have hA:=k0I.of_own hf.own
 obtain⟨h0,hlen,hsz⟩:=k80 raw
 have hn:=hA.1
 have hgH:H.size≤g:=hf.row g rfl
 dsimp only
 refine(kbJ g 0 n c _ H2 hA (fun s hs'=>by have:=hsz s hs';omega) (by omega) h0).mono ?_
 rintro _ _ ⟨rfl,rfl⟩
 refine⟨_,rfl,?_⟩
 have hm0:=kg0 (k0w raw)
 have hb:k44 raw=k1F (bs []) 0 (k2g ((k1h (k1W (k0w raw)) (k0w raw)).dropWhile k13)):=rfl
 generalize k1W (k0w raw)=m at hm0 hb⊢
 generalize k0w raw=L at*
 have hC:(k1h m L).length=L.length:=by cases L<;>simp[k1h]
 have hC1:(k1h m L).take 1=L.take 1:=by cases L<;>simp[k1h]
 have hCk: ∀k,1≤k→ ∀e,L[k]?=some e→(k1h m L)[k]?=some (cutM m e):=by
  intro k hk e he
  cases L with
  |nil=>simp at he
  |cons a r=>
   obtain⟨k,rfl⟩: ∃k',k=k'+1:=⟨k -1,by omega⟩
   simp at he
   simp[k1h,he]
 have hCs: ∀e∈k1h m L,e.size≤raw.size:=by
  intro e he
  cases L with
  |nil=>simp[k1h] at he
  |cons a r=>
   simp only[k1h,List.mem_cons,List.mem_map] at he
   rcases he with rfl|⟨e',he',rfl⟩
   ·exact hsz _ (by simp)
   ·exact Nat.le_trans (kg1 _ _) (hsz e' (by simp[he']))
 refine⟨fun z H'=> ∃k:Nat,z.1=k∧1≤k∧k≤n∧Fresh H H' tq9 1 (some ⟨g,0,none⟩) n c (((k1h m L).take k++L.drop k).map .string),fun z _=>n -z.1.toNat,
  ⟨1,rfl,Nat.le_refl _,?_,by rw[hC1,List.take_append_drop];exact hf⟩,?_⟩
 ·cases L with
  |nil=>exact absurd rfl h0
  |cons _ _=>simp at hn;omega
 rintro⟨_,_⟩ H3 ⟨k,hk,hk1,hkn,hf3⟩
 dsimp only at hk⊢
 subst hk
 refine fkI (fun hlt=>?_) (fun hge=>?_)
 ·have hlt':k<L.length:=by simp at hlt;omega
  have hi:L[k]?=some L[k]:=List.getElem?_eq_getElem hlt'
  have hz:=hsz _ (List.getElem_mem hlt')
  generalize L[k]=e at hi hz
  have hck:=hCk k hk1 e hi
  have hcur:((k1h m L).take k++L.drop k)[k]?=some e:=by
   rw[List.getElem?_append_right (by rw[List.length_take];omega),List.length_take,List.getElem?_drop]
   rw[show k+(k -min k (k1h m L).length)=k by omega];exact hi
  have hL:=(k0I.of_own hf3.own).load hcur
  refine⟨hL.1,_,hL.2,hL.1,_,hL.2,?_⟩
  refine⟨by split<;>omega,hL.1,?_⟩
  refine OwnS.store (k:=k) hf3.own (by omega) (by simp[k0b]) rfl ?_
  intro H4 own4 ext4 hs4
  rw[k0h (by omega)]
  refine⟨⟨k+1,rfl,by omega,by omega,⟨?_,?_,hf3.row⟩⟩,by omega⟩
  ·refine⟨Nat.le_trans hf3.ext.size ext4.size,fun j o hj hn=>ext4.get _ _ (hf3.ext.get _ _ hj hn) ?_⟩
   have:=k0l hj
   simp;omega
  ·have:(((k1h m L).take k++L.drop k).map Value.string).set k (.string (e.extract (if(e.size:Int)<m then(e.size:Int) else m).toNat e.size))=((k1h m L).take (k+1)++L.drop (k+1)).map .string:=by
    rw[←List.map_set]
    congr 1
    apply List.ext_getElem?
    intro j
    rw[List.getElem?_set]
    by_cases hjk:k=j
    ·subst hjk
     rw[if_pos rfl,if_pos (by rw[List.length_append,List.length_take,List.length_drop];omega)]
     rw[List.getElem?_append_left (by rw[List.length_take];omega),List.getElem?_take,if_pos (Nat.lt_succ_self k),hck]
     rfl
    ·rw[if_neg hjk]
     rcases Nat.lt_or_ge j k with hj|hj
     ·rw[List.getElem?_append_left (by rw[List.length_take];omega),List.getElem?_append_left (by rw[List.length_take];omega),List.getElem?_take,List.getElem?_take,if_pos hj,if_pos (by omega)]
     ·rw[List.getElem?_append_right (by rw[List.length_take];omega),List.getElem?_append_right (by rw[List.length_take];omega),List.length_take,List.length_take,List.getElem?_drop,List.getElem?_drop]
      rw[show k+(j -min k (k1h m L).length)=j by omega,show k+1+(j -min (k+1) (k1h m L).length)=j by omega]
   rw[←this];exact own4
 ·have hge':k=L.length:=by simp at hge;omega
  have hcur:(k1h m L).take k++L.drop k=k1h m L:=by
   rw[hge',List.drop_length,List.append_nil,←hC,List.take_length]
  rw[hcur] at hf3
  have hS:=k0I.of_own hf3.own
  have hnc:n≤c:=(hf3.own.row rfl).choose_spec.2.2.1
  have hcM:c≤maxLen:=(hf3.own.row rfl).choose_spec.2.2.2.1
  simp only[maxLen] at hcM
  clear hcur hC hC1 hCk hsz hf
  generalize k1h m L=L1 at*
  refine⟨fun y H'=>H3=H'∧ ∃ss,k0I H3 y.1.1 y.1.2.1 ss∧y.1.2.1≤n∧y.1.2.1≤y.1.2.2∧y.1.2.2≤c∧ss=L1.dropWhile k13∧ ∀e∈ss,e.size≤raw.size,?_,?_⟩
  ·refine⟨fun z H'=>H3=H'∧ ∃ss,k0I H3 z.1.1 z.1.2.1 ss∧z.1.2.1≤n∧z.1.2.1≤z.1.2.2∧z.1.2.2≤c∧ss.dropWhile k13=L1.dropWhile k13∧ ∀e∈ss,e.size≤raw.size,fun z _=>z.1.2.1,
    ⟨rfl,L1,hS,Nat.le_refl _,hnc,Nat.le_refl _,rfl,hCs⟩,?_⟩
   rintro⟨⟨a,n',c'⟩,_⟩ _ ⟨rfl,ss,hss,hn',hc',hcc,hd,hsz⟩
   dsimp only at hss hn' hc' hcc⊢
   cases ss with
   |nil=>
    have hl:=hss.1
    refine fkI (fun hlt=>?_) (fun _=>⟨rfl,[],hss,hn',hc',hcc,by rw[←hd];rfl,hsz⟩)
    simp at hl hlt;omega
   |cons e ss=>
    have hl:=hss.1
    refine fkI (fun _=>?_) (fun hge=>?_)
    ·have hL:=hss.load (i:=0) (s:=e) rfl
     refine⟨hL.1,_,hL.2,hL.1,_,hL.2,(k6e e H3 (by have:=hsz e (by simp);omega)).mono ?_⟩
     rintro _ _ ⟨rfl,rfl⟩
     refine⟨_,rfl,hL.2,fkI (fun hb=>?_) (fun hb=>⟨rfl,e::ss,hss,hn',hc',hcc,?_,hsz⟩)⟩
     ·have hb':k13 e=true:=by simpa [k13] using hb
      simp at hl
      refine⟨by omega,⟨rfl,ss,hss.slice_lo hc',?_,?_,?_,?_,fun e' he'=>hsz e' (by simp[he'])⟩,?_⟩
      ·show n' -1≤n;omega
      ·show n' -1≤c' -1;omega
      ·show c' -1≤c;omega
      ·rw[←hd];simp[hb']
      ·show n' -1<n';omega
     ·have hb':k13 e=false:=by simpa [k13] using hb
      rw[←hd];simp[hb']
    ·simp at hl hge;omega
  rintro⟨⟨a,n',c'⟩,_⟩ _ ⟨rfl,ss,hss,hn',hc',hcc,hd,hsz⟩
  dsimp only at hss hn' hc' hcc⊢
  rw[←hd] at hb
  clear hd hS hCs
  refine⟨fun y H'=>H3=H'∧ ∃ss',k0I H3 y.1.1 y.1.2.1 ss'∧y.1.2.1≤n∧ss'=k2g ss∧ ∀e∈ss',e.size≤raw.size,?_,?_⟩
  ·refine⟨fun z H'=>H3=H'∧ ∃ss',k0I H3 z.1.1 z.1.2.1 ss'∧z.1.2.1≤n∧z.1.2.1≤z.1.2.2∧z.1.2.2≤c∧k2g ss'=k2g ss∧ ∀e∈ss',e.size≤raw.size,fun z _=>z.1.2.1,
    ⟨rfl,ss,hss,hn',hc',hcc,rfl,hsz⟩,?_⟩
   rintro⟨⟨a2,n2,c2⟩,_⟩ _ ⟨rfl,s2,hs2,hn2,hc2,hcc2,ht,hsz2⟩
   dsimp only at hs2 hn2 hc2 hcc2⊢
   have hl:=hs2.1
   rcases List.eq_nil_or_concat s2 with rfl|⟨r,e,rfl⟩
   ·refine fkI (fun hlt=>?_) (fun _=>⟨rfl,[],hs2,hn2,ht,hsz2⟩)
    simp at hl hlt;omega
   ·refine fkI (fun _=>?_) (fun hge=>?_)
    ·have hl':n2=r.length+1:=by simpa using hl
     have hw:IntKind.i64.wrap ((n2:Int) -1)=(r.length:Int):=by rw[i64w (by omega)];omega
     rw[hw]
     have hL:=hs2.load (i:=r.length) (s:=e) (by simp)
     refine⟨hL.1,_,hL.2,hL.1,_,hL.2,(k6e e H3 (by have:=hsz2 e (by simp);omega)).mono ?_⟩
     rintro _ _ ⟨rfl,rfl⟩
     refine⟨_,rfl,hL.2,fkI (fun hb=>?_) (fun hb=>⟨rfl,_,hs2,hn2,?_,hsz2⟩)⟩
     ·have hb':k13 e=true:=by simpa [k13] using hb
      have h3:=hs2.slice_hi (c:=c2) (m:=r.length) (by omega)
      simp only[List.concat_eq_append,List.take_left'] at h3
      refine⟨by omega,⟨rfl,r,h3,?_,?_,hcc2,?_,fun e' he'=>hsz2 e' (by simp[he'])⟩,?_⟩
      ·show(r.length:Int).toNat≤n;omega
      ·show(r.length:Int).toNat≤c2;omega
      ·rw[←ht,List.concat_eq_append,ker hb']
      ·show(r.length:Int).toNat<n2;omega
     ·have hb':k13 e=false:=by simpa [k13] using hb
      rw[←ht,List.concat_eq_append,kes hb']
    ·simp at hl hge;omega
  rintro⟨⟨a2,n2,c2⟩,_⟩ _ ⟨rfl,s2,hs2,hn2,ht,hsz2⟩
  dsimp only at hs2 hn2⊢
  rw[←ht] at hb
  have hl:=hs2.1
  refine⟨fun z H'=>H3=H'∧ ∃k:Nat,z.2.1=k∧k≤n2∧k44 raw=k1F z.1 k (s2.drop k)∧z.1.size≤k*(raw.size+1),fun z _=>n2 -z.2.1.toNat,
   ⟨rfl,0,rfl,Nat.zero_le _,by rw[hb];rfl,(show(0:Nat)≤_ from Nat.zero_le _)⟩,?_⟩
  rintro⟨out,_,_⟩ _ ⟨rfl,j,hj,hjn,hgo,ho⟩
  dsimp only at hj hgo ho⊢
  subst hj
  refine fkI (fun hlt=>?_) (fun hge=>?_)
  ·have hlt':j<s2.length:=by simp at hlt;omega
   have hi:s2[j]?=some s2[j]:=List.getElem?_eq_getElem hlt'
   rw[List.drop_eq_getElem_cons hlt'] at hgo
   simp only[k1F] at hgo
   have hz:=hsz2 _ (List.getElem_mem hlt')
   generalize s2[j]=e at hi hgo hz
   have hL:=hs2.load hi
   have hbound:(j+1)*(raw.size+1)≤268435456*268435456:=Nat.mul_le_mul (by omega) (by omega)
   have hsucc:(j+1)*(raw.size+1)=j*(raw.size+1)+raw.size+1:=by rw[Nat.succ_mul];omega
   have e1:(bs [10]).size=1:=rfl
   refine⟨fun y H'=>H3=H'∧y.1=(if 0<j then out++bs [10] else out),?_,?_⟩
   ·refine fkI (fun h1=>⟨?_,rfl,?_⟩) (fun h1=>⟨rfl,?_⟩)
    ·rw[e1];omega
    ·have:0<j:=by simp at h1;omega
     rw[if_pos this]
    ·have: ¬0<j:=by simp at h1;omega
     rw[if_neg this]
   ·rintro⟨y,_⟩ _ ⟨rfl,hy⟩
    dsimp only at hy⊢
    rw[←hy] at hgo
    have hys:y.size≤j*(raw.size+1)+1:=by
     rw[hy];split
     ·rw[ByteArray.size_append,e1];omega
     ·omega
    rw[k0h (by omega)]
    refine⟨hL.1,_,hL.2,by omega,⟨rfl,j+1,rfl,by omega,hgo,?_⟩,by omega⟩
    rw[ByteArray.size_append,hsucc];omega
  ·have hge':j=s2.length:=by simp at hge;omega
   rw[hge',List.drop_length] at hgo
   exact rkI ⟨by rw[hgo];rfl,hf3.ext⟩
theorem k58 {s t:BA} {a:Nat} (h:k2D s a t=true):a+t.size≤s.size:=by
 unfold k2D at h;simp at h;exact h.1
theorem khU (H0 H:Heap) (x:Nat) (σ:LexSt) (ts:List Tk) (h:LexInv H0 H x σ ts) (hs:σ.s.size<268435456) (hp:σ.pos+3≤σ.s.size):
 Fn PP fq222 #[.pointer (some ⟨x,0,none⟩)] H fun v H'=>v= .tuple #[]∧k39 H0 H' x σ:=by
 refine k6g.enter x H _ ?_
 unfold k6g.W
 refine⟨_,lcO h.at_ rfl,?_⟩
 dsimp only
 rw[k2S (k:=σ.pos) 3]
 refine⟨fun z H'=> ∃(p:Nat) (u:Bool),z.2.1=p∧σ.pos<p∧p≤σ.s.size∧z.1.size≤p∧LexInv H0 H' x {σ with uns:=u} ts,fun z _=>σ.s.size -z.2.1.toNat,
  ⟨σ.pos+3,σ.uns,rfl,by omega,by omega,(show(0:Nat)≤_ from Nat.zero_le _),h⟩,?_⟩
 rintro⟨raw,_,_⟩ H2 ⟨p,u,hp',hp1,hp2,ho,h2⟩
 dsimp only at hp' ho⊢
 subst hp'
 have fail: ∀(H':Heap) (u:Bool),LexInv H0 H' x {σ with uns:=u} ts→k00 PP fq224 #[.pointer (some ⟨x,0,none⟩)] H' ⟨Unit,fun _=> .tuple #[]⟩ fun(_:Unit) H12=>
  rk [] H12 fun v H'=>v= .tuple #[]∧k39 H0 H' x σ:=by
  intro H' u hu
  refine(k6l H0 H' x _ ts hu).mono ?_
  rintro _ H' ⟨rfl,h'⟩
  exact⟨(),rfl,rkI ⟨rfl,_,_,h',rfl,.inl rfl⟩⟩
 refine⟨_,lcO h2.at_ rfl,?_⟩
 refine fkI (fun hlt=>?_) (fun _=>fail _ _ h2)
 have hlt':p<σ.s.size:=by simp at hlt;exact hlt
 refine⟨_,lcO h2.at_ rfl,?_⟩
 refine(k4s σ.s _ p H2 (by omega) (by omega) (by decide)).mono ?_
 rintro _ _ ⟨rfl,rfl⟩
 refine⟨_,rfl,fkI (fun hst=>?_) (fun _=>?_)⟩
 ·have hst':p+3≤σ.s.size:=k58 hst
  refine⟨_,lcO h2.at_ rfl,?_⟩
  have last: ∀(H':Heap) (u:Bool),LexInv H0 H' x {σ with uns:=u} ts→k00 PP fq81 #[(.string raw)] H' pStr fun(x11:BA) H12=>
   k00 PP fq218 #[(.pointer (some ⟨x,0,none⟩)),(.int .i64 19),(.int .i64 (IntKind.i64.wrap ((p:Int)+3))),(.string x11)] H12 ⟨Unit,fun _=>(.tuple #[])⟩ fun(_:Unit) H14=>
   rk [] H14 fun v H'=>v= .tuple #[]∧k39 H0 H' x σ:=by
   intro H' u hu
   refine(kb0 raw H' (by omega)).mono ?_
   rintro _ H4 ⟨rfl,he⟩
   refine⟨_,rfl,?_⟩
   rw[k2S (k:=p) 3]
   refine(k4O H0 H4 x _ ts (hu.grow he) 19 (p+3) _ ⟨by dsimp only;omega,by dsimp only;omega⟩ (by dsimp only;omega) (by rintro(h|h)<;>simp at h)).mono ?_
   rintro _ H5 ⟨rfl,a,c,h'⟩
   exact⟨(),rfl,rkI ⟨rfl,_,_,h',rfl,.inr (by dsimp only;omega)⟩⟩
  refine fkI (fun _=>?_) (fun _=>?_)
  ·refine k1e h2.at_ 4 _ {σ with uns:=true} rfl (by decide) rfl ?_
   exact last _ _ (h2.uns _)
  ·refine(kdz raw H2 (by omega)).mono ?_
   rintro _ H4 ⟨rfl,he⟩
   refine⟨_,rfl,?_⟩
   have h4:=h2.grow he
   refine k1e h4.at_ 4 _ {σ with uns:=!k2O raw} rfl (by decide) rfl ?_
   exact last _ _ (h4.uns _)
 ·refine⟨_,lcO h2.at_ rfl,?_⟩
  refine(k4s σ.s _ p H2 (by omega) (by omega) (by decide)).mono ?_
  rintro _ _ ⟨rfl,rfl⟩
  refine⟨_,rfl,fkI (fun hst=>?_) (fun _=>?_)⟩
  ·have hst':p+4≤σ.s.size:=k58 hst
   refine k1e h2.at_ 4 _ {σ with uns:=true} rfl (by decide) rfl ?_
   have e3:(bs [34,34,34]).size=3:=rfl
   rw[e3,k2S (k:=p) 4]
   refine⟨by omega,⟨p+4,true,rfl,by omega,by omega,?_,h2.uns _⟩,by omega⟩
   rw[ByteArray.size_append,e3];omega
  ·refine⟨_,lcO h2.at_ rfl,?_⟩
   refine(k4A σ.s p H2 hlt' (by omega)).mono ?_
   rintro _ _ ⟨rfl,rfl⟩
   have hpl:=k4Z σ.s p hlt'
   generalize k0A σ.s p=cn at hpl⊢
   obtain⟨c,n⟩:=cn
   dsimp only at hpl
   refine⟨(c,n),rfl,(kaO c H2).mono ?_⟩
   rintro _ _ ⟨rfl,rfl⟩
   refine⟨(_,_),rfl,?_⟩
   refine k3r (fkI (fun _=>?_) (fun h0=>?_))
   ·refine⟨_,lcO h2.at_ rfl,?_⟩
    refine fkI (fun _=>?_) (fun _=>?_)
    ·refine k1e h2.at_ 4 _ {σ with uns:=true} rfl (by decide) rfl ?_
     exact fail _ _ (h2.uns _)
    ·refine k1e h2.at_ 4 _ {σ with uns:=((n:Int)==0)} rfl (by decide) rfl ?_
     exact fail _ _ (h2.uns _)
   ·have hn0: ¬n=0:=by simp at h0;omega
    refine⟨_,lcO h2.at_ rfl,?_⟩
    dsimp only
    have step: ∀b:Bool,k08 H2 ⟨x,4,none⟩ [.bool b] fun H32=>k01 H32 false 1 ⟨x,0,none⟩ pStr fun(x33:BA)=>
     (((0:Int)≤(IntKind.i64.wrap ((p:Int)+(n:Int)))∧(IntKind.i64.wrap ((p:Int)+(n:Int)))≤((x33.size:Nat):Int))∧((0:Int)≤(p:Int)∧(p:Int)≤(((IntKind.i64.wrap ((p:Int)+(n:Int))).toNat:Nat):Int)))∧
     (((raw.size+(x33.extract (p:Int).toNat (IntKind.i64.wrap ((p:Int)+(n:Int))).toNat).size:Nat):Int)≤9223372036854775807)∧
     ((∃(p':Nat) (u:Bool),(IntKind.i64.wrap ((p:Int)+(n:Int)))=p'∧σ.pos<p'∧p'≤σ.s.size∧(raw++(x33.extract (p:Int).toNat (IntKind.i64.wrap ((p:Int)+(n:Int))).toNat)).size≤p'∧LexInv H0 H32 x {σ with uns:=u} ts)∧
       σ.s.size -(IntKind.i64.wrap ((p:Int)+(n:Int))).toNat<σ.s.size -(p:Int).toNat):=by
     intro b
     refine k1e h2.at_ 4 _ {σ with uns:=b} rfl (by decide) rfl ?_
     refine⟨_,lcO (k2b _ _ _ _ h2.at_) rfl,?_⟩
     dsimp only
     rw[k38 (by omega) n (by omega)]
     have e1:((p+n:Nat):Int).toNat=p+n:=by omega
     have e2:(p:Int).toNat=p:=by omega
     rw[e1,e2,ByteArray.size_append,ByteArray.size_extract]
     exact⟨by omega,by omega,⟨p+n,b,rfl,by omega,by omega,by omega,h2.uns _⟩,by omega⟩
    exact fkI (fun _=>step _) (fun _=>step _)
theorem LexInv.done {H0 H:Heap} {x:Nat} {σ σ':LexSt} {ts:List Tk} (h:LexInv H0 H x σ' ts) (hs:σ'.s=σ.s) (hp:σ.pos<σ'.pos):k39 H0 H x σ:=⟨σ',ts,h,hs,.inr hp⟩
theorem ki0 (H0 H:Heap) (x:Nat) (σ:LexSt) (ts:List Tk) (h:LexInv H0 H x σ ts) (hs:σ.s.size<268435456) (hp:σ.pos<σ.s.size):
 Fn PP fq195 #[.pointer (some ⟨x,0,none⟩)] H fun v H'=>v= .tuple #[]∧k39 H0 H' x σ:=by
 refine k6q.enter x H _ ?_
 unfold k6q.W
 refine⟨_,lcO h.at_ rfl,?_⟩
 refine⟨_,lcO h.at_ rfl,?_⟩
 refine⟨by omega,?_⟩
 have key: ∀(b:Bool) (rest:Bool×Unit→Prop),rest (b,())→b=((bt σ.s σ.pos==32)||(bt σ.s σ.pos==9)||(bt σ.s σ.pos==10)||(bt σ.s σ.pos==13)||(bt σ.s σ.pos==44))→
  k0j (Bool×Unit) H (fun J3=>
   k02 ((bt σ.s σ.pos)==32) (J3 (true,()) H) (k02 ((bt σ.s σ.pos)==9) (J3 (true,()) H) (k02 ((bt σ.s σ.pos)==10) (J3 (true,()) H) (k02 ((bt σ.s σ.pos)==13)
   (J3 (true,()) H) (J3 (((bt σ.s σ.pos)==44),()) H))))) rest:=by
  intro b rest hr hb
  refine⟨(b,()),?_,hr⟩
  refine fkI (fun h1=>⟨by rw[hb,h1];rfl,rfl⟩) (fun h1=>?_)
  refine fkI (fun h2=>⟨by rw[hb,h1,h2];rfl,rfl⟩) (fun h2=>?_)
  refine fkI (fun h3=>⟨by rw[hb,h1,h2,h3];rfl,rfl⟩) (fun h3=>?_)
  refine fkI (fun h4=>⟨by rw[hb,h1,h2,h3,h4];rfl,rfl⟩) (fun h4=>⟨by rw[hb,h1,h2,h3,h4];rfl,rfl⟩)
 refine key _ _ ?_ rfl
 refine fkI (fun _=>?_) (fun _=>?_)
 ·refine⟨_,lcO h.at_ rfl,?_⟩
  refine k1e h.at_ 1 _ {σ with pos:=σ.pos+1} rfl (by decide) (by dsimp only[k1I,LexSt.obj];rw[k0h (by omega)];rfl) ?_
  exact rkI ⟨rfl,(h.store {σ with pos:=σ.pos+1} rfl rfl rfl rfl ⟨by dsimp only;omega,by dsimp only;omega⟩).done rfl (by dsimp only;omega)⟩
 refine⟨_,lcO h.at_ rfl,?_⟩
 refine⟨_,lcO h.at_ rfl,?_⟩
 refine(k4s σ.s _ σ.pos H (by omega) (by omega) (by decide)).mono ?_
 rintro _ _ ⟨rfl,rfl⟩
 refine⟨_,rfl,fkI (fun hst=>?_) (fun _=>?_)⟩
 ·have hst':σ.pos+3≤σ.s.size:=k58 hst
  refine k1e h.at_ 4 _ {σ with uns:=true} rfl (by decide) rfl ?_
  have h2:=h.uns true
  refine⟨_,lcO h2.at_ rfl,?_⟩
  refine k1e h2.at_ 1 _ {σ with pos:=σ.pos+3,uns:=true} rfl (by decide) (by dsimp only[k1I,LexSt.obj];rw[k2S (k:=σ.pos) 3];rfl) ?_
  exact rkI ⟨rfl,(h2.store {σ with pos:=σ.pos+3,uns:=true} rfl rfl rfl rfl ⟨by dsimp only;omega,by dsimp only;omega⟩).done rfl (by dsimp only;omega)⟩
 refine fkI (fun h35=>?_) (fun _=>?_)
 ·refine(khV H0 H x σ ts h (by omega) hp (by simpa using h35)).mono ?_
  rintro _ H' ⟨rfl,h'⟩
  exact⟨(),rfl,rkI ⟨rfl,h'⟩⟩
 refine⟨_,lcO h.at_ rfl,?_⟩
 refine⟨_,lcO h.at_ rfl,?_⟩
 refine(k4s σ.s _ σ.pos H (by omega) (by omega) (by decide)).mono ?_
 rintro _ _ ⟨rfl,rfl⟩
 refine⟨_,rfl,fkI (fun hst=>?_) (fun _=>?_)⟩
 ·have hst':σ.pos+3≤σ.s.size:=k58 hst
  refine⟨_,lcO h.at_ rfl,?_⟩
  dsimp only
  rw[k2S (k:=σ.pos) 3]
  refine(k4O H0 H x σ ts h 6 (σ.pos+3) _ ⟨by omega,by omega⟩ (by omega) (by rintro(h|h)<;>simp at h)).mono ?_
  rintro _ H' ⟨rfl,a,c,h'⟩
  exact⟨(),rfl,rkI ⟨rfl,h'.done rfl (by dsimp only;omega)⟩⟩
 refine(ke5 _ _).mono ?_
 rintro _ _ ⟨rfl,rfl⟩
 refine⟨_,rfl,fkI (fun hsg=>?_) (fun _=>?_)⟩
 ·refine⟨_,lcO h.at_ rfl,?_⟩
  refine(ke5 _ _).mono ?_
  rintro _ _ ⟨rfl,rfl⟩
  refine⟨_,rfl,lcO h.at_ rfl,?_⟩
  rw[k0h (k:=σ.pos) (by omega)]
  have hr:=kkb (bt σ.s σ.pos)
  refine(k4O H0 H x σ ts h (k3R (bt σ.s σ.pos)) (σ.pos+1) _ ⟨by omega,by omega⟩ (by omega) (by rintro(h|h)<;>dsimp only at h<;>omega)).mono ?_
  rintro _ H' ⟨rfl,a,c,h'⟩
  exact⟨(),rfl,rkI ⟨rfl,h'.done rfl (by dsimp only;omega)⟩⟩
 refine(k67 _ _).mono ?_
 rintro _ _ ⟨rfl,rfl⟩
 refine⟨_,rfl,fkI (fun hbg=>?_) (fun _=>?_)⟩
 ·refine⟨_,lcO h.at_ rfl,?_⟩
  refine⟨fun z H'=>H=H'∧ ∃k:Nat,z.1=k∧σ.pos≤k∧k≤σ.s.size,fun z _=>σ.s.size -z.1.toNat,⟨rfl,σ.pos,rfl,Nat.le_refl _,h.le⟩,?_⟩
  rintro⟨_,_⟩ _ ⟨rfl,k,hk,hk1,hk2⟩
  dsimp only at hk⊢
  subst hk
  refine⟨fun y H'=>H=H'∧(y.1=true→k<σ.s.size)∧(k=σ.pos→y.1=true),?_,?_⟩
  ·refine(k2Z x k σ H h.at_).mono ?_
   rintro _ _ ⟨rfl,rfl⟩
   refine⟨_,rfl,(k67 _ _).mono ?_⟩
   rintro _ _ ⟨rfl,rfl⟩
   refine⟨_,rfl,fkI (fun h1=>⟨rfl,fun _=>?_,fun _=>rfl⟩) (fun h1=>?_)⟩
   ·apply k3N
    intro h0
    rw[h0] at h1
    simp[k3I] at h1
   ·refine(k2Z x k σ H h.at_).mono ?_
    rintro _ _ ⟨rfl,rfl⟩
    refine⟨_,rfl,(k68 _ _).mono ?_⟩
    rintro _ _ ⟨rfl,rfl⟩
    refine⟨_,rfl,rfl,fun h2=>?_,fun he=>?_⟩
    ·apply k3N
     intro h0
     rw[h0] at h2
     simp[k1j] at h2
    ·subst he
     have:k0v σ.s σ.pos=bt σ.s σ.pos:=by unfold k0v;rw[if_neg (by omega)]
     rw[this,hbg] at h1
     cases h1
  ·rintro⟨b,_⟩ _ ⟨rfl,hb1,hb2⟩
   dsimp only at hb1 hb2⊢
   refine fkI (fun hb=>?_) (fun hb=>?_)
   ·have:=hb1 hb
    rw[k0h (by omega)]
    exact⟨⟨rfl,k+1,rfl,by omega,by omega⟩,by omega⟩
   ·have hne:k≠σ.pos:=fun e=>by rw[hb2 e] at hb;cases hb
    refine⟨_,lcO h.at_ rfl,?_⟩
    refine⟨_,lcO h.at_ rfl,?_⟩
    refine⟨by omega,?_⟩
    refine(k4O H0 H x σ ts h 15 k _ ⟨by omega,by omega⟩ (by omega) (by rintro(h|h)<;>simp at h)).mono ?_
    rintro _ H' ⟨rfl,a,c,h'⟩
    exact⟨(),rfl,rkI ⟨rfl,h'.done rfl (by dsimp only;omega)⟩⟩
 refine⟨fun y H'=>H=H',?_,?_⟩
 ·refine fkI (fun _=>rfl) (fun _=>?_)
  refine(k68 _ _).mono ?_
  rintro _ _ ⟨rfl,rfl⟩
  exact⟨_,rfl,rfl⟩
 rintro⟨b,_⟩ _ rfl
 refine fkI (fun _=>?_) (fun _=>?_)
 ·refine(khX H0 H x σ ts h (by omega) hp).mono ?_
  rintro _ H' ⟨rfl,h'⟩
  exact⟨(),rfl,rkI ⟨rfl,h'⟩⟩
 refine⟨_,lcO h.at_ rfl,?_⟩
 refine⟨_,lcO h.at_ rfl,?_⟩
 refine(k4s σ.s _ σ.pos H (by omega) (by omega) (by decide)).mono ?_
 rintro _ _ ⟨rfl,rfl⟩
 refine⟨_,rfl,fkI (fun hst=>?_) (fun _=>?_)⟩
 ·have hst':σ.pos+3≤σ.s.size:=k58 hst
  refine(khU H0 H x σ ts h hs hst').mono ?_
  rintro _ H' ⟨rfl,h'⟩
  exact⟨(),rfl,rkI ⟨rfl,h'⟩⟩
 refine fkI (fun _=>?_) (fun _=>?_)
 ·refine(khZ H0 H x σ ts h (by omega) hp).mono ?_
  rintro _ H' ⟨rfl,h'⟩
  exact⟨(),rfl,rkI ⟨rfl,h'⟩⟩
 ·refine(k6l H0 H x σ ts h).mono ?_
  rintro _ H' ⟨rfl,h'⟩
  exact⟨(),rfl,rkI ⟨rfl,_,_,h',rfl,.inl rfl⟩⟩
def k93 (s:BA) (H:Heap) (v:Value) (H':Heap):Prop:= ∃a n c ok sure ts,v= .tuple #[.slice a n c,.bool ok,.bool sure]∧Ext [] H H'∧OwnS H' tq138 4 a n c (tkL ts)∧ ∀t∈ts,TkOk s t
theorem ki1 (s:BA) (H:Heap) (hs:s.size<268435456):Fn PP fq132 #[.string s] H (k93 s H):=by
 refine lexed.enter s H _ ?_
 unfold lexed.W
 refine nbI fun H2 e2 hb2 ext2 hs2=>?_
 have start:LexInv H H2 H.size ⟨s,0,none,0,0,false,false⟩ []:=
  ⟨ext2,hb2,Nat.le_refl _,OwnS.nil _ _ _,(fun _ h=>by cases h),Nat.zero_le _,Nat.le_refl _,by simp⟩
 refine⟨fun _ H'=> ∃σ ts,LexInv H H' H.size σ ts∧σ.s=s,fun _ H'=>match k07 H' false 1 ⟨H.size,3,none⟩ with
  |some (.bool false)=>(match k07 H' false 1 ⟨H.size,1,none⟩ with|some (.int _ n)=>s.size -n.toNat+1|_=>0)
  |_=>0,⟨_,_,start,rfl⟩,?_⟩
 rintro _ H3 ⟨σ,ts,h,rfl⟩
 have fin:k01 H3 false 1 ⟨H.size,2,none⟩ pSlc fun(x10:(OA×Nat×Nat))=>
  k01 H3 false 1 ⟨H.size,3,none⟩ k04 fun(x11:Bool)=>k01 H3 false 1 ⟨H.size,4,none⟩ k04 fun(x12:Bool)=>
  rk [(.slice x10.1 x10.2.1 x10.2.2),(.bool (!x11)),(.bool (!x12))] H3 (k93 σ.s H):=by
  refine⟨(σ.oa,σ.on,σ.oc),lcO h.at_ rfl,_,lcO h.at_ rfl,_,lcO h.at_ rfl,rkI ?_⟩
  exact⟨_,_,_,_,_,ts,rfl,h.ext,h.own,h.toks⟩
 refine⟨_,lcO h.at_ rfl,?_⟩
 refine fkI (fun hb=>?_) (fun _=>fin)
 have hb':σ.bad=false:=by simpa using hb
 refine⟨_,lcO h.at_ rfl,?_⟩
 refine fkI (fun hlt=>?_) (fun _=>fin)
 have hlt':σ.pos<σ.s.size:=by simp at hlt;exact hlt
 refine(ki0 H H3 H.size σ ts h hs hlt').mono ?_
 rintro _ H4 ⟨rfl,σ',ts',h',hs',hstep⟩
 refine⟨(),rfl,⟨σ',ts',h',hs'⟩,?_⟩
 dsimp only
 rw[lcO h'.at_ (o:=3) (g:=false) (m:=1) (v:= .bool σ'.bad) rfl,lcO h'.at_ (o:=1) (g:=false) (m:=1) (v:= .int .i64 σ'.pos) rfl,
  lcO h.at_ (o:=3) (g:=false) (m:=1) (v:= .bool σ.bad) rfl,lcO h.at_ (o:=1) (g:=false) (m:=1) (v:= .int .i64 σ.pos) rfl,hb']
 rcases hstep with h1|h1
 ·rw[h1];dsimp only;omega
 ·cases σ'.bad with
  |true=>dsimp only;omega
  |false=>have:=h'.le;dsimp only;rw[hs'] at this;omega
theorem keR (s:BA) (H:Heap) (hs:s.size<268435456):Fn PP fq78 #[.string s] H (k93 s H):=by
 refine Lex.enter s H _ ?_
 unfold Lex.W
 refine(ki1 s H hs).mono ?_
 rintro _ H' ⟨a,n,c,ok,sure,ts,rfl,he,ho,ht⟩
 refine⟨((a,n,c),ok,sure),rfl,fkI (fun _=>rkI ?_) (fun hb=>rkI ?_)⟩
 ·exact⟨_,_,_,_,_,[],rfl,he,OwnS.nil _ _ _,by simp⟩
 ·exact⟨_,_,_,_,_,ts,rfl,he,ho,ht⟩
theorem k7O {a b:BA} (h:(a.toList==b.toList)=true):a=b:=by
 have:=eq_of_beq h
 rw[Go.ByteArray.toList_eq,Go.ByteArray.toList_eq] at this
 cases a;cases b
 congr 1
 exact Array.toList_inj.1 this
theorem kb4 (s:BA) (kind:Int) (H:Heap) (hs:s.size<268435456) (hk:kind=16∨kind=17):
 Fn PP fq50 #[.string s,.int .i64 kind] H fun v H'=> ∃b,v= .bool b∧Ext [] H H'∧(b=true→Num s 0 kind s.size):=by
 refine IsNumber.enter s kind H _ ?_
 unfold IsNumber.W
 refine(keR s H hs).mono ?_
 rintro _ H' ⟨a,n,c,ok,sure,ts,rfl,he,ho,ht⟩
 have no:rk [.bool false] H' fun v H'=> ∃b,v= .bool b∧Ext [] H H'∧(b=true→Num s 0 kind s.size):=rkI ⟨false,rfl,he,by simp⟩
 refine⟨((a,n,c),ok,sure),rfl,fkI (fun _=>?_) (fun _=>no)⟩
 refine fkI (fun _=>?_) (fun _=>no)
 refine fkI (fun h1=>?_) (fun _=>no)
 have h1':n=1:=by simp at h1;omega
 subst h1'
 obtain⟨t,rfl⟩: ∃t,ts=[t]:=by
  have:=ho.1
  cases ts with
  |nil=>simp[tkL] at this
  |cons t r=>
   cases r with
   |nil=>exact⟨t,rfl⟩
   |cons t2 r=>simp[tkL,Tk.vals] at this
 obtain⟨hl0,r,rfl⟩:=ho.load (k:=0) (v:= .int .i64 t.kind) rfl
 obtain⟨hl1,_⟩:=ho.load (k:=1) (v:= .string t.value) rfl
 refine⟨k0k (by omega) (by dsimp only;omega),_,hl0,fkI (fun hk2=>?_) (fun _=>no)⟩
 refine⟨k0k (by omega) (by dsimp only;omega),_,hl1,rkI ⟨_,rfl,he,fun hv=>?_⟩⟩
 have hk':t.kind=kind:=by simpa using hk2
 obtain⟨hnum,h3,h4,h5⟩:=ht t (by simp) (by rw[hk'];exact hk)
 have hv':=k7O hv
 have hz:t.value.size=t.stop -t.start:=by rw[h5,ByteArray.size_extract];omega
 rw[hv'] at hz
 have e1:t.start=0:=by omega
 have e2:t.stop=s.size:=by omega
 rw[e1,e2,hk'] at hnum
 exact hnum
inductive Pts (s:BA) (P:Nat→Int→Prop):Nat→Prop
 |done:Pts s P s.size
 |step (i:Nat) (c:Int) (n:Nat):i<s.size→k0A s i=(c,n)→n≠0→P i c→Pts s P (i+n)→Pts s P i
def k42 (s:BA):Prop:=Pts s (fun _ c=>c≠0∧c≤65535) 0
theorem k1G (s:BA) (H:Heap) (hs:s.size<268435456):Fn PP fq51 #[.string s] H fun v H'=> ∃b,v= .bool b∧H=H'∧(b=true→k42 s):=by
 refine textable.enter s H _ ?_
 unfold textable.W
 refine⟨fun z H'=>H=H'∧ ∃k:Nat,z.1=k∧k≤s.size∧(Pts s (fun _ c=>c≠0∧c≤65535) k→k42 s),fun z _=>s.size -z.1.toNat,⟨rfl,0,rfl,Nat.zero_le _,id⟩,?_⟩
 rintro⟨_,_⟩ _ ⟨rfl,k,hk,hks,hT⟩
 dsimp only at hk⊢
 subst hk
 refine fkI (fun hlt=>?_) (fun hge=>?_)
 ·have hlt':k<s.size:=by simp at hlt;exact hlt
  refine(k4A s k H hlt' (by omega)).mono ?_
  rintro _ _ ⟨rfl,rfl⟩
  have hpl:=k4Z s k hlt'
  have hst:=Pts.step (s:=s) (P:=fun _ c=>c≠0∧c≤65535) k (k0A s k).1 (k0A s k).2 hlt' rfl
  generalize k0A s k=cn at hpl hst⊢
  obtain⟨c,n⟩:=cn
  dsimp only at hpl hst
  refine⟨(c,n),rfl,?_⟩
  refine⟨(((n:Int)==0||(c==0||decide (c>65535))),()),?_,?_⟩
  ·refine fkI (fun h1=>⟨by rw[h1];rfl,rfl⟩) (fun h1=>?_)
   refine fkI (fun h2=>⟨by rw[h1,h2];rfl,rfl⟩) (fun h2=>⟨by rw[h1,h2];rfl,rfl⟩)
  ·refine fkI (fun _=>rkI ⟨false,rfl,rfl,by simp⟩) (fun h1=>?_)
   simp at h1
   have hn:n≠0:=by omega
   dsimp only
   rw[k38 (by omega) n (by omega)]
   exact⟨⟨rfl,k+n,rfl,by omega,fun hp=>hT (hst hn ⟨h1.2.1,by omega⟩ hp)⟩,by omega⟩
 ·have hge':k=s.size:=by simp at hge;omega
  subst hge'
  exact rkI ⟨true,rfl,rfl,fun _=>hT .done⟩
def k32:BA:=bs [34,34,34]
def k2a (s:BA):BA:=bs [10]++s++bs [10]
def k2m (s:BA) (i:Nat) (c:Int):Prop:=(c=9∨c=10∨32≤c)∧c≠127∧c≠65279∧c≤65535∧k2D s i k32=false
def k3x (s:BA):Prop:=Pts s (k2m s) 0∧k44 (k2a s)=s∧k2O (k2a s)=true
theorem k1D (s:BA) (H:Heap) (hs:s.size<268435450):Fn PP fq52 #[.string s] H fun v H'=> ∃b,v= .bool b∧Ext [] H H'∧(b=true→k3x s):=by
 refine blockable.enter s H _ ?_
 unfold blockable.W
 refine⟨fun z H'=>H=H'∧ ∃k:Nat,z.1=k∧k≤s.size∧(Pts s (k2m s) k→Pts s (k2m s) 0),fun z _=>s.size -z.1.toNat,⟨rfl,0,rfl,Nat.zero_le _,id⟩,?_⟩
 rintro⟨_,_⟩ _ ⟨rfl,k,hk,hks,hT⟩
 dsimp only at hk⊢
 subst hk
 refine fkI (fun hlt=>?_) (fun hge=>?_)
 ·have hlt':k<s.size:=by simp at hlt;exact hlt
  refine(k4A s k H hlt' (by omega)).mono ?_
  rintro _ _ ⟨rfl,rfl⟩
  have hpl:=k4Z s k hlt'
  have hst:=Pts.step (s:=s) (P:=k2m s) k (k0A s k).1 (k0A s k).2 hlt' rfl
  generalize k0A s k=cn at hpl hst⊢
  obtain⟨c,n⟩:=cn
  dsimp only at hpl hst
  refine⟨(c,n),rfl,?_⟩
  refine⟨fun y H'=>H=H'∧(y.1=false→n≠0∧k2m s k c),?_,?_⟩
  ·have yes:H=H∧((true:Bool)=false→n≠0∧k2m s k c):=⟨rfl,by simp⟩
   have last:(n:Int)≠0→(c=9∨c=10∨32≤c)→c≠127→c≠65279→c≤65535→k00 PP fq80 #[(.string s),(.int .i64 k),(.string (bs [34,34,34]))] H k04 fun(x9:Bool) H10=>
    H=H10∧(x9=false→n≠0∧k2m s k c):=by
    intro h0 h1 h2 h3 h4
    refine(k4s s _ k H (by omega) (by omega) (by decide)).mono ?_
    rintro _ _ ⟨rfl,rfl⟩
    exact⟨_,rfl,rfl,fun h5=>⟨by omega,h1,h2,h3,h4,h5⟩⟩
   refine fkI (fun _=>yes) (fun h0=>?_)
   have h0':(n:Int)≠0:=by simpa using h0
   have tail:(c=9∨c=10∨32≤c)→k02 (c==127) (H=H∧((true:Bool)=false→n≠0∧k2m s k c)) (k02 (c==65279) (H=H∧((true:Bool)=false→n≠0∧k2m s k c))
    (k02 (decide (c>65535)) (H=H∧((true:Bool)=false→n≠0∧k2m s k c)) (k00 PP fq80 #[(.string s),(.int .i64 k),(.string (bs [34,34,34]))] H k04 fun(x9:Bool) H10=>
    H=H10∧(x9=false→n≠0∧k2m s k c)))):=by
    intro h1
    refine fkI (fun _=>yes) (fun h2=>fkI (fun _=>yes) (fun h3=>fkI (fun _=>yes) (fun h4=>last h0' h1 ?_ ?_ ?_)))
    ·simpa using h2
    ·simpa using h3
    ·simpa using h4
   refine fkI (fun h1=>fkI (fun h2=>fkI (fun _=>yes) (fun h3=>tail ?_)) (fun h2=>tail ?_)) (fun h1=>tail ?_)
   ·have: ¬c<32:=by simpa using h3
    right;right;omega
   ·right;left;simpa using h2
   ·left;simpa using h1
  ·rintro⟨b,_⟩ _ ⟨rfl,hb⟩
   refine fkI (fun _=>rkI ⟨false,rfl,Ext.refl _ _,by simp⟩) (fun h1=>?_)
   obtain⟨hn,hB⟩:=hb h1
   dsimp only
   rw[k38 (by omega) n (by omega)]
   exact⟨⟨rfl,k+n,rfl,by omega,fun hp=>hT (hst hn hB hp)⟩,by omega⟩
 ·have hge':k=s.size:=by simp at hge;omega
  subst hge'
  have e1:(bs [10]).size=1:=rfl
  have hsz:(bs [10]++s++bs [10]).size=s.size+2:=by rw[ByteArray.size_append,ByteArray.size_append,e1];omega
  have hsz1:(bs [10]++s).size=s.size+1:=by rw[ByteArray.size_append,e1];omega
  refine⟨fun y H'=>Ext [] H H'∧(y.1=true→k3x s),?_,?_⟩
  ·refine⟨by rw[e1];omega,by rw[hsz1,e1];omega,(kb0 _ H (by rw[hsz];omega)).mono ?_⟩
   rintro _ H2 ⟨rfl,he⟩
   refine⟨_,rfl,fkI (fun h1=>?_) (fun _=>⟨he,by simp⟩)⟩
   refine⟨by rw[e1];omega,by rw[hsz1,e1];omega,(kdz _ H2 (by rw[hsz];omega)).mono ?_⟩
   rintro _ H3 ⟨rfl,he3⟩
   exact⟨_,rfl,he.trans he3,fun h2=>⟨hT .done,k7O h1,h2⟩⟩
  ·rintro⟨b,_⟩ H4 ⟨he,hb⟩
   exact rkI ⟨b,rfl,he,hb⟩
theorem k0t (a b:BA):(a.toList==b.toList)=decide (a=b):=by
 cases h:(a.toList==b.toList) with
 |true=>rw[k7O h];simp
 |false=>
  symm
  rw[decide_eq_false_iff_not]
  rintro rfl
  simp at h
abbrev eB:BA:=bs []
abbrev onB:BA:=bs [111,110]
abbrev k8i:BA:=bs [113,117,101,114,121]
abbrev kia:BA:=bs [109,117,116,97,116,105,111,110]
abbrev kkq:BA:=bs [115,117,98,115,99,114,105,112,116,105,111,110]
abbrev k37:BA:=bs [116,114,117,101]
abbrev k2I:BA:=bs [102,97,108,115,101]
abbrev kd3:BA:=bs [110,117,108,108]
def k2p (s:BA):Prop:=s=k8i∨s=kia∨s=kkq
inductive BodyP (n:Nd):Prop
 |empty:(n.kind=1∨n.kind=5∨n.kind=17∨n.kind=18∨n.kind=21∨n.kind=22∨n.kind=24∨n.kind=39)→n.name=eB→n.text=eB→n.flag=0→BodyP n
 |operation:n.kind=2→k2p n.text→(n.name=eB∨k19 n.name)→(n.flag=0∨n.flag=1∧n.text=k8i∧n.name=eB)→BodyP n
 |fragment:n.kind=3→k19 n.name→n.name≠onB→k19 n.text→n.flag=0→BodyP n
 |spread:n.kind=7→k19 n.name→n.name≠onB→n.text=eB→n.flag=0→BodyP n
 |inline:n.kind=8→n.name=eB→(n.text=eB∨k19 n.text)→n.flag=0→BodyP n
 |number:(n.kind=12∨n.kind=13)→n.name=eB→n.flag=0→Num n.text 0 (n.kind+4) n.text.size→BodyP n
 |string:(n.kind=14∨n.kind=23)→n.name=eB→(n.flag=0∧k42 n.text∨n.flag=1∧k3x n.text)→BodyP n
 |boolean:n.kind=15→n.name=eB→n.text=eB→(n.flag=0∨n.flag=1)→BodyP n
 |enum:(n.kind=16∨n.kind=35)→k19 n.name→n.name≠k37→n.name≠k2I→n.name≠kd3→n.text=eB→n.flag=0→BodyP n
 |operationType:n.kind=25→k2p n.text→k19 n.name→n.flag=0→BodyP n
 |name:(n.kind=4∨n.kind=6∨9≤n.kind∧n.kind≤11∨19≤n.kind∧n.kind≤20∨26≤n.kind∧n.kind≤34∨36≤n.kind∧n.kind≤38)→k19 n.name→n.text=eB→n.flag=0→BodyP n
def k2H (n:Nd):Prop:=(n.alias=eB∨n.kind=6∧k19 n.alias)∧BodyP n
theorem kgn (n:Nd) (H:Heap) (h1:n.name.size<4294967296) (h2:n.alias.size<4294967296) (h3:n.text.size<4294967296) (h4:n.text.size<268435450):
 Fn PP fq35 #[.agg n.val] H fun v H'=> ∃b,v= .bool b∧Ext [] H H'∧(b=true→k2H n):=by
 refine formed.enter n H _ ?_
 unfold formed.W
 refine nbI fun H2 _ hb2 ext2 _=>?_
 refine⟨fun y H'=>H2=H'∧(y.1=false→n.alias=eB∨n.kind=6∧k19 n.alias),?_,?_⟩
 ·refine⟨_,lcO hb2 rfl,?_⟩
  refine fkI (fun _=>?_) (fun h=>⟨rfl,fun _=> .inl ?_⟩)
  ·refine⟨_,lcO hb2 rfl,?_⟩
   refine fkI (fun _=>⟨rfl,by simp⟩) (fun hk=>?_)
   refine⟨_,lcO hb2 rfl,?_⟩
   refine(k1w _ _ h2).mono ?_
   rintro _ _ ⟨b,rfl,rfl,hb⟩
   refine⟨_,rfl,rfl,fun h=> .inr ⟨by simpa using hk,hb (by simpa using h)⟩⟩
  ·rw[k0t] at h;simpa using h
 rintro⟨bad,_⟩ _ ⟨rfl,hal⟩
 refine fkI (fun _=>rkI ⟨false,rfl,ext2,by simp⟩) (fun hbad=>?_)
 have hal:=hal hbad
 refine⟨_,lcO hb2 rfl,?_⟩
 refine fkI (fun hk=>?_) (fun _=>?_)
 ·(repeat' (first|refine fkI (fun _=>?_) (fun _=>?_)|refine⟨_,lcO hb2 rfl,?_⟩|(refine(k1w _ _ (by assumption)).mono ?_;rintro _ _ ⟨_,rfl,rfl,_⟩;refine⟨_,rfl,?_⟩)|(refine(k1D _ _ (by omega)).mono ?_;rintro _ _ ⟨_,rfl,_,_⟩;refine⟨_,rfl,?_⟩)|(refine(k1G _ _ (by omega)).mono ?_;rintro _ _ ⟨_,rfl,rfl,_⟩;refine⟨_,rfl,?_⟩)))<;>(refine rkI ⟨_,rfl,by first|exact ext2|exact ext2.trans ‹_›,fun hb=>⟨hal,?_⟩⟩)<;>(try simp only[k0t,decide_eq_true_eq,decide_eq_false_iff_not,beq_iff_eq,Bool.false_eq_true] at*)<;>(first|contradiction|exact(BodyP.empty (by omega) ‹_› ‹_› ‹_›)|skip)
 refine fkI (fun hk=>?_) (fun _=>?_)
 ·(repeat' (first|refine fkI (fun _=>?_) (fun _=>?_)|refine⟨_,lcO hb2 rfl,?_⟩|(refine(k1w _ _ (by assumption)).mono ?_;rintro _ _ ⟨_,rfl,rfl,_⟩;refine⟨_,rfl,?_⟩)|(refine(k1D _ _ (by omega)).mono ?_;rintro _ _ ⟨_,rfl,_,_⟩;refine⟨_,rfl,?_⟩)|(refine(k1G _ _ (by omega)).mono ?_;rintro _ _ ⟨_,rfl,rfl,_⟩;refine⟨_,rfl,?_⟩)))<;>(refine rkI ⟨_,rfl,by first|exact ext2|exact ext2.trans ‹_›,fun hb=>⟨hal,?_⟩⟩)<;>(try simp only[k0t,decide_eq_true_eq,decide_eq_false_iff_not,beq_iff_eq,beq_eq_false_iff_ne,Bool.false_eq_true,ne_eq] at*)<;>(first|contradiction|exact(BodyP.empty (by omega) ‹_› ‹_› ‹_›)|skip)
 refine fkI (fun hk=>?_) (fun _=>?_)
 ·(repeat' (first|refine fkI (fun _=>?_) (fun _=>?_)|refine⟨_,lcO hb2 rfl,?_⟩|(refine(k1w _ _ (by assumption)).mono ?_;rintro _ _ ⟨_,rfl,rfl,_⟩;refine⟨_,rfl,?_⟩)|(refine(k1D _ _ (by omega)).mono ?_;rintro _ _ ⟨_,rfl,_,_⟩;refine⟨_,rfl,?_⟩)|(refine(k1G _ _ (by omega)).mono ?_;rintro _ _ ⟨_,rfl,rfl,_⟩;refine⟨_,rfl,?_⟩)))<;>(refine rkI ⟨_,rfl,by first|exact ext2|exact ext2.trans ‹_›,fun hb=>⟨hal,?_⟩⟩)<;>(try simp only[k0t,decide_eq_true_eq,decide_eq_false_iff_not,beq_iff_eq,beq_eq_false_iff_ne,Bool.false_eq_true,ne_eq] at*)<;>(first|contradiction|exact(BodyP.empty (by omega) ‹_› ‹_› ‹_›)|skip)
 refine fkI (fun hk=>?_) (fun _=>?_)
 ·(repeat' (first|refine fkI (fun _=>?_) (fun _=>?_)|refine⟨_,lcO hb2 rfl,?_⟩|(refine(k1w _ _ (by assumption)).mono ?_;rintro _ _ ⟨_,rfl,rfl,_⟩;refine⟨_,rfl,?_⟩)|(refine(k1D _ _ (by omega)).mono ?_;rintro _ _ ⟨_,rfl,_,_⟩;refine⟨_,rfl,?_⟩)|(refine(k1G _ _ (by omega)).mono ?_;rintro _ _ ⟨_,rfl,rfl,_⟩;refine⟨_,rfl,?_⟩)))<;>(refine rkI ⟨_,rfl,by first|exact ext2|exact ext2.trans ‹_›,fun hb=>⟨hal,?_⟩⟩)<;>(try simp only[k0t,decide_eq_true_eq,decide_eq_false_iff_not,beq_iff_eq,beq_eq_false_iff_ne,Bool.false_eq_true,ne_eq] at*)<;>(first|contradiction|exact(BodyP.empty (by omega) ‹_› ‹_› ‹_›)|skip)
 refine fkI (fun hk=>?_) (fun _=>?_)
 ·(repeat' (first|refine fkI (fun _=>?_) (fun _=>?_)|refine⟨_,lcO hb2 rfl,?_⟩|(refine(k1w _ _ (by assumption)).mono ?_;rintro _ _ ⟨_,rfl,rfl,_⟩;refine⟨_,rfl,?_⟩)|(refine(k1D _ _ (by omega)).mono ?_;rintro _ _ ⟨_,rfl,_,_⟩;refine⟨_,rfl,?_⟩)|(refine(k1G _ _ (by omega)).mono ?_;rintro _ _ ⟨_,rfl,rfl,_⟩;refine⟨_,rfl,?_⟩)))<;>(refine rkI ⟨_,rfl,by first|exact ext2|exact ext2.trans ‹_›,fun hb=>⟨hal,?_⟩⟩)<;>(try simp only[k0t,decide_eq_true_eq,decide_eq_false_iff_not,beq_iff_eq,beq_eq_false_iff_ne,Bool.false_eq_true,ne_eq] at*)<;>(first|contradiction|exact(BodyP.empty (by omega) ‹_› ‹_› ‹_›)|skip)
 refine fkI (fun hk=>?_) (fun _=>?_)
 ·(repeat' (first|refine fkI (fun _=>?_) (fun _=>?_)|refine⟨_,lcO hb2 rfl,?_⟩|(refine(k1w _ _ (by assumption)).mono ?_;rintro _ _ ⟨_,rfl,rfl,_⟩;refine⟨_,rfl,?_⟩)|(refine(k1D _ _ (by omega)).mono ?_;rintro _ _ ⟨_,rfl,_,_⟩;refine⟨_,rfl,?_⟩)|(refine(k1G _ _ (by omega)).mono ?_;rintro _ _ ⟨_,rfl,rfl,_⟩;refine⟨_,rfl,?_⟩)))<;>(refine rkI ⟨_,rfl,by first|exact ext2|exact ext2.trans ‹_›,fun hb=>⟨hal,?_⟩⟩)<;>(try simp only[k0t,decide_eq_true_eq,decide_eq_false_iff_not,beq_iff_eq,beq_eq_false_iff_ne,Bool.false_eq_true,ne_eq] at*)<;>(first|contradiction|exact(BodyP.empty (by omega) ‹_› ‹_› ‹_›)|skip)
 refine fkI (fun hk=>?_) (fun _=>?_)
 ·(repeat' (first|refine fkI (fun _=>?_) (fun _=>?_)|refine⟨_,lcO hb2 rfl,?_⟩|(refine(k1w _ _ (by assumption)).mono ?_;rintro _ _ ⟨_,rfl,rfl,_⟩;refine⟨_,rfl,?_⟩)|(refine(k1D _ _ (by omega)).mono ?_;rintro _ _ ⟨_,rfl,_,_⟩;refine⟨_,rfl,?_⟩)|(refine(k1G _ _ (by omega)).mono ?_;rintro _ _ ⟨_,rfl,rfl,_⟩;refine⟨_,rfl,?_⟩)))<;>(refine rkI ⟨_,rfl,by first|exact ext2|exact ext2.trans ‹_›,fun hb=>⟨hal,?_⟩⟩)<;>(try simp only[k0t,decide_eq_true_eq,decide_eq_false_iff_not,beq_iff_eq,beq_eq_false_iff_ne,Bool.false_eq_true,ne_eq] at*)<;>(first|contradiction|exact(BodyP.empty (by omega) ‹_› ‹_› ‹_›)|skip)
 refine fkI (fun hk=>?_) (fun _=>?_)
 ·(repeat' (first|refine fkI (fun _=>?_) (fun _=>?_)|refine⟨_,lcO hb2 rfl,?_⟩|(refine(k1w _ _ (by assumption)).mono ?_;rintro _ _ ⟨_,rfl,rfl,_⟩;refine⟨_,rfl,?_⟩)|(refine(k1D _ _ (by omega)).mono ?_;rintro _ _ ⟨_,rfl,_,_⟩;refine⟨_,rfl,?_⟩)|(refine(k1G _ _ (by omega)).mono ?_;rintro _ _ ⟨_,rfl,rfl,_⟩;refine⟨_,rfl,?_⟩)))<;>(refine rkI ⟨_,rfl,by first|exact ext2|exact ext2.trans ‹_›,fun hb=>⟨hal,?_⟩⟩)<;>(try simp only[k0t,decide_eq_true_eq,decide_eq_false_iff_not,beq_iff_eq,beq_eq_false_iff_ne,Bool.false_eq_true,ne_eq] at*)<;>(first|contradiction|exact(BodyP.empty (by omega) ‹_› ‹_› ‹_›)|skip)
 refine fkI (fun hk=>?_) (fun _=>?_)
 ·(repeat' (first|refine fkI (fun _=>?_) (fun _=>?_)|refine⟨_,lcO hb2 rfl,?_⟩|(refine(k1w _ _ (by assumption)).mono ?_;rintro _ _ ⟨_,rfl,rfl,_⟩;refine⟨_,rfl,?_⟩)|(refine(k1D _ _ (by omega)).mono ?_;rintro _ _ ⟨_,rfl,_,_⟩;refine⟨_,rfl,?_⟩)|(refine(k1G _ _ (by omega)).mono ?_;rintro _ _ ⟨_,rfl,rfl,_⟩;refine⟨_,rfl,?_⟩)))<;>(refine rkI ⟨_,rfl,by first|exact ext2|exact ext2.trans ‹_›,fun hb=>⟨hal,?_⟩⟩)<;>(try simp only[k0t,decide_eq_true_eq,decide_eq_false_iff_not,beq_iff_eq,beq_eq_false_iff_ne,Bool.false_eq_true,ne_eq] at*)<;>(first|contradiction|exact(BodyP.operation hk (by unfold k2p;simp[*]) (by simp[*]) (by simp[*]))|skip)
 refine fkI (fun hk=>?_) (fun _=>?_)
 ·(repeat' (first|refine fkI (fun _=>?_) (fun _=>?_)|refine⟨_,lcO hb2 rfl,?_⟩|(refine(k1w _ _ (by assumption)).mono ?_;rintro _ _ ⟨_,rfl,rfl,_⟩;refine⟨_,rfl,?_⟩)|(refine(k1D _ _ (by omega)).mono ?_;rintro _ _ ⟨_,rfl,_,_⟩;refine⟨_,rfl,?_⟩)|(refine(k1G _ _ (by omega)).mono ?_;rintro _ _ ⟨_,rfl,rfl,_⟩;refine⟨_,rfl,?_⟩)))<;>(refine rkI ⟨_,rfl,by first|exact ext2|exact ext2.trans ‹_›,fun hb=>⟨hal,?_⟩⟩)<;>(try simp only[k0t,Bool.not_eq_true',decide_eq_false_iff_not,beq_iff_eq,beq_eq_false_iff_ne,Bool.false_eq_true,ne_eq] at*)<;>(first|contradiction|exact(BodyP.fragment hk (by simp[*]) (by simp[*]) (by simp[*]) (by simp[*]))|skip)
 refine fkI (fun hk=>?_) (fun _=>?_)
 ·(repeat' (first|refine fkI (fun _=>?_) (fun _=>?_)|refine⟨_,lcO hb2 rfl,?_⟩|(refine(k1w _ _ (by assumption)).mono ?_;rintro _ _ ⟨_,rfl,rfl,_⟩;refine⟨_,rfl,?_⟩)|(refine(k1D _ _ (by omega)).mono ?_;rintro _ _ ⟨_,rfl,_,_⟩;refine⟨_,rfl,?_⟩)|(refine(k1G _ _ (by omega)).mono ?_;rintro _ _ ⟨_,rfl,rfl,_⟩;refine⟨_,rfl,?_⟩)))<;>(refine rkI ⟨_,rfl,by first|exact ext2|exact ext2.trans ‹_›,fun hb=>⟨hal,?_⟩⟩)<;>(try simp only[k0t,Bool.not_eq_true',decide_eq_true_eq,decide_eq_false_iff_not,beq_iff_eq,beq_eq_false_iff_ne,Bool.false_eq_true,ne_eq] at*)<;>(first|contradiction|exact(BodyP.spread hk (by simp[*]) (by simp[*]) (by simp[*]) (by simp[*]))|skip)
 refine fkI (fun hk=>?_) (fun _=>?_)
 ·(repeat' (first|refine fkI (fun _=>?_) (fun _=>?_)|refine⟨_,lcO hb2 rfl,?_⟩|(refine(k1w _ _ (by assumption)).mono ?_;rintro _ _ ⟨_,rfl,rfl,_⟩;refine⟨_,rfl,?_⟩)|(refine(k1D _ _ (by omega)).mono ?_;rintro _ _ ⟨_,rfl,_,_⟩;refine⟨_,rfl,?_⟩)|(refine(k1G _ _ (by omega)).mono ?_;rintro _ _ ⟨_,rfl,rfl,_⟩;refine⟨_,rfl,?_⟩)))<;>(refine rkI ⟨_,rfl,by first|exact ext2|exact ext2.trans ‹_›,fun hb=>⟨hal,?_⟩⟩)<;>(try simp only[k0t,decide_eq_true_eq,decide_eq_false_iff_not,beq_iff_eq,beq_eq_false_iff_ne,Bool.false_eq_true,ne_eq] at*)<;>(first|contradiction|exact(BodyP.inline hk (by simp[*]) (by simp[*]) (by simp[*]))|skip)
 refine fkI (fun hk=>?_) (fun _=>?_)
 ·have hk':n.kind=12:=by simpa using hk
  have no: ∀H',Ext [] H H'→rk [.bool false] H' fun v H'=> ∃b,v= .bool b∧Ext [] H H'∧(b=true→k2H n):=fun H' he=>rkI ⟨false,rfl,he,by simp⟩
  refine⟨_,lcO hb2 rfl,?_⟩
  refine fkI (fun g1=>?_) (fun _=>no _ ext2)
  refine⟨_,lcO hb2 rfl,?_⟩
  refine fkI (fun g2=>?_) (fun _=>no _ ext2)
  refine⟨_,lcO hb2 rfl,?_⟩
  refine⟨_,lcO hb2 rfl,?_⟩
  dsimp only
  have e:IntKind.i64.wrap (IntKind.i64.wrap (16+n.kind) -12)=n.kind+4:=by rw[hk'];rfl
  rw[e]
  refine(kb4 _ _ _ (by omega) (by omega)).mono ?_
  rintro _ _ ⟨_,rfl,he,hb⟩
  refine⟨_,rfl,rkI ⟨_,rfl,ext2.trans he,fun h=>⟨hal,BodyP.number (by omega) ?_ (by simpa using g2) (hb h)⟩⟩⟩
  rw[k0t] at g1
  exact of_decide_eq_true g1
 refine fkI (fun hk=>?_) (fun _=>?_)
 ·have hk':n.kind=13:=by simpa using hk
  have no: ∀H',Ext [] H H'→rk [.bool false] H' fun v H'=> ∃b,v= .bool b∧Ext [] H H'∧(b=true→k2H n):=fun H' he=>rkI ⟨false,rfl,he,by simp⟩
  refine⟨_,lcO hb2 rfl,?_⟩
  refine fkI (fun g1=>?_) (fun _=>no _ ext2)
  refine⟨_,lcO hb2 rfl,?_⟩
  refine fkI (fun g2=>?_) (fun _=>no _ ext2)
  refine⟨_,lcO hb2 rfl,?_⟩
  refine⟨_,lcO hb2 rfl,?_⟩
  dsimp only
  have e:IntKind.i64.wrap (IntKind.i64.wrap (16+n.kind) -12)=n.kind+4:=by rw[hk'];rfl
  rw[e]
  refine(kb4 _ _ _ (by omega) (by omega)).mono ?_
  rintro _ _ ⟨_,rfl,he,hb⟩
  refine⟨_,rfl,rkI ⟨_,rfl,ext2.trans he,fun h=>⟨hal,BodyP.number (by omega) ?_ (by simpa using g2) (hb h)⟩⟩⟩
  rw[k0t] at g1
  exact of_decide_eq_true g1
 refine fkI (fun hk=>?_) (fun _=>?_)
 ·(repeat' (first|refine fkI (fun _=>?_) (fun _=>?_)|refine⟨_,lcO hb2 rfl,?_⟩|(refine(k1w _ _ (by assumption)).mono ?_;rintro _ _ ⟨_,rfl,rfl,_⟩;refine⟨_,rfl,?_⟩)|(refine(k1D _ _ (by omega)).mono ?_;rintro _ _ ⟨_,rfl,_,_⟩;refine⟨_,rfl,?_⟩)|(refine(k1G _ _ (by omega)).mono ?_;rintro _ _ ⟨_,rfl,rfl,_⟩;refine⟨_,rfl,?_⟩)))<;>(refine rkI ⟨_,rfl,by first|exact ext2|exact ext2.trans ‹_›,fun hb=>⟨hal,?_⟩⟩)<;>(try simp only[k0t,decide_eq_true_eq,decide_eq_false_iff_not,beq_iff_eq,beq_eq_false_iff_ne,Bool.false_eq_true,ne_eq] at*)<;>(first|contradiction|exact(BodyP.string (by omega) (by simp[*]) (by simp_all))|skip)
 refine fkI (fun hk=>?_) (fun _=>?_)
 ·(repeat' (first|refine fkI (fun _=>?_) (fun _=>?_)|refine⟨_,lcO hb2 rfl,?_⟩|(refine(k1w _ _ (by assumption)).mono ?_;rintro _ _ ⟨_,rfl,rfl,_⟩;refine⟨_,rfl,?_⟩)|(refine(k1D _ _ (by omega)).mono ?_;rintro _ _ ⟨_,rfl,_,_⟩;refine⟨_,rfl,?_⟩)|(refine(k1G _ _ (by omega)).mono ?_;rintro _ _ ⟨_,rfl,rfl,_⟩;refine⟨_,rfl,?_⟩)))<;>(refine rkI ⟨_,rfl,by first|exact ext2|exact ext2.trans ‹_›,fun hb=>⟨hal,?_⟩⟩)<;>(try simp only[k0t,decide_eq_true_eq,decide_eq_false_iff_not,beq_iff_eq,beq_eq_false_iff_ne,Bool.false_eq_true,ne_eq] at*)<;>(first|contradiction|exact(BodyP.string (by omega) (by simp[*]) (by simp_all))|skip)
 refine fkI (fun hk=>?_) (fun _=>?_)
 ·(repeat' (first|refine fkI (fun _=>?_) (fun _=>?_)|refine⟨_,lcO hb2 rfl,?_⟩|(refine(k1w _ _ (by assumption)).mono ?_;rintro _ _ ⟨_,rfl,rfl,_⟩;refine⟨_,rfl,?_⟩)|(refine(k1D _ _ (by omega)).mono ?_;rintro _ _ ⟨_,rfl,_,_⟩;refine⟨_,rfl,?_⟩)|(refine(k1G _ _ (by omega)).mono ?_;rintro _ _ ⟨_,rfl,rfl,_⟩;refine⟨_,rfl,?_⟩)))<;>(refine rkI ⟨_,rfl,by first|exact ext2|exact ext2.trans ‹_›,fun hb=>⟨hal,?_⟩⟩)<;>(try simp only[k0t,decide_eq_true_eq,decide_eq_false_iff_not,beq_iff_eq,beq_eq_false_iff_ne,Bool.false_eq_true,ne_eq] at*)<;>(first|contradiction|exact(BodyP.boolean hk (by simp[*]) (by simp[*]) (by simp[*]))|skip)
 refine fkI (fun hk=>?_) (fun _=>?_)
 ·(repeat' (first|refine fkI (fun _=>?_) (fun _=>?_)|refine⟨_,lcO hb2 rfl,?_⟩|(refine(k1w _ _ (by assumption)).mono ?_;rintro _ _ ⟨_,rfl,rfl,_⟩;refine⟨_,rfl,?_⟩)|(refine(k1D _ _ (by omega)).mono ?_;rintro _ _ ⟨_,rfl,_,_⟩;refine⟨_,rfl,?_⟩)|(refine(k1G _ _ (by omega)).mono ?_;rintro _ _ ⟨_,rfl,rfl,_⟩;refine⟨_,rfl,?_⟩)))<;>(refine rkI ⟨_,rfl,by first|exact ext2|exact ext2.trans ‹_›,fun hb=>⟨hal,?_⟩⟩)<;>(try simp only[k0t,Bool.not_eq_true',decide_eq_true_eq,decide_eq_false_iff_not,beq_iff_eq,beq_eq_false_iff_ne,Bool.false_eq_true,ne_eq] at*)<;>(first|contradiction|exact(BodyP.enum (by omega) (by simp_all) (by simp_all) (by simp_all) (by simp_all) (by simp_all) (by simp_all))|skip)
 refine fkI (fun hk=>?_) (fun _=>?_)
 ·(repeat' (first|refine fkI (fun _=>?_) (fun _=>?_)|refine⟨_,lcO hb2 rfl,?_⟩|(refine(k1w _ _ (by assumption)).mono ?_;rintro _ _ ⟨_,rfl,rfl,_⟩;refine⟨_,rfl,?_⟩)|(refine(k1D _ _ (by omega)).mono ?_;rintro _ _ ⟨_,rfl,_,_⟩;refine⟨_,rfl,?_⟩)|(refine(k1G _ _ (by omega)).mono ?_;rintro _ _ ⟨_,rfl,rfl,_⟩;refine⟨_,rfl,?_⟩)))<;>(refine rkI ⟨_,rfl,by first|exact ext2|exact ext2.trans ‹_›,fun hb=>⟨hal,?_⟩⟩)<;>(try simp only[k0t,Bool.not_eq_true',decide_eq_true_eq,decide_eq_false_iff_not,beq_iff_eq,beq_eq_false_iff_ne,Bool.false_eq_true,ne_eq] at*)<;>(first|contradiction|exact(BodyP.enum (by omega) (by simp_all) (by simp_all) (by simp_all) (by simp_all) (by simp_all) (by simp_all))|skip)
 refine fkI (fun hk=>?_) (fun _=>?_)
 ·(repeat' (first|refine fkI (fun _=>?_) (fun _=>?_)|refine⟨_,lcO hb2 rfl,?_⟩|(refine(k1w _ _ (by assumption)).mono ?_;rintro _ _ ⟨_,rfl,rfl,_⟩;refine⟨_,rfl,?_⟩)|(refine(k1D _ _ (by omega)).mono ?_;rintro _ _ ⟨_,rfl,_,_⟩;refine⟨_,rfl,?_⟩)|(refine(k1G _ _ (by omega)).mono ?_;rintro _ _ ⟨_,rfl,rfl,_⟩;refine⟨_,rfl,?_⟩)))<;>(refine rkI ⟨_,rfl,by first|exact ext2|exact ext2.trans ‹_›,fun hb=>⟨hal,?_⟩⟩)<;>(try simp only[k0t,decide_eq_true_eq,decide_eq_false_iff_not,beq_iff_eq,beq_eq_false_iff_ne,Bool.false_eq_true,ne_eq] at*)<;>(first|contradiction|exact(BodyP.operationType hk (by unfold k2p;simp[*]) (by simp_all) (by simp_all))|skip)
 (repeat' (first|refine fkI (fun _=>?_) (fun _=>?_)|refine⟨_,lcO hb2 rfl,?_⟩|(refine(k1w _ _ (by assumption)).mono ?_;rintro _ _ ⟨_,rfl,rfl,_⟩;refine⟨_,rfl,?_⟩)|(refine(k1D _ _ (by omega)).mono ?_;rintro _ _ ⟨_,rfl,_,_⟩;refine⟨_,rfl,?_⟩)|(refine(k1G _ _ (by omega)).mono ?_;rintro _ _ ⟨_,rfl,rfl,_⟩;refine⟨_,rfl,?_⟩)))<;>(refine rkI ⟨_,rfl,by first|exact ext2|exact ext2.trans ‹_›,fun hb=>⟨hal,?_⟩⟩)<;>(try simp only[k0t,decide_eq_true_eq,decide_eq_false_iff_not,beq_iff_eq,beq_eq_false_iff_ne,Bool.false_eq_true,ne_eq] at*)<;>(first|contradiction|exact(BodyP.name (by omega) (by simp_all) (by simp_all) (by simp_all))|skip)
inductive Tr where
 |node (n:Nd) (ks:List Tr)
def Tr.n:Tr→Nd
 | .node n _=>n
def Tr.ks:Tr→List Tr
 | .node _ ks=>ks
mutual
def flat:Tr→List Nd
 | .node n ks=>n::k0a ks
def k0a:List Tr→List Nd
 |[]=> []
 |t::r=>flat t++k0a r
end
mutual
def Ws:Tr→Prop
 | .node n ks=>n.size=((1+(k0a ks).length:Nat):Int)∧WsL ks
def WsL:List Tr→Prop
 |[]=>True
 |t::r=>Ws t∧WsL r
end
mutual
def preT:Tr→List Tr
 | .node n ks=> .node n ks::preL ks
def preL:List Tr→List Tr
 |[]=> []
 |t::r=>preT t++preL r
end
def At (ds:List Nd) (p:Nat) (l:List Nd):Prop:= ∃post,ds.drop p=l++post
theorem At.le {ds l:List Nd} {p:Nat} (h:At ds p l) (hp:p≤ds.length):p+l.length≤ds.length:=by
 obtain⟨post,h⟩:=h
 have:=congrArg List.length h
 simp at this;omega
theorem At.le' {ds l:List Nd} {p:Nat} (h:At ds p l) (hl:l≠ []):p+l.length≤ds.length:=by
 obtain⟨post,h⟩:=h
 have:=congrArg List.length h
 have:0<l.length:=List.length_pos_iff.2 hl
 simp at*;omega
theorem At.left {ds a b:List Nd} {p:Nat} (h:At ds p (a++b)):At ds p a:=by
 obtain⟨post,h⟩:=h;exact⟨b++post,by rw[h,List.append_assoc]⟩
theorem At.right {ds a b:List Nd} {p:Nat} (h:At ds p (a++b)):At ds (p+a.length) b:=by
 obtain⟨post,h⟩:=h
 refine⟨post,?_⟩
 rw[←List.drop_drop,h,List.append_assoc,List.drop_left]
theorem At.head {ds l:List Nd} {n:Nd} {p:Nat} (h:At ds p (n::l)):ds[p]?=some n:=by
 obtain⟨post,h⟩:=h
 have:(ds.drop p)[0]?=some n:=by rw[h];rfl
 simpa using this
theorem At.tail {ds l:List Nd} {n:Nd} {p:Nat} (h:At ds p (n::l)):At ds (p+1) l:=by
 have:At ds p ([n]++l):=h
 exact this.right
theorem At.root {ds:List Nd} {t:Tr} {p:Nat} (h:At ds p (flat t)):ds[p]?=some t.n:=by
 cases t with|node n ks=>simp only[flat] at h;exact h.head
theorem At.kids {ds:List Nd} {n:Nd} {ks:List Tr} {p:Nat} (h:At ds p (flat (.node n ks))):At ds (p+1) (k0a ks):=by
 simp only[flat] at h;exact h.tail
theorem At.trans {ds a b:List Nd} {p q:Nat} (h:At ds p a) (k:At a q b) (hq:q≤a.length):At ds (p+q) b:=by
 obtain⟨x,hx⟩:=h
 obtain⟨y,hy⟩:=k
 refine⟨y++x,?_⟩
 rw[←List.drop_drop,hx,List.drop_append_of_le_length hq,hy,List.append_assoc]
theorem k1z (t:Tr):0<(flat t).length:=by cases t;simp[flat]
theorem k1i (t:Tr):flat t≠ []:=by cases t;simp[flat]
theorem k4f (n:Nd) (ks:List Tr):(flat (.node n ks)).length=1+(k0a ks).length:=by simp[flat];omega
theorem Ws.size {t:Tr} (h:Ws t):t.n.size=((flat t).length:Nat):=by
 cases t with|node n ks=>simp only[Ws] at h;simp only[k4f];exact h.1
theorem Ws.kids {t:Tr} (h:Ws t):WsL t.ks:=by
 cases t with|node n ks=>simp only[Ws] at h;exact h.2
theorem WsL.mem {l:List Tr} (h:WsL l): ∀t∈l,Ws t:=by
 induction l with
 |nil=>simp
 |cons a r ih=>
  simp only[WsL] at h
  intro t ht
  rcases List.mem_cons.1 ht with rfl|ht
  ·exact h.1
  ·exact ih h.2 t ht
theorem k0L (a b:List Tr):k0a (a++b)=k0a a++k0a b:=by
 induction a with
 |nil=>simp[k0a]
 |cons x r ih=>simp[k0a,ih]
theorem kfx {a b:List Tr}:WsL (a++b)↔WsL a∧WsL b:=by
 induction a with
 |nil=>simp[WsL]
 |cons x r ih=>simp[WsL,ih,and_assoc]
mutual
theorem k8f: ∀t:Tr,(preT t).length=(flat t).length
 | .node n ks=>by simp[preT,flat,kdC ks]
theorem kdC: ∀l:List Tr,(preL l).length=(k0a l).length
 |[]=>rfl
 |t::r=>by simp[preL,k0a,k8f t,kdC r]
end
mutual
theorem kaq: ∀(t:Tr) (i:Nat) (u:Tr),(preT t)[i]?=some u→At (flat t) i (flat u)
 | .node n ks,0,u,h=>by
  simp[preT] at h;subst h;exact⟨[],by simp⟩
 | .node n ks,i+1,u,h=>by
  simp only[preT,List.getElem?_cons_succ] at h
  obtain⟨post,hp⟩:=kdB ks i u h
  exact⟨post,by simp only[flat,List.drop_succ_cons];exact hp⟩
theorem kdB: ∀(l:List Tr) (i:Nat) (u:Tr),(preL l)[i]?=some u→At (k0a l) i (flat u)
 |[],i,u,h=>by simp[preL] at h
 |t::r,i,u,h=>by
  simp only[preL] at h
  by_cases hi:i<(preT t).length
  ·rw[List.getElem?_append_left hi] at h
   obtain⟨post,hp⟩:=kaq t i u h
   refine⟨post++k0a r,?_⟩
   rw[k8f] at hi
   simp only[k0a]
   rw[List.drop_append_of_le_length (by omega),hp,List.append_assoc]
  ·rw[List.getElem?_append_right (by omega)] at h
   obtain⟨post,hp⟩:=kdB r _ u h
   rw[k8f] at hi hp
   refine⟨post,?_⟩
   simp only[k0a]
   rw[←hp,List.drop_append,List.drop_eq_nil_of_le (by omega)]
   simp
end
mutual
theorem k8g: ∀(t:Tr),Ws t→ ∀u∈preT t,Ws u
 | .node n ks,h,u,hu=>by
  simp only[preT,List.mem_cons] at hu
  rcases hu with rfl|hu
  ·exact h
  ·simp only[Ws] at h;exact kdE ks h.2 u hu
theorem kdE: ∀(l:List Tr),WsL l→ ∀u∈preL l,Ws u
 |[],_,u,hu=>by simp[preL] at hu
 |t::r,h,u,hu=>by
  simp only[WsL] at h
  simp only[preL,List.mem_append] at hu
  rcases hu with hu|hu
  ·exact k8g t h.1 u hu
  ·exact kdE r h.2 u hu
end
theorem k3t (t:Tr):t∈preT t:=by cases t;simp[preT]
theorem kiZ {l:List Tr} {t:Tr} (h:t∈l): ∀u∈preT t,u∈preL l:=by
 induction l with
 |nil=>simp at h
 |cons a r ih=>
  intro u hu
  simp only[preL,List.mem_append]
  rcases List.mem_cons.1 h with rfl|h
  ·exact .inl hu
  ·exact .inr (ih h u hu)
theorem k52 {t k:Tr} (h:k∈t.ks): ∀u∈preT k,u∈preT t:=by
 cases t with|node n ks=>
 intro u hu
 simp only[preT,List.mem_cons]
 exact .inr (kiZ h u hu)
mutual
theorem k3G: ∀t:Tr,flat t=(preT t).map Tr.n
 | .node n ks=>by simp[flat,preT,Tr.n,kc1 ks]
theorem kc1: ∀l:List Tr,k0a l=(preL l).map Tr.n
 |[]=>rfl
 |t::r=>by simp[k0a,preL,k3G t,kc1 r]
end
inductive PosL (ds:List Nd):List Nat→List Tr→Prop
 |nil:PosL ds [] []
 |cons {p:Nat} {t:Tr} {ps:List Nat} {l:List Tr}:At ds p (flat t)→Ws t→PosL ds ps l→PosL ds (p::ps) (t::l)
theorem PosL.length {ds:List Nd} {ps:List Nat} {l:List Tr} (h:PosL ds ps l):ps.length=l.length:=by
 induction h with
 |nil=>rfl
 |cons _ _ _ ih=>simp[ih]
theorem PosL.snoc {ds:List Nd} {ps:List Nat} {l:List Tr} (h:PosL ds ps l) {p:Nat} {t:Tr} (hp:At ds p (flat t)) (hw:Ws t):PosL ds (ps++[p]) (l++[t]):=by
 induction h with
 |nil=>exact .cons hp hw .nil
 |cons a w _ ih=>exact .cons a w ih
theorem PosL.get {ds:List Nd} {ps:List Nat} {l:List Tr} (h:PosL ds ps l): ∀i (hi:i<l.length),∃p,ps[i]?=some p∧At ds p (flat l[i])∧Ws l[i]:=by
 induction h with
 |nil=>intro i hi;simp at hi
 |cons a w _ ih=>
  intro i hi
  cases i with
  |zero=>exact⟨_,rfl,a,w⟩
  |succ i=>simpa using ih i (by simpa using hi)
def k0G (H:Heap) (a:OA) (n:Nat) (vs:List Value):Prop:=
 n=vs.length∧(n=0∨ ∃g o c e fr,a=some ⟨g,o,none⟩∧H[g]?=some (.cells c e fr)∧ ∀i s,vs[i]?=some s→c[o+i]?=some s)
theorem k0G.ext {S:List Nat} {H H':Heap} {a:OA} {n:Nat} {vs:List Value} (h:k0G H a n vs) (he:Ext S H H') (hs: ∀r,k0u a=some r→r∉S):k0G H' a n vs:=by
 refine⟨h.1,h.2.imp id ?_⟩
 rintro⟨g,o,c,e,fr,rfl,hg,hr⟩
 exact⟨g,o,c,e,fr,rfl,he.get _ _ hg (hs g rfl),hr⟩
theorem k0G.load {H:Heap} {a:OA} {n:Nat} {vs:List Value} (h:k0G H a n vs) {i:Nat} {v:Value} (hi:vs[i]?=some v):
 IxOk a (i:Int) n∧k07 H false 1 ⟨k0c a,k0b a+(i:Int).toNat*1,none⟩=some v:=by
 have hlt:=(List.getElem?_eq_some_iff.1 hi).1
 rcases h.2 with h0|⟨g,o,c,e,fr,rfl,hg,hr⟩
 ·have:=h.1;omega
 ·refine⟨k0k (by omega) (by have:=h.1;omega),?_⟩
  have:=hr i v hi
  simp only[k0c,k0b,k07,k1a,hg]
  have e:(i:Int).toNat*1=i:=by omega
  rw[e];simpa using this
theorem k0G.of_own {H:Heap} {e:TypeId} {a:OA} {n c:Nat} {vs:List Value} (h:OwnS H e 1 a n c vs):k0G H a n vs:=by
 have hl:n=vs.length:=by have:=h.1;omega
 refine⟨hl,?_⟩
 rcases h.2 with⟨_,h0,_⟩|⟨g,cur,rfl,hg,_,_,_,ht⟩
 ·exact .inl h0
 ·refine .inr ⟨g,0,cur,e,(0,0),rfl,hg,fun i s hi=>?_⟩
  have hlt:=(List.getElem?_eq_some_iff.1 hi).1
  have h2:(cur.toList.take (n*1))[i]?=some s:=by rw[ht];exact hi
  rw[List.getElem?_take,if_pos (by omega)] at h2
  simpa using h2
theorem k0G.slice_lo {H:Heap} {a:OA} {n c:Nat} {e:Value} {vs:List Value} (h:k0G H a n (e::vs)) (hc:n≤c):k0G H (slcA a c 1 1) (n -1) vs:=by
 have hl:=h.1
 refine⟨by simp at hl;omega,?_⟩
 rcases h.2 with h0|⟨g,o,cs,e',fr,rfl,hg,hr⟩
 ·simp at hl;omega
 ·by_cases hc1:c=1
  ·left;omega
  ·right
   refine⟨g,o+1,cs,e',fr,by simp[slcA,slcO,hc1],hg,fun i s hi=>?_⟩
   have:=hr (i+1) s (by simpa using hi)
   rw[show o+1+i=o+(i+1) by omega];exact this
theorem kdQ (a:OA) (c l s:Nat):k0u (slcA a c l s)=k0u a:=by
 unfold slcA;split
 ·rfl
 ·rename_i x _
  show some (if c=l then x else x.add (l*s)).block=some x.block
  split
  ·rfl
  ·unfold Addr.add;split<;>rfl
 ·rfl
def intL (ps:List Nat):List Value:=ps.map fun p:Nat=> .int .i64 ((p:Nat):Int)
theorem k0X.size {H:Heap} {b o:Nat} {ds:List Nd} (h:k0X H b o ds) {i:Nat} {n:Nd} (hi:ds[i]?=some n):k07 H false 1 ⟨b,((o+(i:Int).toNat*6)+5),none⟩=some (.int .i64 n.size):=by
 have:=h.fld hi 5 (by decide);simpa [Nd.val] using this
theorem k0X.kind {H:Heap} {b o:Nat} {ds:List Nd} (h:k0X H b o ds) {i:Nat} {n:Nd} (hi:ds[i]?=some n):k07 H false 1 ⟨b,(o+(i:Int).toNat*6),none⟩=some (.int .i64 n.kind):=by
 have:=h.fld hi 0 (by decide);simpa [Nd.val] using this
structure Doc (H:Heap) (b o n:Nat) (ds:List Nd):Prop where
 nodes:k0X H b o ds
 len:n=ds.length
 lt:n<2147483648
theorem Doc.ext {S:List Nat} {H H':Heap} {b o n:Nat} {ds:List Nd} (h:Doc H b o n ds) (he:Ext S H H') (hb:b∉S):Doc H' b o n ds:=⟨h.nodes.ext he hb,h.len,h.lt⟩
theorem Doc.below {H:Heap} {b o n:Nat} {ds:List Nd} (h:Doc H b o n ds):b<H.size:=by
 obtain⟨c,e,fr,hc,_⟩:=h.nodes;exact k0l hc
theorem k3W (b o n c:Nat) (ds:List Nd) (H:Heap) (h:Doc H b o n ds) (i:Nat) (t:Tr) (ht:At ds i (flat t)) (hw:Ws t):
 Fn PP fq26 #[.slice (some ⟨b,o,none⟩) n c,.int .i64 i] H fun v H'=> ∃a m k ps,v= .slice a m k∧Fresh H H' tq3 1 a m k (intL ps)∧PosL ds ps t.ks:=by
 refine Kids.enter b o n c i H _ ?_
 unfold Kids.W
 obtain⟨nd,ks⟩:=t
 have hi:=ht.root
 have hle:=ht.le' (k1i _)
 have hsz:=hw.size
 rw[k4f] at hle hsz
 have hn:=h.len
 have hlt:=h.lt
 simp only[Tr.n] at hi hsz
 rw[k0h (by omega)]
 refine⟨fun z H'=> ∃ps l1 l2,Fresh H H' tq3 1 z.1.1 z.1.2.1 z.1.2.2 (intL ps)∧ks=l1++l2∧PosL ds ps l1∧z.2.1=((i+1+(k0a l1).length:Nat):Int)∧WsL l2∧At ds (i+1+(k0a l1).length) (k0a l2),
  fun z _=>i+1+(k0a ks).length -z.2.1.toNat,⟨[],[],ks,Fresh.nil H tq3 1,rfl,.nil,rfl,hw.kids,ht.kids⟩,?_⟩
 rintro⟨⟨a,m,k⟩,_,_⟩ H2 ⟨ps,l1,l2,hf,hks,hp,hz,hw2,h2⟩
 dsimp only at hf hz⊢
 subst hz
 have hD:=h.ext hf.ext (by simp)
 have hfl:(k0a ks).length=(k0a l1).length+(k0a l2).length:=by rw[hks,k0L,List.length_append]
 refine⟨k0k (by omega) (by omega),_,hD.nodes.size hi,?_⟩
 have hw1:IntKind.i64.wrap ((i:Int)+nd.size)=((i+1+(k0a ks).length:Nat):Int):=by rw[hsz,i64w (by omega)];omega
 dsimp only
 rw[hw1]
 have hm:m=l1.length:=by rw[←hp.length];have:=hf.own.1;simp[intL] at this;omega
 have hl1:l1.length≤(k0a l1).length:=by
  clear hks hp h2 hfl hw1 hm hf
  induction l1 with
  |nil=>simp
  |cons x r ih=>simp only[k0a,List.length_cons,List.length_append];have:=k1z x;omega
 cases l2 with
 |nil=>
  refine fkI (fun hlt=>?_) (fun _=>rkI ⟨a,m,k,ps,rfl,hf,by rw[show(Tr.node nd ks).ks=ks from rfl,hks,List.append_nil];exact hp⟩)
  simp only[k0a,List.length_nil] at hfl
  simp at hlt;omega
 |cons u l2=>
  simp only[k0a,WsL] at h2 hw2 hfl
  rw[List.length_append] at hfl
  have hup:=k1z u
  refine fkI (fun _=>?_) (fun hge=>?_)
  ·refine nbI fun H4 e4 hb4 ext4 hs4=>?_
   refine(hf.grow ext4).append hb4 rfl (by simp[Value.oneCell']) (by omega) (by omega) ?_
   intro a' c' H7 hf7 _ _
   have hD7:=h.ext hf7.ext (by simp)
   have hu:=h2.left
   have hule:=hu.le' (k1i _)
   refine⟨k0k (by omega) (by omega),_,hD7.nodes.size hu.root,?_⟩
   have hus:=hw2.1.size
   have hw3:IntKind.i64.wrap (((i+1+(k0a l1).length:Nat):Int)+u.n.size)=((i+1+(k0a (l1++[u])).length:Nat):Int):=by
    rw[hus,i64w (by omega),k0L];simp[k0a];omega
   dsimp only
   rw[hw3]
   have hfu:(k0a (l1++[u])).length=(k0a l1).length+(flat u).length:=by rw[k0L];simp[k0a]
   refine⟨⟨ps++[i+1+(k0a l1).length],l1++[u],l2,?_,by rw[hks];simp,hp.snoc hu hw2.1,rfl,hw2.2,?_⟩,by omega⟩
   ·have:intL (ps++[i+1+(k0a l1).length])=intL ps++ #[Value.int .i64 ((i+1+(k0a l1).length:Nat):Int)].toList:=by simp[intL]
    rw[this];exact hf7
   ·have:=h2.right
    rw[hfu]
    rw[show i+1+((k0a l1).length+(flat u).length)=i+1+(k0a l1).length+(flat u).length by omega]
    exact this
  ·simp at hge;omega
theorem k9n (b o n c:Nat) (ds:List Nd) (H:Heap) (h:Doc H b o n ds) (i:Nat) (t:Tr) (ht:At ds i (flat t)) (hw:Ws t):
 Fn PP fq57 #[.slice (some ⟨b,o,none⟩) n c,.int .i64 i] H fun v H'=> ∃r,v= .bool r∧H=H'∧(r=true→ ∀m∈flat t,m.kind≠11):=by
 refine fixedAt.enter b o n c i H _ ?_
 unfold fixedAt.W
 have hi:=ht.root
 have hle:=ht.le' (k1i _)
 have hsz:=hw.size
 have hn:=h.len
 have hlt:=h.lt
 have hpos:=k1z t
 refine⟨fun z H'=>H=H'∧ ∃k:Nat,z.1=((i+k:Nat):Int)∧k≤(flat t).length∧ ∀j,j<k→ ∀m,(flat t)[j]?=some m→m.kind≠11,fun z _=>i+(flat t).length -z.1.toNat,
  ⟨rfl,0,rfl,Nat.zero_le _,fun j hj=>by omega⟩,?_⟩
 rintro⟨_,_⟩ _ ⟨rfl,k,hk,hkl,hj⟩
 dsimp only at hk⊢
 subst hk
 refine⟨k0k (by omega) (by omega),_,h.nodes.size hi,?_⟩
 have hw1:IntKind.i64.wrap ((i:Int)+t.n.size)=((i+(flat t).length:Nat):Int):=by rw[hsz,i64w (by omega)];omega
 dsimp only
 rw[hw1]
 refine fkI (fun hlt2=>?_) (fun hge=>?_)
 ·have hk':k<(flat t).length:=by simp at hlt2;omega
  have hm:ds[i+k]?=some (flat t)[k]:=by
   obtain⟨post,hp⟩:=ht
   have:(ds.drop i)[k]?=some (flat t)[k]:=by rw[hp,List.getElem?_append_left hk',List.getElem?_eq_getElem hk']
   simpa using this
  have hmk:(flat t)[k]?=some (flat t)[k]:=List.getElem?_eq_getElem hk'
  generalize (flat t)[k]=m at hm hmk
  refine⟨k0k (by omega) (by omega),_,h.nodes.kind hm,fkI (fun _=>rkI ⟨false,rfl,rfl,by simp⟩) (fun h11=>?_)⟩
  have h11':m.kind≠11:=by simpa using h11
  have hw2:IntKind.i64.wrap (((i+k:Nat):Int)+1)=((i+(k+1):Nat):Int):=by rw[k0h (by omega)];omega
  rw[hw2]
  refine⟨⟨rfl,k+1,rfl,hk',fun j hj2 m' hm'=>?_⟩,by omega⟩
  rcases Nat.lt_succ_iff_lt_or_eq.1 hj2 with h5|rfl
  ·exact hj j h5 m' hm'
  ·rw[hmk] at hm';cases hm';exact h11'
 ·have hk':k=(flat t).length:=by simp at hge;omega
  refine rkI ⟨true,rfl,rfl,fun _ m hm=>?_⟩
  obtain⟨j,hj1,hj2⟩:=List.getElem_of_mem hm
  exact hj j (by omega) m (by rw[List.getElem?_eq_getElem hj1,hj2])
def k0q (n:Nd):Bool:=decide (20≤n.kind)&&decide (n.kind≤22)
def k0n (n:Nd):Bool:=decide (11≤n.kind)&&decide (n.kind≤18)
def k4K (n:Nd):Bool:=n.kind==5
def k7X (n:Nd):Bool:=n.kind==27
def k3J (n:Nd):Bool:=k0q n&&n.kind !=22
theorem k9w (n:Nd) (H:Heap):Fn PP fq44 #[.agg n.val] H fun v H'=>v= .bool (k0q n)∧Ext [] H H':=by
 refine isType.enter n H _ ?_
 unfold isType.W
 refine nbI fun H2 _ hb2 ext2 _=>?_
 refine⟨_,lcO hb2 rfl,?_⟩
 refine fkI (fun h=>?_) (fun h=>rkI ⟨?_,ext2⟩)
 ·refine⟨_,lcO hb2 rfl,?_⟩
  exact rkI ⟨by simp only[retV,k0q];rw[show decide (20≤n.kind)=true from h];rfl,ext2⟩
 ·simp only[retV,k0q];rw[show decide (20≤n.kind)=false from h];rfl
theorem kcb (n:Nd) (H:Heap):Fn PP fq45 #[.agg n.val] H fun v H'=>v= .bool (k0n n)∧Ext [] H H':=by
 refine isValue.enter n H _ ?_
 unfold isValue.W
 refine nbI fun H2 _ hb2 ext2 _=>?_
 refine⟨_,lcO hb2 rfl,?_⟩
 refine fkI (fun h=>?_) (fun h=>rkI ⟨?_,ext2⟩)
 ·refine⟨_,lcO hb2 rfl,?_⟩
  exact rkI ⟨by simp only[retV,k0n];rw[show decide (11≤n.kind)=true from h];rfl,ext2⟩
 ·simp only[retV,k0n];rw[show decide (11≤n.kind)=false from h];rfl
theorem kgC (n:Nd) (H:Heap):Fn PP fq56 #[.agg n.val] H fun v H'=>v= .bool (k4K n)∧Ext [] H H':=by
 refine isSelections.enter n H _ ?_
 unfold isSelections.W
 refine nbI fun H2 _ hb2 ext2 _=>?_
 refine⟨_,lcO hb2 rfl,?_⟩
 exact rkI ⟨rfl,ext2⟩
theorem kgB (n:Nd) (H:Heap):Fn PP fq83 #[.agg n.val] H fun v H'=>v= .bool (k7X n)∧Ext [] H H':=by
 refine isObject.enter n H _ ?_
 unfold isObject.W
 refine nbI fun H2 _ hb2 ext2 _=>?_
 refine⟨_,lcO hb2 rfl,?_⟩
 exact rkI ⟨rfl,ext2⟩
theorem kgA (n:Nd) (H:Heap):Fn PP fq59 #[.agg n.val] H fun v H'=>v= .bool (k3J n)∧Ext [] H H':=by
 refine isNullable.enter n H _ ?_
 unfold isNullable.W
 refine nbI fun H2 _ hb2 ext2 _=>?_
 refine⟨(n.kind,n.name,n.alias,n.text,n.flag,n.size),lcO hb2 rfl,?_⟩
 refine(k9w n H2).mono ?_
 rintro _ H3 ⟨rfl,he⟩
 refine⟨_,rfl,fkI (fun h=>?_) (fun h=>rkI ⟨?_,ext2.trans he⟩)⟩
 ·refine⟨_,lcO (he.get _ _ hb2 (by simp)) rfl,?_⟩
  exact rkI ⟨by simp only[retV,k3J];rw[h];rfl,ext2.trans he⟩
 ·simp only[retV,k3J];rw[h];rfl
structure RowAt (H:Heap) (r:Nat) (b o n:Nat) (ds:List Nd) (l:List Tr) (some_:Nat):Prop where
 doc:Doc H b o n ds
 ne:b≠r
 row: ∃c a m k ps,H[r]?=some (.cells #[.slice (some ⟨b,o,none⟩) n c,.slice a m k,.int .i64 (some_:Int)] tq73)∧k0G H a m (intL ps)∧m≤k∧PosL ds ps l∧(∀g,k0u a=some g→g≠r)
 few:some_+l.length<4294967296
theorem RowAt.mem {H:Heap} {r b o n:Nat} {ds:List Nd} {l:List Tr} {s:Nat} (h:RowAt H r b o n ds l s): ∃c e,H[r]?=some (.cells c e):=by
 obtain⟨c,a,m,k,ps,hr,_⟩:=h.row;exact⟨_,_,hr⟩
theorem RowAt.ext {H H':Heap} {r b o n:Nat} {ds:List Nd} {l:List Tr} {s:Nat} (h:RowAt H r b o n ds l s) (he:Ext [] H H'):RowAt H' r b o n ds l s:=by
 refine⟨h.doc.ext he (by simp),h.ne,?_,h.few⟩
 obtain⟨c,a,m,k,ps,hr,hs,hm,hp,hg⟩:=h.row
 exact⟨c,a,m,k,ps,he.get _ _ hr (by simp),hs.ext he (by simp),hm,hp,hg⟩
theorem Ext.newer {H0 H H':Heap} {r:Nat} (h:Ext [] H0 H) (h':Ext [r] H H') (hr:H0.size≤r):Ext [] H0 H':=
 ⟨Nat.le_trans h.size h'.size,fun k o hk hn=>h'.get _ _ (h.get _ _ hk hn) (by have:=k0l hk;simp;omega)⟩
theorem kjS {H:Heap} {r b o n:Nat} {ds:List Nd} {l:List Tr} {s:Nat} (h:RowAt H r b o n ds l s):
 Fn PP fq54 #[.pointer (some ⟨r,0,none⟩)] H fun v H'=>v= .bool (decide (l=[]))∧H=H':=by
 refine k6K.enter r H _ ?_
 unfold k6K.W
 obtain⟨c,a,m,k,ps,hr,hs,hm,hp,hg⟩:=h.row
 refine⟨(a,m,k),lcO hr rfl,rkI ⟨?_,rfl⟩⟩
 have hl:=hs.1
 have:=hp.length
 simp only[intL,List.length_map] at hl
 have hml:m=l.length:=by omega
 simp only[retV]
 congr 1
 rw[Bool.eq_iff_iff]
 rw[hml]
 cases l<;>simp
 omega
theorem kjT {H:Heap} {r b o n:Nat} {ds:List Nd} {l:List Tr} {s:Nat} (h:RowAt H r b o n ds l s):
 Fn PP fq58 #[.pointer (some ⟨r,0,none⟩)] H fun v H'=>v= .bool (decide (s≤1))∧H=H':=by
 refine k6L.enter r H _ ?_
 unfold k6L.W
 obtain⟨c,a,m,k,ps,hr,hs,hm,hp,hg⟩:=h.row
 refine⟨_,lcO hr rfl,?_⟩
 refine rkI ⟨?_,rfl⟩
 simp only[retV]
 congr 1
 rw[decide_eq_decide];omega
theorem RowAt.some_load {H:Heap} {r b o n:Nat} {ds:List Nd} {l:List Tr} {s:Nat} (h:RowAt H r b o n ds l s):k07 H false 1 ⟨r,2,none⟩=some (.int .i64 (s:Int)):=by
 obtain⟨c,a,m,k,ps,hr,_⟩:=h.row;exact lcO hr rfl
theorem RowAt.set {H:Heap} {r b o n:Nat} {ds:List Nd} {l l':List Tr} {s s':Nat} (h:RowAt H r b o n ds l s) {c:Nat} {a':OA} {m' k':Nat} {ps':List Nat}
 (hs:k0G H a' m' (intL ps')) (hm:m'≤k') (hp:PosL ds ps' l') (hg: ∀g,k0u a'=some g→g≠r) (hf:s'+l'.length<4294967296):
 RowAt (H.setIfInBounds r (.cells #[.slice (some ⟨b,o,none⟩) n c,.slice a' m' k',.int .i64 (s':Int)] tq73)) r b o n ds l' s':=by
 have e:Ext [r] H (H.setIfInBounds r (.cells #[.slice (some ⟨b,o,none⟩) n c,.slice a' m' k',.int .i64 (s':Int)] tq73)):=Ext.set (by simp) _
 obtain⟨cs,e',hr⟩:=h.mem
 refine⟨h.doc.ext e (by simpa using h.ne),h.ne,⟨c,a',m',k',ps',k2b _ _ _ _ hr,hs.ext e (fun g hg' hm'=>hg g hg' (by simpa using hm')),hm,hp,hg⟩,hf⟩
def kdR (f:FuncId) (r:Nat) (H:Heap) (R:Value→Heap→Prop):Prop:=
 k01 H false 1 ⟨r,1,none⟩ pSlc fun(x1:(OA×Nat×Nat))=>
 k02 (((x1.2.1:Nat):Int)==0)
 (rk [(.bool false)] H R)
 (k01 H false 1 ⟨r,0,none⟩ pSlc fun(x2:(OA×Nat×Nat))=>
   k01 H false 1 ⟨r,1,none⟩ pSlc fun(x3:(OA×Nat×Nat))=>
   (IxOk x3.1 0 x3.2.1)∧
   k01 H false 1 ⟨(k0c x3.1),(k0b x3.1+(0:Int).toNat*1),none⟩ (pInt .i64) fun(x4:Int)=>
   (IxOk x2.1 x4 x2.2.1)∧
   k01 H true 6 ⟨(k0c x2.1),(k0b x2.1+x4.toNat*6),none⟩ ⟨Int×BA×BA×BA×Int×Int,fun x=>(.agg #[(.int .i64 x.1),(.string x.2.1),(.string x.2.2.1),(.string x.2.2.2.1),(.int .i64 x.2.2.2.2.1),(.int .i64 x.2.2.2.2.2)])⟩ fun(x5:Int×BA×BA×BA×Int×Int)=>
   k00 PP f #[(.agg #[(.int .i64 x5.1),(.string x5.2.1),(.string x5.2.2.1),(.string x5.2.2.2.1),(.int .i64 x5.2.2.2.2.1),(.int .i64 x5.2.2.2.2.2)])] H k04 fun(x6:Bool) H7=>
   k07 H7 false 1 ⟨r,1,none⟩=some (.slice x3.1 x3.2.1 x3.2.2)∧
   k02 (!x6)
   (rk [(.bool false)] H7 R)
   (k01 H7 false 1 ⟨r,1,none⟩ pSlc fun(x8:(OA×Nat×Nat))=>
     ((0:Int)≤1∧1≤((x8.2.1:Nat):Int))∧
     k08 H7 ⟨r,1,none⟩ [(.slice (slcA x8.1 x8.2.2 (1:Int).toNat 1) (x8.2.1 -(1:Int).toNat) (x8.2.2 -(1:Int).toNat))] fun H9=>
     rk [(.bool true)] H9 R))
def k3Y (p:Nd→Bool) (H:Heap) (r b o n:Nat) (ds:List Nd) (l:List Tr) (s:Nat) (v:Value) (H':Heap):Prop:=
 (v= .bool false∧Ext [] H H')∨(v= .bool true∧Ext [r] H H'∧ ∃t l',l=t::l'∧p t.n=true∧RowAt H' r b o n ds l' s)
theorem k6M (f:FuncId) (p:Nd→Bool) (hf: ∀n H,Fn PP f #[.agg n.val] H fun v H'=>v= .bool (p n)∧Ext [] H H')
 {H:Heap} {r b o n:Nat} {ds:List Nd} {l:List Tr} {s:Nat} (h:RowAt H r b o n ds l s):kdR f r H (k3Y p H r b o n ds l s):=by
 unfold kdR
 obtain⟨c,a,m,k,ps,hr,hs,hm,hp,hg⟩:=h.row
 have hl:=hs.1
 have hlen:=hp.length
 simp only[intL,List.length_map] at hl
 refine⟨(a,m,k),lcO hr rfl,fkI (fun _=>rkI (.inl ⟨rfl,Ext.refl _ _⟩)) (fun h0=>?_)⟩
 have h0':m≠0:=by simp at h0;omega
 refine⟨(some ⟨b,o,none⟩,n,c),lcO hr rfl,(a,m,k),lcO hr rfl,?_⟩
 cases hp with
 |nil=>simp at hl;omega
 |cons hat hw hp=>
  rename_i p0 t ps l
  have hL:=hs.load (i:=0) (v:= .int .i64 (p0:Int)) rfl
  have hroot:=hat.root
  have hle:=hat.le' (k1i _)
  have hpos:=k1z t
  have hn:=h.doc.len
  have hlt:=h.doc.lt
  refine⟨hL.1,_,hL.2,k0k (by omega) (by dsimp only;omega),(t.n.kind,t.n.name,t.n.alias,t.n.text,t.n.flag,t.n.size),h.doc.nodes.all hroot,?_⟩
  refine(hf t.n H).mono ?_
  rintro _ H7 ⟨rfl,he⟩
  have hr7:=he.get _ _ hr (by simp)
  refine⟨_,rfl,lcO hr7 rfl,fkI (fun _=>rkI (.inl ⟨rfl,he⟩)) (fun h1=>?_)⟩
  refine⟨(a,m,k),lcO hr7 rfl,by dsimp only;omega,?_⟩
  refine swI hr7 (by simp) rfl rfl fun H9 e9 _ ext9 _=>?_
  refine rkI (.inr ⟨rfl,(Ext.of_nil he).trans ext9,t,l,rfl,by simpa using h1,?_⟩)
  rw[e9]
  have h7:=h.ext he
  have hs7:=hs.ext he (by simp)
  refine h7.set (s':=s) (c:=c) (a':=slcA a k 1 1) (m':=m -1) (k':=k -1) (ps':=ps) ?_ (by omega) hp ?_ ?_
  ·exact hs7.slice_lo hm
  ·intro g hg';rw[kdQ] at hg';exact hg g hg'
  ·have:=h.few;simp at this;omega
theorem kay {H:Heap} {r b o n:Nat} {ds:List Nd} {l:List Tr} {s:Nat} (h:RowAt H r b o n ds l s):
 Fn PP fq55 #[.pointer (some ⟨r,0,none⟩),.func (.func fq56) #[] #[]] H (k3Y k4K H r b o n ds l s):=
 k8n.enter r H _ (k6M fq56 k4K kgC h)
theorem k8p {H:Heap} {r b o n:Nat} {ds:List Nd} {l:List Tr} {s:Nat} (h:RowAt H r b o n ds l s):
 Fn PP fq55 #[.pointer (some ⟨r,0,none⟩),.func (.func fq44) #[] #[]] H (k3Y k0q H r b o n ds l s):=
 k8o.enter r H _ (k6M fq44 k0q k9w h)
theorem k8r {H:Heap} {r b o n:Nat} {ds:List Nd} {l:List Tr} {s:Nat} (h:RowAt H r b o n ds l s):
 Fn PP fq55 #[.pointer (some ⟨r,0,none⟩),.func (.func fq45) #[] #[]] H (k3Y k0n H r b o n ds l s):=
 k8q.enter r H _ (k6M fq45 k0n kcb h)
theorem kjV {H:Heap} {r b o n:Nat} {ds:List Nd} {l:List Tr} {s:Nat} (h:RowAt H r b o n ds l s):
 Fn PP fq55 #[.pointer (some ⟨r,0,none⟩),.func (.func fq83) #[] #[]] H (k3Y k7X H r b o n ds l s):=
 k8m.enter r H _ (k6M fq83 k7X kgB h)
theorem kjU {H:Heap} {r b o n:Nat} {ds:List Nd} {l:List Tr} {s:Nat} (h:RowAt H r b o n ds l s):
 Fn PP fq55 #[.pointer (some ⟨r,0,none⟩),.func (.func fq59) #[] #[]] H (k3Y k3J H r b o n ds l s):=
 k8l.enter r H _ (k6M fq59 k3J kgA h)
def kaX (kinds:List Int) (H:Heap) (r b o n:Nat) (ds:List Nd) (l:List Tr) (v:Value) (H':Heap):Prop:=
 v= .pointer (some ⟨r,0,none⟩)∧Ext [r] H H'∧ ∃seg l',l=seg++l'∧(∀t∈seg,t.n.kind∈kinds)∧RowAt H' r b o n ds l' seg.length
theorem kjR {H:Heap} {r b o n:Nat} {ds:List Nd} {l:List Tr} {s:Nat} (h:RowAt H r b o n ds l s) {kb:Nat} {kinds:List Int} {e:TypeId} {fr:Nat×Nat}
 (hk:H[kb]?=some (.cells (kinds.map (.int .i64 ·)).toArray e fr)) (hkr:kb≠r) {kn kc:Nat} (hkn:kn=kinds.length) (hks:kn<1000):
 Fn PP fq53 #[.pointer (some ⟨r,0,none⟩),.slice (some ⟨kb,0,none⟩) kn kc] H (kaX kinds H r b o n ds l):=by
 refine k6J.enter r kb 0 kn kc H _ ?_
 unfold k6J.W
 obtain⟨c,a,m,k,ps,hr,hs,hm,hp,hg⟩:=h.row
 refine swI hr (by simp) rfl rfl fun H1 e1 hr1 ext1 _=>?_
 have h1:RowAt H1 r b o n ds l 0:=by
  rw[e1]
  exact h.set (s':=0) hs hm hp hg (by have:=h.few;omega)
 clear hr1 hs hm hp hg hr e1
 refine⟨fun _ H'=>Ext [r] H H'∧ ∃seg l',l=seg++l'∧(∀t∈seg,t.n.kind∈kinds)∧RowAt H' r b o n ds l' seg.length,
  fun _ H'=>match k07 H' false 1 ⟨r,1,none⟩ with|some (.slice _ m _)=>m|_=>0,⟨ext1,[],l,rfl,by simp,h1⟩,?_⟩
 rintro _ H3 ⟨ext3,seg,l',hl,hseg,h3⟩
 obtain⟨c,a,m,k,ps,hr,hs,hm,hp,hg⟩:=h3.row
 have hlen:=hs.1
 have hlen2:=hp.length
 simp only[intL,List.length_map] at hlen
 have done:rk [.pointer (some ⟨r,0,none⟩)] H3 (kaX kinds H r b o n ds l):=rkI ⟨rfl,ext3,seg,l',hl,hseg,h3⟩
 refine⟨(a,m,k),lcO hr rfl,fkI (fun h0=>?_) (fun _=>done)⟩
 have h0':m≠0:=by simp at h0;omega
 cases hp with
 |nil=>simp at hlen;omega
 |cons hat hw hp=>
  rename_i p0 t ps l'
  have hL:=hs.load (i:=0) (v:= .int .i64 (p0:Int)) rfl
  have hroot:=hat.root
  have hle:=hat.le' (k1i _)
  have hpos:=k1z t
  have hn:=h.doc.len
  have hlt:=h.doc.lt
  have hkc:H3[kb]?=some (.cells (kinds.map (.int .i64 ·)).toArray e fr):=ext3.get _ _ hk (by simpa using hkr)
  refine⟨fun z H'=>H3=H'∧ ∃j:Nat,z.2.1=j∧j≤kn∧(z.1=true→t.n.kind∈kinds),fun z _=>kn -z.2.1.toNat,⟨rfl,0,rfl,Nat.zero_le _,by simp⟩,?_⟩
  rintro⟨is,_,_⟩ _ ⟨rfl,j,hj,hjk,his⟩
  dsimp only at hj his⊢
  subst hj
  refine fkI (fun hlt2=>?_) (fun _=>?_)
  ·have hj':j<kinds.length:=by simp at hlt2;omega
   rw[k0h (by omega)]
   refine fkI (fun hi=>⟨⟨rfl,j+1,rfl,by omega,fun _=>his hi⟩,by omega⟩) (fun _=>?_)
   refine⟨(some ⟨b,o,none⟩,n,c),lcO hr rfl,(a,m,k),lcO hr rfl,hL.1,_,hL.2,k0k (by omega) (by dsimp only;omega),_,h3.doc.nodes.kind hroot,k0k (by omega) (by omega),?_⟩
   have hkl:k07 H3 false 1 ⟨kb,0+(j:Int).toNat*1,none⟩=some (.int .i64 kinds[j]):=by
    have e1:0+(j:Int).toNat*1=j:=by omega
    rw[e1]
    simp only[k07,k1a,hkc]
    simp[hj']
   refine⟨_,hkl,⟨rfl,j+1,rfl,by omega,fun he=>?_⟩,by omega⟩
   have:t.n.kind=kinds[j]:=by simpa using he
   rw[this];exact List.getElem_mem hj'
  ·refine fkI (fun _=>done) (fun hi=>?_)
   have hi':=his (by simpa using hi)
   refine⟨(a,m,k),lcO hr rfl,by dsimp only;omega,?_⟩
   refine swI hr (by simp) rfl rfl fun H9 e9 hr9 ext9 _=>?_
   refine⟨_,lcO hr9 rfl,?_⟩
   refine swI hr9 (by simp[ke7]) rfl rfl fun H10 e10 hr10 ext10 _=>?_
   have hw1:IntKind.i64.wrap ((seg.length:Int)+1)=(((seg++[t]).length:Nat):Int):=by
    rw[k0h (by have:=h3.few;omega)];simp
   have h10:RowAt H10 r b o n ds l' (seg++[t]).length:=by
    have e:H10=H3.setIfInBounds r (.cells #[.slice (some ⟨b,o,none⟩) n c,.slice (slcA a k 1 1) (m -1) (k -1),.int .i64 ((seg++[t]).length:Int)] tq73):=by
     rw[e10,e9,←hw1]
     simp[k1I]
    rw[e]
    refine h3.set (ps':=ps) (hs.slice_lo hm) (by omega) hp ?_ ?_
    ·intro g hg';rw[kdQ] at hg';exact hg g hg'
    ·have:=h3.few;simp at this⊢;omega
   refine⟨⟨ext3.trans (ext9.trans ext10),seg++[t],l',by rw[hl];simp,?_,h10⟩,?_⟩
   ·intro u hu
    rcases List.mem_append.1 hu with hu|hu
    ·exact hseg u hu
    ·rw[List.mem_singleton] at hu;subst hu;exact hi'
   ·rw[lcO hr10 (o:=1) (g:=false) (m:=1) (v:= .slice (slcA a k 1 1) (m -1) (k -1)) rfl,lcO hr (o:=1) (g:=false) (m:=1) (v:= .slice a m k) rfl]
    dsimp only;omega
theorem kb5 (b o n c:Nat) (ds:List Nd) (H:Heap) (h:Doc H b o n ds) (i:Nat) (t:Tr) (ht:At ds i (flat t)) (hw:Ws t) (kd:Int):
 Fn PP fq20 #[.slice (some ⟨b,o,none⟩) n c,.int .i64 i,.int .i64 kd] H fun v H'=> ∃a m k ps,v= .slice a m k∧Fresh H H' tq3 1 a m k (intL ps)∧PosL ds ps (t.ks.filter fun x=>x.n.kind==kd):=by
 refine KidsOf.enter b o n c i kd H _ ?_
 unfold KidsOf.W
 refine(k3W b o n c ds H h i t ht hw).mono ?_
 rintro _ H2 ⟨a1,m1,k1,ps1,rfl,hf1,hp1⟩
 refine⟨(a1,m1,k1),rfl,?_⟩
 have hS:=k0G.of_own hf1.own
 have hm1:=hS.1
 simp only[intL,List.length_map] at hm1
 have hlt:=h.lt
 have hlen:=hp1.length
 have hbound:m1≤n:=by
  have h1:=ht.le' (k1i _)
  have h2:=h.len
  have:t.ks.length≤(flat t).length:=by
   obtain⟨nd,ks⟩:=t
   rw[k4f]
   show ks.length≤1+(k0a ks).length
   clear hlen hp1 hw ht h1
   induction ks with
   |nil=>simp
   |cons x r ih=>simp only[k0a,List.length_cons,List.length_append];have:=k1z x;omega
  omega
 refine⟨fun z H'=> ∃(j:Nat) (ps:List Nat),z.2.1=j∧j≤m1∧z.1.2.1≤j∧Fresh H2 H' tq3 1 z.1.1 z.1.2.1 z.1.2.2 (intL ps)∧PosL ds ps ((t.ks.take j).filter fun x=>x.n.kind==kd),
  fun z _=>m1 -z.2.1.toNat,⟨0,[],rfl,Nat.zero_le _,Nat.le_refl _,Fresh.nil H2 tq3 1,by simpa using PosL.nil⟩,?_⟩
 rintro⟨⟨a,m,k⟩,_,_⟩ H3 ⟨j,ps,hj,hj1,hmj,hf,hp⟩
 dsimp only at hj hf hmj⊢
 subst hj
 have hS3:=hS.ext hf.ext (by simp)
 refine fkI (fun hlt2=>?_) (fun hge=>?_)
 ·have hj':j<t.ks.length:=by simp at hlt2;omega
  obtain⟨p,hpj,hat,hwj⟩:=hp1.get j hj'
  have hL:=hS3.load (i:=j) (v:= .int .i64 (p:Int)) (by simp[intL,hpj])
  have hD:=h.ext (hf1.ext.trans hf.ext) (by simp)
  have hple:=hat.le' (k1i _)
  have hpos:=k1z t.ks[j]
  have hn:=h.len
  have hkp:=hD.nodes.kind hat.root
  refine⟨hL.1,_,hL.2,k0k (by omega) (by omega),_,hkp,?_⟩
  have htk:t.ks.take (j+1)=t.ks.take j++[t.ks[j]]:=by rw[List.take_succ_eq_append_getElem hj']
  rw[k0h (by omega)]
  refine fkI (fun hk=>?_) (fun hk=>?_)
  ·refine⟨hL.1,_,hL.2,nbI fun H4 e4 hb4 ext4 hs4=>?_⟩
   refine(hf.grow ext4).append hb4 rfl (by simp[Value.oneCell']) (by omega) (by omega) ?_
   intro a' c' H7 hf7 grow _
   refine⟨⟨j+1,ps++[p],rfl,by omega,by omega,?_,?_⟩,by omega⟩
   ·have:intL (ps++[p])=intL ps++ #[Value.int .i64 (p:Int)].toList:=by simp[intL]
    rw[this];exact hf7
   ·rw[htk,List.filter_append]
    simp only[List.filter_cons,List.filter_nil]
    rw[if_pos hk]
    exact hp.snoc hat hwj
  ·refine⟨⟨j+1,ps,rfl,by omega,by omega,hf,?_⟩,by omega⟩
   rw[htk,List.filter_append]
   simp only[List.filter_cons,List.filter_nil]
   rw[if_neg (by rw[hk];simp),List.append_nil]
   exact hp
 ·have hj':j=t.ks.length:=by simp at hge;omega
  rw[hj',List.take_length] at hp
  exact rkI ⟨a,m,k,ps,rfl,⟨hf1.ext.trans hf.ext,hf.own,fun r hr=>Nat.le_trans hf1.ext.size (hf.row r hr)⟩,hp⟩
theorem keP (b o n c:Nat) (ds:List Nd) (H:Heap) (h:Doc H b o n ds) (i:Nat) (t:Tr) (ht:At ds i (flat t)) (hw:Ws t) (kd:Int):
 Fn PP fq19 #[.slice (some ⟨b,o,none⟩) n c,.int .i64 i,.int .i64 kd] H fun v H'=> ∃j:Int,v= .int .i64 j∧Ext [] H H'∧(j<0→ ∀x∈t.ks,x.n.kind≠kd):=by
 refine KidOf.enter b o n c i kd H _ ?_
 unfold KidOf.W
 refine(kb5 b o n c ds H h i t ht hw kd).mono ?_
 rintro _ H2 ⟨a,m,k,ps,rfl,hf,hp⟩
 have hS:=k0G.of_own hf.own
 have hm:=hS.1
 simp only[intL,List.length_map] at hm
 have hlen:=hp.length
 refine⟨(a,m,k),rfl,fkI (fun h0=>rkI ⟨-1,rfl,hf.ext,fun _ x hx hk=>?_⟩) (fun h0=>?_)⟩
 ·have:m=0:=by simp at h0;omega
  have hnil:(t.ks.filter fun x=>x.n.kind==kd)=[]:=List.eq_nil_of_length_eq_zero (by omega)
  have:=List.filter_eq_nil_iff.1 hnil x hx
  simp[hk] at this
 ·cases ps with
  |nil=>simp at h0;simp at hm;omega
  |cons p ps=>
   have hL:=hS.load (i:=0) (v:= .int .i64 (p:Int)) rfl
   exact⟨hL.1,_,hL.2,rkI ⟨p,rfl,hf.ext,fun hneg=>by omega⟩⟩
theorem kgk (b o n c:Nat) (ds:List Nd) (H:Heap) (h:Doc H b o n ds) (i:Nat) (t:Tr) (ht:At ds i (flat t)) (hw:Ws t):
 Fn PP fq84 #[.slice (some ⟨b,o,none⟩) n c,.int .i64 i] H fun v H'=> ∃r,v= .bool r∧Ext [] H H'∧(r=true→ ∀x∈t.ks,x.n.kind=10→ ∀m∈flat x,m.kind≠11):=by
 refine fixedHere.enter b o n c i H _ ?_
 unfold fixedHere.W
 refine(kb5 b o n c ds H h i t ht hw 10).mono ?_
 rintro _ H2 ⟨a,m,k,ps,rfl,hf,hp⟩
 have hS:=k0G.of_own hf.own
 have hm:=hS.1
 simp only[intL,List.length_map] at hm
 have hlen:=hp.length
 have hD:=h.ext hf.ext (by simp)
 have hmn:m<4294967296:=by
  have h1:=ht.le' (k1i _)
  have h2:=h.len
  have h3:=h.lt
  have h4:(t.ks.filter fun x=>x.n.kind==10).length≤t.ks.length:=List.length_filter_le _ _
  have:t.ks.length≤(flat t).length:=by
   obtain⟨nd,ks⟩:=t
   rw[k4f]
   show ks.length≤1+(k0a ks).length
   clear hlen hp hw ht h1 h4
   induction ks with
   |nil=>simp
   |cons x r ih=>simp only[k0a,List.length_cons,List.length_append];have:=k1z x;omega
  omega
 refine⟨(a,m,k),rfl,?_⟩
 generalize hL:(t.ks.filter fun x=>x.n.kind==10)=L at hp hlen
 refine⟨fun z H'=>H2=H'∧ ∃j:Nat,z.1=j∧j≤m∧ ∀q (hq:q<L.length),q<j→ ∀x∈flat L[q],x.kind≠11,fun z _=>m -z.1.toNat,⟨rfl,0,rfl,Nat.zero_le _,fun q _ hq=>by omega⟩,?_⟩
 rintro⟨_,_⟩ _ ⟨rfl,j,hj,hj1,hall⟩
 dsimp only at hj⊢
 subst hj
 refine fkI (fun hlt2=>?_) (fun hge=>?_)
 ·have hj':j<L.length:=by simp at hlt2;omega
  obtain⟨p,hpj,hat,hwj⟩:=hp.get j hj'
  have hLd:=hS.load (i:=j) (v:= .int .i64 (p:Int)) (by simp[intL,hpj])
  refine⟨hLd.1,_,hLd.2,(k9n b o n c ds H2 hD p _ hat hwj).mono ?_⟩
  rintro _ _ ⟨r,rfl,rfl,hr⟩
  refine⟨_,rfl,fkI (fun _=>rkI ⟨false,rfl,hf.ext,by simp⟩) (fun h1=>?_)⟩
  have hr':=hr (by simpa using h1)
  rw[k0h (by omega)]
  refine⟨⟨rfl,j+1,rfl,by omega,fun q hq hqj=>?_⟩,by omega⟩
  rcases Nat.lt_succ_iff_lt_or_eq.1 hqj with h5|rfl
  ·exact hall q hq h5
  ·exact hr'
 ·have hj':j=L.length:=by simp at hge;omega
  refine rkI ⟨true,rfl,hf.ext,fun _ x hx hk=>?_⟩
  have hxL:x∈L:=by rw[←hL];simp[List.mem_filter,hx,hk]
  obtain⟨q,hq,rfl⟩:=List.getElem_of_mem hxL
  exact hall q hq (by omega)
theorem kkc (b o n c:Nat) (ds:List Nd) (H:Heap) (h:Doc H b o n ds): ∀(f i e deep:Nat),42 -deep≤f→i<e→e≤n→deep≤41→
 Fn PP fq34 #[.slice (some ⟨b,o,none⟩) n c,.int .i64 i,.int .i64 e,.int .i64 deep] H fun v H'=> ∃r,v= .bool r∧H=H'∧(r=true→ ∃t,At ds i (flat t)∧Ws t∧i+(flat t).length≤e):=by
 intro f
 induction f with
 |zero=>intro i e deep h1 h2 h3 h4;omega
 |succ f ih=>
  intro i e deep hf hie hen hd
  refine sized.enter b o n c i e deep H _ ?_
  unfold sized.W
  have hn:=h.len
  have hlt:=h.lt
  obtain⟨nd,hnd⟩: ∃nd,ds[i]?=some nd:=⟨ds[i]'(by omega),List.getElem?_eq_getElem (by omega)⟩
  refine⟨k0k (by omega) (by omega),_,h.nodes.size hnd,?_⟩
  have no:rk [.bool false] H fun v H'=> ∃r,v= .bool r∧H=H'∧(r=true→ ∃t,At ds i (flat t)∧Ws t∧i+(flat t).length≤e):=rkI ⟨false,rfl,rfl,by simp⟩
  refine fkI (fun _=>no) (fun h1=>?_)
  rw[i64w (by omega)]
  refine fkI (fun _=>no) (fun h2=>?_)
  refine fkI (fun _=>no) (fun h3=>?_)
  have h1':1≤nd.size:=by simp at h1;omega
  have h2':nd.size≤(e:Int) -i:=by simp at h2;omega
  have h3':deep≤40:=by simp at h3;omega
  obtain⟨sz,hsz⟩: ∃sz:Nat,nd.size=sz:=⟨nd.size.toNat,by omega⟩
  rw[hsz] at h1' h2'
  rw[hsz,k0h (by omega),i64w (n:=(i:Int)+(sz:Int)) (by omega),k0h (k:=deep) (by omega)]
  refine⟨fun z H'=>H=H'∧ ∃ks:List Tr,z.1=((i+1+(k0a ks).length:Nat):Int)∧1+(k0a ks).length≤sz∧At ds (i+1) (k0a ks)∧WsL ks,fun z _=>i+sz -z.1.toNat,
   ⟨rfl,[],rfl,by simp[k0a];omega,⟨_,rfl⟩,trivial⟩,?_⟩
  rintro⟨_,_⟩ _ ⟨rfl,ks,hz,hks,hat,hws⟩
  dsimp only at hz⊢
  subst hz
  refine fkI (fun hlt2=>?_) (fun hge=>?_)
  ·have hlt2':1+(k0a ks).length<sz:=by simp at hlt2;omega
   have e1:((i:Int)+(sz:Int))=((i+sz:Nat):Int):=by omega
   rw[e1]
   refine(ih (i+1+(k0a ks).length) (i+sz) (deep+1) (by omega) (by omega) (by omega) (by omega)).mono ?_
   rintro _ _ ⟨r,rfl,rfl,hr⟩
   refine⟨_,rfl,fkI (fun _=>no) (fun hb=>?_)⟩
   obtain⟨t,hat',hwt,hle⟩:=hr (by simpa using hb)
   have hs:=hwt.size
   refine⟨k0k (by omega) (by omega),_,h.nodes.size hat'.root,?_⟩
   dsimp only
   have hpos:=k1z t
   have hw3:IntKind.i64.wrap (((i+1+(k0a ks).length:Nat):Int)+t.n.size)=((i+1+(k0a (ks++[t])).length:Nat):Int):=by
    rw[hs,i64w (by omega),k0L];simp[k0a];omega
   have hfl:(k0a (ks++[t])).length=(k0a ks).length+(flat t).length:=by rw[k0L];simp[k0a]
   rw[hw3]
   refine⟨⟨rfl,ks++[t],rfl,by omega,?_,kfx.2 ⟨hws,hwt,trivial⟩⟩,by omega⟩
   rw[k0L]
   obtain⟨p1,hp1⟩:=hat
   obtain⟨p2,hp2⟩:=hat'
   refine⟨p2,?_⟩
   simp only[k0a,List.append_nil]
   rw[List.append_assoc,←hp2,show ds.drop (i+1+(k0a ks).length)=(ds.drop (i+1)).drop (k0a ks).length from List.drop_drop.symm,hp1,List.drop_left]
  ·have hge':1+(k0a ks).length=sz:=by simp at hge;omega
   refine rkI ⟨true,rfl,rfl,fun _=>⟨.node nd ks,?_,?_,?_⟩⟩
   ·obtain⟨p1,hp1⟩:=hat
    refine⟨p1,?_⟩
    simp only[flat]
    rw[List.cons_append,←hp1]
    have hi:i<ds.length:=by omega
    rw[List.drop_eq_getElem_cons hi]
    congr 1
    rw[List.getElem?_eq_getElem hi] at hnd
    cases hnd;rfl
   ·simp only[Ws];exact⟨by omega,hws⟩
   ·rw[k4f];omega
def InK (kinds:List Int) (l:List Tr):Prop:= ∀x∈l,x.n.kind∈kinds
def k1K (t:Tr):Prop:= ∀m∈flat t,m.kind≠11
def k5f (l:List Tr):Prop:= ∀x∈l,x.n.kind=10→k1K x
inductive ShapedP (t:Tr):Prop
 |document:t.n.kind=1→InK [2,3,24,26,27,31,32,34,36,37,39] t.ks→0<t.ks.length→ShapedP t
 |short (s:Tr):t.n.kind=2→t.n.flag=1→t.ks=[s]→s.n.kind=5→ShapedP t
 |operation (vs ds:List Tr) (s:Tr):t.n.kind=2→t.n.flag≠1→t.ks=vs++(ds++[s])→InK [4] vs→InK [10] ds→s.n.kind=5→ShapedP t
 |fragment (ds:List Tr) (s:Tr):(t.n.kind=3∨t.n.kind=8)→t.ks=ds++[s]→InK [10] ds→s.n.kind=5→ShapedP t
 |variable1 (ty:Tr):t.n.kind=4→t.ks=[ty]→k0q ty.n=true→ShapedP t
 |variable2 (ty v:Tr):t.n.kind=4→t.ks=[ty,v]→k0q ty.n=true→k0n v.n=true→k1K t→ShapedP t
 |selections:t.n.kind=5→InK [6,7,8] t.ks→0<t.ks.length→ShapedP t
 |field (ar ds ss:List Tr):t.n.kind=6→t.ks=ar++(ds++ss)→InK [9] ar→InK [10] ds→InK [5] ss→ss.length≤1→ShapedP t
 |spread:t.n.kind=7→InK [10] t.ks→ShapedP t
 |argument (v:Tr):(t.n.kind=9∨t.n.kind=19)→t.ks=[v]→k0n v.n=true→ShapedP t
 |directive:t.n.kind=10→InK [9] t.ks→ShapedP t
 |list:t.n.kind=17→(∀x∈t.ks,k0n x.n=true)→ShapedP t
 |object:t.n.kind=18→InK [19] t.ks→ShapedP t
 |tlist (ty:Tr):t.n.kind=21→t.ks=[ty]→k0q ty.n=true→ShapedP t
 |tnon (ty:Tr):t.n.kind=22→t.ks=[ty]→k3J ty.n=true→ShapedP t
 |schema (ds os:List Tr):t.n.kind=24→t.ks=ds++os→InK [10] ds→InK [25] os→0<os.length→ShapedP t
 |extend (ob:Tr):t.n.kind=39→t.ks=[ob]→ob.n.kind=27→(∀x∈ob.ks,x.n.kind≠23)→ShapedP t
 |scalar (de ds:List Tr):(t.n.kind=26∨t.n.kind=35)→t.ks=de++ds→InK [23] de→de.length≤1→InK [10] ds→k1K t→ShapedP t
 |otype (de is ds fs:List Tr):t.n.kind=27→t.ks=de++(is++(ds++fs))→InK [23] de→de.length≤1→InK [28] is→InK [10] ds→InK [29] fs→0<fs.length→k5f t.ks→ShapedP t
 |interface (de ds fs:List Tr):t.n.kind=31→t.ks=de++(ds++fs)→InK [23] de→de.length≤1→InK [10] ds→InK [29] fs→0<fs.length→k5f t.ks→ShapedP t
 |union (de ds fs:List Tr):t.n.kind=32→t.ks=de++(ds++fs)→InK [23] de→de.length≤1→InK [10] ds→InK [33] fs→0<fs.length→k1K t→ShapedP t
 |enum (de ds fs:List Tr):t.n.kind=34→t.ks=de++(ds++fs)→InK [23] de→de.length≤1→InK [10] ds→InK [35] fs→0<fs.length→k5f t.ks→ShapedP t
 |input (de ds fs:List Tr):t.n.kind=36→t.ks=de++(ds++fs)→InK [23] de→de.length≤1→InK [10] ds→InK [30] fs→0<fs.length→k5f t.ks→ShapedP t
 |fieldDef (de ar ds:List Tr) (ty:Tr):t.n.kind=29→t.ks=de++(ar++ty::ds)→InK [23] de→de.length≤1→InK [30] ar→k0q ty.n=true→InK [10] ds→k1K t→ShapedP t
 |inputDef (de vs ds:List Tr) (ty:Tr):t.n.kind=30→t.ks=de++(ty::(vs++ds))→InK [23] de→de.length≤1→k0q ty.n=true→(∀v∈vs,k0n v.n=true)→vs.length≤1→InK [10] ds→k1K t→ShapedP t
 |directiveDef (de ar ls:List Tr):t.n.kind=37→t.ks=de++(ar++ls)→InK [23] de→de.length≤1→InK [30] ar→InK [38] ls→0<ls.length→ShapedP t
 |leaf:(11≤t.n.kind∧t.n.kind≤16∨t.n.kind=20∨t.n.kind=23∨t.n.kind=25∨t.n.kind=28∨t.n.kind=33∨t.n.kind=38∨t.n.kind<1∨39<t.n.kind)→t.ks=[]→ShapedP t
section
variable {H0 H:Heap} {r b o n:Nat} {ds:List Nd} {l:List Tr} {s:Nat}
theorem k0U (kinds:List Int) (h:RowAt H r b o n ds l s) (he:Ext [] H0 H) (hr:H0.size≤r) {N C:Nat} (hN:N=kinds.length) (hN2:N<1000) {K:Nat→Heap→Prop}
 (hk: ∀H' seg l',Ext [] H0 H'→l=seg++l'→InK kinds seg→RowAt H' r b o n ds l' seg.length→K r H'):
 newB H (.cells (kinds.map (.int .i64 ·)).toArray tq3) fun kb H2=>k00 PP fq53 #[.pointer (some ⟨r,0,none⟩),.slice (some ⟨kb,0,none⟩) N C] H2 pBlk fun x H3=>K x H3:=by
 refine nbI fun H2 _ hb ext _=>?_
 have hrb:r<H.size:=by obtain⟨c,e,hr⟩:=h.mem;exact k0l hr
 refine(kjR (h.ext ext) hb (by omega) hN hN2).mono ?_
 rintro _ H3 ⟨rfl,ext3,seg,l',hl,hs,hrow⟩
 exact⟨r,rfl,hk H3 seg l' (Ext.newer (he.trans ext) ext3 hr) hl hs hrow⟩
theorem k2y {p:Nd→Bool} {args:Array Value} (hF:Fn PP fq55 args H (k3Y p H r b o n ds l s)) (h:RowAt H r b o n ds l s) (he:Ext [] H0 H) (hr:H0.size≤r) {K:Bool→Heap→Prop}
 (h0: ∀H',Ext [] H0 H'→RowAt H' r b o n ds l s→K false H') (h1: ∀H' t l',Ext [] H0 H'→l=t::l'→p t.n=true→RowAt H' r b o n ds l' s→K true H'):
 k00 PP fq55 args H k04 fun x H'=>K x H':=by
 refine hF.mono ?_
 rintro _ H3 (⟨rfl,ext3⟩|⟨rfl,ext3,t,l',hl,hp,hrow⟩)
 ·exact⟨false,rfl,h0 H3 (he.trans ext3) (h.ext ext3)⟩
 ·exact⟨true,rfl,h1 H3 t l' (Ext.newer he ext3 hr) hl hp hrow⟩
theorem k18 (h:RowAt H r b o n ds l s) {K:Bool→Heap→Prop} (hk:K (decide (l=[])) H):k00 PP fq54 #[.pointer (some ⟨r,0,none⟩)] H k04 fun x H'=>K x H':=by
 refine(kjS h).mono ?_
 rintro _ _ ⟨rfl,rfl⟩
 exact⟨_,rfl,hk⟩
theorem kcW (h:RowAt H r b o n ds l s) {K:Bool→Heap→Prop} (hk:K (decide (s≤1)) H):k00 PP fq58 #[.pointer (some ⟨r,0,none⟩)] H k04 fun x H'=>K x H':=by
 refine(kjT h).mono ?_
 rintro _ _ ⟨rfl,rfl⟩
 exact⟨_,rfl,hk⟩
end
def k2n (H0:Heap) (t:Tr) (r:Bool) (H:Heap):Prop:=Ext [] H0 H∧(r=true→ShapedP t)
def k2T (H0:Heap) (t:Tr) (v:Value) (H:Heap):Prop:= ∃r,v= .bool r∧k2n H0 t r H
theorem k1s {H0 H:Heap} {t:Tr} (h:Ext [] H0 H):k2n H0 t false H:=⟨h,by simp⟩
theorem k0S {H0 H:Heap} {t:Tr} {r:Bool} (h:k2n H0 t r H):rk [.bool r] H (k2T H0 t):=rkI ⟨r,rfl,h⟩
theorem kk7 (b o n c:Nat) (ds:List Nd) (H0 H:Heap) (he:Ext [] H0 H) (r i:Nat) (t:Tr) (ht:At ds i (flat t)) (hw:Ws t) (hr:H0.size≤r) (s:Nat) (h:RowAt H r b o n ds t.ks s)
 (hkind:t.n.kind∉([1,2,3,4,5,6,7,8,9,10,17,18,19,21,22]:List Int)):
 Fn PP fq60 #[.pointer (some ⟨r,0,none⟩),.int .i64 t.n.kind,.slice (some ⟨b,o,none⟩) n c,.int .i64 i] H (k2T H0 t):=by
 refine shapedType.enter r t.n.kind b o n c i H _ ?_
 unfold shapedType.W
 have hi2:i<2147483648:=by
  have h1:=ht.le' (k1i _);have h2:=h.doc.len;have h3:=h.doc.lt;omega
 have desc: ∀(J:Unit→Heap→Prop),(∀H' de l',Ext [] H0 H'→t.ks=de++l'→InK [23] de→de.length≤1→RowAt H' r b o n ds l' de.length→J () H')→
  newB H (.cells #[(.int .i64 23)] tq3) fun b27 H28=>
   k00 PP fq53 #[(.pointer (some ⟨r,0,none⟩)),(.slice (some ⟨b27,0,none⟩) 1 1)] H28 pBlk fun(x29:Nat) H30=>
   k00 PP fq58 #[(.pointer (some ⟨x29,0,none⟩))] H30 k04 fun(x31:Bool) H32=>
   k02 (!x31) (rk [(.bool false)] H32 (k2T H0 t)) (J () H32):=by
  intro J hJ
  refine k0U [23] h he hr rfl (by decide) ?_
  intro H' seg l' hE hl hseg hR
  refine kcW hR (fkI (fun _=>k0S (k1s hE)) (fun hm=>?_))
  exact hJ H' seg l' hE hl hseg (by simpa using hm) hR
 refine⟨fun _ H'=>Ext [] H0 H'∧t.n.kind≠24∧t.n.kind≠39∧ ∃de l' s',t.ks=de++l'∧InK [23] de∧de.length≤1∧RowAt H' r b o n ds l' s'∧
  (t.n.kind∉([26,35,27,31,32,34,36,29,30,37]:List Int)→de=[]),?_,?_⟩
 ·refine fkI (fun hk=>?_) (fun hk24=>?_)
  ·have hk':t.n.kind=24:=by simpa using hk
   refine⟨fun y H'=>k2n H0 t y.1 H',?_,fun y H' h=>k0S h⟩
   have hE:=he
   have hR:=h
   refine k0U [10] hR hE hr rfl (by decide) ?_
   intro H1 ds1 l1 hE hl1 hs1 hR
   refine k0U [25] hR hE hr rfl (by decide) ?_
   intro H2 ds2 l2 hE hl2 hs2 hR
   refine k18 hR ?_
   refine fkI (fun hend=>?_) (fun _=>k1s hE)
   refine⟨_,hR.some_load,hE,fun hpos=>?_⟩
   have hl0:l2=[]:=by simpa using hend
   subst hl0
   rw[List.append_nil] at hl2
   subst hl2
   exact .schema ds1 l1 hk' hl1 hs1 hs2 (by have:=of_decide_eq_true hpos;omega)
  have hk24':t.n.kind≠24:=by simpa using hk24
  refine fkI (fun hk=>?_) (fun hk39=>?_)
  ·have hk':t.n.kind=39:=by simpa using hk
   refine⟨fun y H'=>k2n H0 t y.1 H',?_,fun y H' h=>k0S h⟩
   refine k2y (kjV h) h he hr ?_ ?_
   ·intro H' hE _;exact k1s hE
   intro H1 ob l1 hE hl1 hp hR
   refine k18 hR ?_
   refine fkI (fun hend=>?_) (fun _=>k1s hE)
   have hl0:l1=[]:=by simpa using hend
   subst hl0
   rw[k0h (by omega)]
   obtain⟨nd,ks⟩:=t
   have hks:ks=[ob]:=hl1
   have hat1:At ds (i+1) (flat ob):=by
    have:=ht.kids;rw[hks] at this;simpa [k0a] using this
   have hw1:Ws ob:=hw.kids.mem ob (by show ob∈ks;rw[hks];simp)
   refine(keP b o n c ds H1 hR.doc (i+1) ob hat1 hw1 23).mono ?_
   rintro _ H2 ⟨j,rfl,hE2,hj⟩
   exact⟨_,rfl,hE.trans hE2,fun hneg=> .extend ob hk' hl1 (by simpa [k7X] using hp) (hj (by simpa using hneg))⟩
  have hk39':t.n.kind≠39:=by simpa using hk39
  have memk: ∀ {k:Int} {L:List Int},(t.n.kind==k)=true→k∈L→t.n.kind∈L:=by
   intro k L h1 h2;rw[eq_of_beq h1];exact h2
  have go: ∀(J:Unit→Heap→Prop),J=(fun _ H'=>Ext [] H0 H'∧t.n.kind≠24∧t.n.kind≠39∧ ∃de l' s',t.ks=de++l'∧InK [23] de∧de.length≤1∧RowAt H' r b o n ds l' s'∧
   (t.n.kind∉([26,35,27,31,32,34,36,29,30,37]:List Int)→de=[]))→t.n.kind∈([26,35,27,31,32,34,36,29,30,37]:List Int)→
   (∀H' de l',Ext [] H0 H'→t.ks=de++l'→InK [23] de→de.length≤1→RowAt H' r b o n ds l' de.length→J () H'):=by
   rintro J rfl hmem H' de l' h1 h2 h3 h4 h5
   exact⟨h1,hk24',hk39',de,l',_,h2,h3,h4,h5,fun h=>absurd hmem h⟩
  refine fkI (fun hk=>desc _ (go _ rfl (memk hk (by decide)))) (fun hk26=>?_)
  refine fkI (fun hk=>desc _ (go _ rfl (memk hk (by decide)))) (fun hk35=>?_)
  refine fkI (fun hk=>desc _ (go _ rfl (memk hk (by decide)))) (fun hk27=>?_)
  refine fkI (fun hk=>desc _ (go _ rfl (memk hk (by decide)))) (fun hk31=>?_)
  refine fkI (fun hk=>desc _ (go _ rfl (memk hk (by decide)))) (fun hk32=>?_)
  refine fkI (fun hk=>desc _ (go _ rfl (memk hk (by decide)))) (fun hk34=>?_)
  refine fkI (fun hk=>desc _ (go _ rfl (memk hk (by decide)))) (fun hk36=>?_)
  refine fkI (fun hk=>desc _ (go _ rfl (memk hk (by decide)))) (fun hk29=>?_)
  refine fkI (fun hk=>desc _ (go _ rfl (memk hk (by decide)))) (fun hk30=>?_)
  refine fkI (fun hk=>desc _ (go _ rfl (memk hk (by decide)))) (fun hk37=>?_)
  exact⟨he,hk24',hk39',[],t.ks,s,rfl,by intro x hx;simp at hx,by simp,h,fun _=>rfl⟩
 rintro _ H3 ⟨hE,hk24,hk39,de,l,s',hl,hde,hde1,hR,hnil⟩
 have hfix: ∀ {H':Heap} {l':List Tr} {s2:Nat},RowAt H' r b o n ds l' s2→ ∀ {K:Bool→Heap→Prop},(∀q,(q=true→k1K t)→K q H')→
  k00 PP fq57 #[(.slice (some ⟨b,o,none⟩) n c),(.int .i64 i)] H' k04 fun x H''=>K x H'':=by
  intro H' l' s2 hR' K hK
  refine(k9n b o n c ds H' hR'.doc i t ht hw).mono ?_
  rintro _ _ ⟨q,rfl,rfl,hq⟩
  exact⟨q,rfl,hK q hq⟩
 have hfixH: ∀ {K:Bool→Heap→Prop},(∀H' q,Ext [] H0 H'→RowAt H' r b o n ds l s'→(q=true→k5f t.ks)→K q H')→
  k00 PP fq84 #[(.slice (some ⟨b,o,none⟩) n c),(.int .i64 i)] H3 k04 fun x H''=>K x H'':=by
  intro K hK
  refine(kgk b o n c ds H3 hR.doc i t ht hw).mono ?_
  rintro _ H4 ⟨q,rfl,he4,hq⟩
  exact⟨q,rfl,hK H4 q (hE.trans he4) (hR.ext he4) hq⟩
 have scalar:(t.n.kind=26∨t.n.kind=35)→k0d (Bool×Unit) (fun J87=>
  k00 PP fq57 #[(.slice (some ⟨b,o,none⟩) n c),(.int .i64 i)] H3 k04 fun(x90:Bool) H91=>
  k02 x90
  (newB H91 (.cells #[(.int .i64 10)] tq3) fun b92 H93=>
    k00 PP fq53 #[(.pointer (some ⟨r,0,none⟩)),(.slice (some ⟨b92,0,none⟩) 1 1)] H93 pBlk fun(x94:Nat) H95=>
    k00 PP fq54 #[(.pointer (some ⟨x94,0,none⟩))] H95 k04 fun(x96:Bool) H97=>
    J87 (x96,()) H97)
  (J87 (false,()) H91)) fun y88 H89=>rk [(.bool y88.1)] H89 (k2T H0 t):=by
  intro hk
  refine⟨fun y H'=>k2n H0 t y.1 H',?_,fun y H' h=>k0S h⟩
  refine hfix hR fun q hq=>fkI (fun hq1=>?_) (fun _=>k1s hE)
  refine k0U [10] hR hE hr rfl (by decide) ?_
  intro H1 ds1 l1 hE hl1 hs1 hR
  refine k18 hR ⟨hE,fun hend=>?_⟩
  have hl0:l1=[]:=by simpa using hend
  subst hl0
  rw[List.append_nil] at hl1;subst hl1
  exact .scalar de l hk hl hde hde1 hs1 (hq hq1)
 refine fkI (fun hk=>scalar (.inl (by simpa using hk))) (fun hk26=>?_)
 refine fkI (fun hk=>scalar (.inr (by simpa using hk))) (fun hk35=>?_)
 refine fkI (fun hk=>?_) (fun hk27=>?_)
 ·refine⟨fun y H'=>k2n H0 t y.1 H',?_,fun y H' h=>k0S h⟩
  refine hfixH fun H1 q hE hR hq=>fkI (fun hq1=>?_) (fun _=>k1s hE)
  refine k0U [28] hR hE hr rfl (by decide) ?_
  intro H1 a1 l1 hE hl1 hs1 hR
  refine k0U [10] hR hE hr rfl (by decide) ?_
  intro H1 a2 l2 hE hl2 hs2 hR
  refine k0U [29] hR hE hr rfl (by decide) ?_
  intro H1 a3 l3 hE hl3 hs3 hR
  refine k18 hR (fkI (fun hend=>?_) (fun _=>k1s hE))
  refine⟨_,hR.some_load,hE,fun hpos=>?_⟩
  have hl0:l3=[]:=by simpa using hend
  subst hl0
  rw[List.append_nil] at hl3;subst hl3 hl2 hl1
  exact .otype de a1 a2 l2 (by simpa using hk) hl hde hde1 hs1 hs2 hs3 (by have:=of_decide_eq_true hpos;omega) (hq hq1)
 refine fkI (fun hk=>?_) (fun hk31=>?_)
 ·refine⟨fun y H'=>k2n H0 t y.1 H',?_,fun y H' h=>k0S h⟩
  refine hfixH fun H1 q hE hR hq=>fkI (fun hq1=>?_) (fun _=>k1s hE)
  refine k0U [10] hR hE hr rfl (by decide) ?_
  intro H1 a2 l2 hE hl2 hs2 hR
  refine k0U [29] hR hE hr rfl (by decide) ?_
  intro H1 a3 l3 hE hl3 hs3 hR
  refine k18 hR (fkI (fun hend=>?_) (fun _=>k1s hE))
  refine⟨_,hR.some_load,hE,fun hpos=>?_⟩
  have hl0:l3=[]:=by simpa using hend
  subst hl0
  rw[List.append_nil] at hl3;subst hl3 hl2
  exact .interface de a2 l2 (by simpa using hk) hl hde hde1 hs2 hs3 (by have:=of_decide_eq_true hpos;omega) (hq hq1)
 refine fkI (fun hk=>?_) (fun hk32=>?_)
 ·refine⟨fun y H'=>k2n H0 t y.1 H',?_,fun y H' h=>k0S h⟩
  refine hfix hR fun q hq=>fkI (fun hq1=>?_) (fun _=>k1s hE)
  refine k0U [10] hR hE hr rfl (by decide) ?_
  intro H1 a2 l2 hE hl2 hs2 hR
  refine k0U [33] hR hE hr rfl (by decide) ?_
  intro H1 a3 l3 hE hl3 hs3 hR
  refine k18 hR (fkI (fun hend=>?_) (fun _=>k1s hE))
  refine⟨_,hR.some_load,hE,fun hpos=>?_⟩
  have hl0:l3=[]:=by simpa using hend
  subst hl0
  rw[List.append_nil] at hl3;subst hl3 hl2
  exact .union de a2 l2 (by simpa using hk) hl hde hde1 hs2 hs3 (by have:=of_decide_eq_true hpos;omega) (hq hq1)
 refine fkI (fun hk=>?_) (fun hk34=>?_)
 ·refine⟨fun y H'=>k2n H0 t y.1 H',?_,fun y H' h=>k0S h⟩
  refine hfixH fun H1 q hE hR hq=>fkI (fun hq1=>?_) (fun _=>k1s hE)
  refine k0U [10] hR hE hr rfl (by decide) ?_
  intro H1 a2 l2 hE hl2 hs2 hR
  refine k0U [35] hR hE hr rfl (by decide) ?_
  intro H1 a3 l3 hE hl3 hs3 hR
  refine k18 hR (fkI (fun hend=>?_) (fun _=>k1s hE))
  refine⟨_,hR.some_load,hE,fun hpos=>?_⟩
  have hl0:l3=[]:=by simpa using hend
  subst hl0
  rw[List.append_nil] at hl3;subst hl3 hl2
  exact .enum de a2 l2 (by simpa using hk) hl hde hde1 hs2 hs3 (by have:=of_decide_eq_true hpos;omega) (hq hq1)
 refine fkI (fun hk=>?_) (fun hk36=>?_)
 ·refine⟨fun y H'=>k2n H0 t y.1 H',?_,fun y H' h=>k0S h⟩
  refine hfixH fun H1 q hE hR hq=>fkI (fun hq1=>?_) (fun _=>k1s hE)
  refine k0U [10] hR hE hr rfl (by decide) ?_
  intro H1 a2 l2 hE hl2 hs2 hR
  refine k0U [30] hR hE hr rfl (by decide) ?_
  intro H1 a3 l3 hE hl3 hs3 hR
  refine k18 hR (fkI (fun hend=>?_) (fun _=>k1s hE))
  refine⟨_,hR.some_load,hE,fun hpos=>?_⟩
  have hl0:l3=[]:=by simpa using hend
  subst hl0
  rw[List.append_nil] at hl3;subst hl3 hl2
  exact .input de a2 l2 (by simpa using hk) hl hde hde1 hs2 hs3 (by have:=of_decide_eq_true hpos;omega) (hq hq1)
 refine fkI (fun hk=>?_) (fun hk29=>?_)
 ·refine k0U [30] hR hE hr rfl (by decide) ?_
  intro H1 a1 l1 hE hl1 hs1 hR
  refine⟨fun y H'=>k2n H0 t y.1 H',?_,fun y H' h=>k0S h⟩
  refine hfix hR fun q hq=>fkI (fun hq1=>?_) (fun _=>k1s hE)
  refine k2y (k8p hR) hR hE hr (fun H' hE _=>k1s hE) ?_
  intro H2 ty l2 hE hl2 hty hR
  refine k0U [10] hR hE hr rfl (by decide) ?_
  intro H1 a3 l3 hE hl3 hs3 hR
  refine k18 hR ⟨hE,fun hend=>?_⟩
  have hl0:l3=[]:=by simpa using hend
  subst hl0
  rw[List.append_nil] at hl3;subst hl3 hl2 hl1
  exact .fieldDef de a1 l2 ty (by simpa using hk) hl hde hde1 hs1 hty hs3 (hq hq1)
 refine fkI (fun hk=>?_) (fun hk30=>?_)
 ·refine⟨fun y H'=>Ext [] H0 H'∧(y.1=false→k1K t∧ ∃ty l1,l=ty::l1∧k0q ty.n=true∧RowAt H' r b o n ds l1 s'),?_,?_⟩
  ·refine hfix hR fun q hq=>fkI (fun _=>⟨hE,by simp⟩) (fun hq1=>?_)
   refine k2y (k8p hR) hR hE hr (fun H' hE _=>⟨hE,by simp⟩) ?_
   intro H2 ty l2 hE hl2 hty hR
   exact⟨hE,fun _=>⟨hq (by simpa using hq1),ty,l2,hl2,hty,hR⟩⟩
  rintro⟨y,_⟩ H4 ⟨hE,hy⟩
  refine fkI (fun _=>k0S (k1s hE)) (fun hyf=>?_)
  obtain⟨hfx,ty,l1,hl1,hty,hR⟩:=hy hyf
  have fin: ∀H',Ext [] H0 H'→ ∀vs l2,l1=vs++l2→(∀v∈vs,k0n v.n=true)→vs.length≤1→RowAt H' r b o n ds l2 s'→
   newB H' (.cells #[(.int .i64 10)] tq3) fun b219 H220=>
    k00 PP fq53 #[(.pointer (some ⟨r,0,none⟩)),(.slice (some ⟨b219,0,none⟩) 1 1)] H220 pBlk fun(x221:Nat) H222=>
    k00 PP fq54 #[(.pointer (some ⟨x221,0,none⟩))] H222 k04 fun(x223:Bool) H224=>rk [(.bool x223)] H224 (k2T H0 t):=by
   intro H' hE vs l2 hl2 hvs hvl hR
   refine k0U [10] hR hE hr rfl (by decide) ?_
   intro H1 a3 l3 hE hl3 hs3 hR
   refine k18 hR (k0S ⟨hE,fun hend=>?_⟩)
   have hl0:l3=[]:=by simpa using hend
   subst hl0
   rw[List.append_nil] at hl3;subst hl3 hl2 hl1
   exact .inputDef de vs l2 ty (by simpa using hk) hl hde hde1 hty hvs hvl hs3 hfx
  refine k2y (k8r hR) hR hE hr (fun H' hE hR'=>?_) ?_
  ·exact fin H' hE [] l1 rfl (by simp) (by simp) hR'
  ·intro H' v l2 hE hl2 hv hR'
   exact fin H' hE [v] l2 hl2 (by simpa using hv) (by simp) hR'
 refine fkI (fun hk=>?_) (fun hk37=>?_)
 ·refine⟨fun y H'=>k2n H0 t y.1 H',?_,fun y H' h=>k0S h⟩
  refine k0U [30] hR hE hr rfl (by decide) ?_
  intro H1 a2 l2 hE hl2 hs2 hR
  refine k0U [38] hR hE hr rfl (by decide) ?_
  intro H1 a3 l3 hE hl3 hs3 hR
  refine k18 hR (fkI (fun hend=>?_) (fun _=>k1s hE))
  refine⟨_,hR.some_load,hE,fun hpos=>?_⟩
  have hl0:l3=[]:=by simpa using hend
  subst hl0
  rw[List.append_nil] at hl3;subst hl3 hl2
  exact .directiveDef de a2 l2 (by simpa using hk) hl hde hde1 hs2 hs3 (by have:=of_decide_eq_true hpos;omega)
 refine k18 hR (k0S ⟨hE,fun hend=>?_⟩)
 have hl0:l=[]:=by simpa using hend
 subst hl0
 simp only[beq_eq_false_iff_ne,ne_eq] at hk26 hk35 hk27 hk31 hk32 hk34 hk36 hk29 hk30 hk37
 simp only[List.mem_cons,List.not_mem_nil,or_false,not_or] at hkind
 have hd0:=hnil (by simp[*])
 subst hd0
 exact .leaf (by omega) hl
theorem kk9 (b o n c:Nat) (ds:List Nd) (H:Heap) (h:Doc H b o n ds) (i:Nat) (t:Tr) (ht:At ds i (flat t)) (hw:Ws t):
 Fn PP fq36 #[.slice (some ⟨b,o,none⟩) n c,.int .i64 i] H (k2T H t):=by
 refine shaped.enter b o n c i H _ ?_
 unfold shaped.W
 have hkl:t.ks.length<2147483648:=by
  have h1:=ht.le' (k1i _);have h2:=h.len;have h3:=h.lt
  have:t.ks.length≤(flat t).length:=by
   obtain⟨nd,ks⟩:=t
   rw[k4f]
   show ks.length≤1+(k0a ks).length
   clear hw ht h1
   induction ks with
   |nil=>simp
   |cons x r ih=>simp only[k0a,List.length_cons,List.length_append];have:=k1z x;omega
  omega
 refine(k3W b o n c ds H h i t ht hw).mono ?_
 rintro _ H2 ⟨a,m,k,ps,rfl,hf,hp⟩
 have hS:=k0G.of_own hf.own
 have hmk:m≤k:=by
  rcases hf.own.2 with⟨_,h1,h2⟩|⟨g,cur,_,_,h1,_⟩
  ·omega
  ·exact h1
 refine⟨(a,m,k),rfl,nbI fun H4 e4 hb4 ext4 hs4=>?_⟩
 have hD2:=h.ext hf.ext (by simp)
 have hRow:RowAt H4 H2.size b o n ds t.ks 0:=by
  refine⟨hD2.ext ext4 (by simp),by have:=hD2.below;omega,⟨c,a,m,k,ps,hb4,hS.ext ext4 (by simp),hmk,hp,fun g hg=>?_⟩,by omega⟩
  obtain⟨cur,_,hgc,_⟩:=hf.own.row hg
  have:=k0l hgc;omega
 have hE4:=hf.ext.trans ext4
 have hr:H.size≤H2.size:=hf.ext.size
 generalize H2.size=r at hRow hr
 have hi:=ht.root
 have hle:=ht.le' (k1i _)
 have hn:=h.len
 have hpos:=k1z t
 refine⟨k0k (by omega) (by omega),(t.n.kind,t.n.name,t.n.alias,t.n.text,t.n.flag,t.n.size),hRow.doc.nodes.all hi,?_⟩
 refine nbI fun H7 e7 hb7 ext7 hs7=>?_
 refine swI hb7 (by simp) rfl rfl fun H8 e8 hb8 ext8 hs8=>?_
 have hE:Ext [] H H8:=Ext.newer (hE4.trans ext7) ext8 hE4.size
 have hR:RowAt H8 r b o n ds t.ks 0:=hRow.ext (Ext.newer ext7 ext8 (Nat.le_refl _))
 refine⟨_,lcO hb8 rfl,?_⟩
 clear hRow hE4 hb4 e4 hb7 e7 e8 hs7 hs8 ext4 ext7 ext8 hs4 hf hS
 refine fkI (fun hk=>?_) (fun hk1=>?_)
 ·refine k0U [2,3,24,26,27,31,32,34,36,37,39] hR hE hr rfl (by decide) ?_
  intro H1 a1 l1 hE hl1 hs1 hR
  refine k18 hR (fkI (fun hend=>?_) (fun _=>k0S (k1s hE)))
  refine⟨_,hR.some_load,k0S ⟨hE,fun hpos=>?_⟩⟩
  have hl0:l1=[]:=by simpa using hend
  subst hl0
  rw[List.append_nil] at hl1;subst hl1
  exact .document (by simpa using hk) hs1 (by have h0:(0:Int)<(t.ks.length:Int):=of_decide_eq_true hpos
                                              omega)
 have no: ∀ {H'},Ext [] H H'→rk [.bool false] H' (k2T H t):=fun h=>k0S (k1s h)
 have nil: ∀ {l:List Tr},decide (l=[])=true→l=[]:=fun h=>of_decide_eq_true h
 refine fkI (fun hk=>?_) (fun hk2=>?_)
 ·have hk':t.n.kind=2:=by simpa using hk
  refine⟨_,lcO hb8 rfl,?_⟩
  refine fkI (fun hfl=>?_) (fun hfl=>?_)
  ·refine k2y (kay hR) hR hE hr (fun _ hE _=>no hE) ?_
   intro H1 s1 l1 hE hl1 hp1 hR
   refine k18 hR (k0S ⟨hE,fun hend=>?_⟩)
   rw[nil hend] at hl1
   exact .short s1 hk' (by simpa using hfl) hl1 (by simpa [k4K] using hp1)
  ·refine k0U [4] hR hE hr rfl (by decide) ?_
   intro H1 a1 l1 hE hl1 hs1 hR
   refine k0U [10] hR hE hr rfl (by decide) ?_
   intro H1 a2 l2 hE hl2 hs2 hR
   refine k2y (kay hR) hR hE hr (fun _ hE _=>no hE) ?_
   intro H1 s1 l3 hE hl3 hp1 hR
   refine k18 hR (k0S ⟨hE,fun hend=>?_⟩)
   rw[nil hend] at hl3
   subst hl3 hl2
   exact .operation a1 a2 s1 hk' (by simpa using hfl) hl1 hs1 hs2 (by simpa [k4K] using hp1)
 have frag:(t.n.kind=3∨t.n.kind=8)→newB H8 (.cells #[(.int .i64 10)] tq3) fun b34 H35=>
  k00 PP fq53 #[(.pointer (some ⟨r,0,none⟩)),(.slice (some ⟨b34,0,none⟩) 1 1)] H35 pBlk fun(x36:Nat) H37=>
  k00 PP fq55 #[(.pointer (some ⟨r,0,none⟩)),(.func (.func fq56) #[] #[])] H37 k04 fun(x38:Bool) H39=>
  k02 x38
  (k00 PP fq54 #[(.pointer (some ⟨r,0,none⟩))] H39 k04 fun(x40:Bool) H41=>
    rk [(.bool x40)] H41 (k2T H t))
  (rk [(.bool false)] H39 (k2T H t)):=by
  intro hk
  refine k0U [10] hR hE hr rfl (by decide) ?_
  intro H1 a2 l2 hE hl2 hs2 hR
  refine k2y (kay hR) hR hE hr (fun _ hE _=>no hE) ?_
  intro H1 s1 l3 hE hl3 hp1 hR
  refine k18 hR (k0S ⟨hE,fun hend=>?_⟩)
  rw[nil hend] at hl3
  subst hl3
  exact .fragment a2 s1 hk hl2 hs2 (by simpa [k4K] using hp1)
 refine fkI (fun hk=>frag (.inl (by simpa using hk))) (fun hk3=>?_)
 refine fkI (fun hk=>frag (.inr (by simpa using hk))) (fun hk8=>?_)
 refine fkI (fun hk=>?_) (fun hk4=>?_)
 ·have hk':t.n.kind=4:=by simpa using hk
  refine k2y (k8p hR) hR hE hr (fun _ hE _=>no hE) ?_
  intro H1 ty l1 hE hl1 hp1 hR
  refine k18 hR (fkI (fun hend=>k0S ⟨hE,fun _=>?_⟩) (fun _=>?_))
  ·rw[nil hend] at hl1
   exact .variable1 ty hk' hl1 hp1
  ·refine k2y (k8r hR) hR hE hr (fun _ hE _=>no hE) ?_
   intro H1 v l2 hE hl2 hp2 hR
   refine k18 hR (fkI (fun hend=>?_) (fun _=>no hE))
   rw[nil hend] at hl2
   refine(k9n b o n c ds _ hR.doc i t ht hw).mono ?_
   rintro _ _ ⟨q,rfl,rfl,hq⟩
   refine⟨q,rfl,k0S ⟨hE,fun hq1=>?_⟩⟩
   subst hl2
   exact .variable2 ty v hk' hl1 hp1 hp2 (hq hq1)
 refine fkI (fun hk=>?_) (fun hk5=>?_)
 ·refine k0U [6,7,8] hR hE hr rfl (by decide) ?_
  intro H1 a1 l1 hE hl1 hs1 hR
  refine k18 hR (fkI (fun hend=>?_) (fun _=>no hE))
  refine⟨_,hR.some_load,k0S ⟨hE,fun hpos=>?_⟩⟩
  rw[nil hend,List.append_nil] at hl1
  subst hl1
  exact .selections (by simpa using hk) hs1 (by have h0:(0:Int)<(t.ks.length:Int):=of_decide_eq_true hpos
                                                omega)
 refine fkI (fun hk=>?_) (fun hk6=>?_)
 ·refine k0U [9] hR hE hr rfl (by decide) ?_
  intro H1 a1 l1 hE hl1 hs1 hR
  refine k0U [10] hR hE hr rfl (by decide) ?_
  intro H1 a2 l2 hE hl2 hs2 hR
  refine k0U [5] hR hE hr rfl (by decide) ?_
  intro H1 a3 l3 hE hl3 hs3 hR
  refine k18 hR (fkI (fun hend=>?_) (fun _=>no hE))
  refine kcW hR (k0S ⟨hE,fun hm=>?_⟩)
  rw[nil hend,List.append_nil] at hl3
  subst hl3 hl2
  exact .field a1 a2 l2 (by simpa using hk) hl1 hs1 hs2 hs3 (of_decide_eq_true hm)
 refine fkI (fun hk=>?_) (fun hk7=>?_)
 ·refine k0U [10] hR hE hr rfl (by decide) ?_
  intro H1 a1 l1 hE hl1 hs1 hR
  refine k18 hR (k0S ⟨hE,fun hend=>?_⟩)
  rw[nil hend,List.append_nil] at hl1
  subst hl1
  exact .spread (by simpa using hk) hs1
 have arg:(t.n.kind=9∨t.n.kind=19)→k00 PP fq55 #[(.pointer (some ⟨r,0,none⟩)),(.func (.func fq45) #[] #[])] H8 k04 fun(x38:Bool) H39=>
  k02 x38
  (k00 PP fq54 #[(.pointer (some ⟨r,0,none⟩))] H39 k04 fun(x40:Bool) H41=>
    rk [(.bool x40)] H41 (k2T H t))
  (rk [(.bool false)] H39 (k2T H t)):=by
  intro hk
  refine k2y (k8r hR) hR hE hr (fun _ hE _=>no hE) ?_
  intro H1 v l1 hE hl1 hp1 hR
  refine k18 hR (k0S ⟨hE,fun hend=>?_⟩)
  rw[nil hend] at hl1
  exact .argument v hk hl1 hp1
 refine fkI (fun hk=>arg (.inl (by simpa using hk))) (fun hk9=>?_)
 refine fkI (fun hk=>arg (.inr (by simpa using hk))) (fun hk19=>?_)
 refine fkI (fun hk=>?_) (fun hk10=>?_)
 ·refine k0U [9] hR hE hr rfl (by decide) ?_
  intro H1 a1 l1 hE hl1 hs1 hR
  refine k18 hR (k0S ⟨hE,fun hend=>?_⟩)
  rw[nil hend,List.append_nil] at hl1
  subst hl1
  exact .directive (by simpa using hk) hs1
 refine fkI (fun hk=>?_) (fun hk17=>?_)
 ·refine⟨fun _ H'=>Ext [] H H'∧ ∃l1 l2,t.ks=l1++l2∧(∀x∈l1,k0n x.n=true)∧RowAt H' r b o n ds l2 0,
   fun _ H'=>match k07 H' false 1 ⟨r,1,none⟩ with|some (.slice _ m _)=>m|_=>0,⟨hE,[],t.ks,rfl,by simp,hR⟩,?_⟩
  rintro _ H3 ⟨hE3,l1,l2,hl,hv,hR3⟩
  refine k2y (k8r hR3) hR3 hE3 hr ?_ ?_
  ·intro H' hE' hR'
   refine k18 hR' (k0S ⟨hE',fun hend=>?_⟩)
   rw[nil hend,List.append_nil] at hl
   subst hl
   exact .list (by simpa using hk) hv
  ·intro H' x l3 hE' hl2 hx hR'
   refine⟨⟨hE',l1++[x],l3,by rw[hl,hl2];simp,?_,hR'⟩,?_⟩
   ·intro y hy
    rcases List.mem_append.1 hy with hy|hy
    ·exact hv y hy
    ·rw[List.mem_singleton] at hy;subst hy;exact hx
   ·obtain⟨c1,a1,m1,k1,ps1,hr1,hs1,_,hp1,_⟩:=hR'.row
    obtain⟨c2,a2,m2,k2,ps2,hr2,hs2,_,hp2,_⟩:=hR3.row
    dsimp only
    rw[lcO hr1 (o:=1) (g:=false) (m:=1) (v:= .slice a1 m1 k1) rfl,lcO hr2 (o:=1) (g:=false) (m:=1) (v:= .slice a2 m2 k2) rfl]
    have e1:=hs1.1;have e2:=hs2.1;have e3:=hp1.length;have e4:=hp2.length
    simp only[intL,List.length_map] at e1 e2
    have e5:=congrArg List.length hl2
    simp only[List.length_cons] at e5
    dsimp only;omega
 refine fkI (fun hk=>?_) (fun hk18=>?_)
 ·refine k0U [19] hR hE hr rfl (by decide) ?_
  intro H1 a1 l1 hE hl1 hs1 hR
  refine k18 hR (k0S ⟨hE,fun hend=>?_⟩)
  rw[nil hend,List.append_nil] at hl1
  subst hl1
  exact .object (by simpa using hk) hs1
 refine fkI (fun hk=>?_) (fun hk21=>?_)
 ·refine k2y (k8p hR) hR hE hr (fun _ hE _=>no hE) ?_
  intro H1 v l1 hE hl1 hp1 hR
  refine k18 hR (k0S ⟨hE,fun hend=>?_⟩)
  rw[nil hend] at hl1
  exact .tlist v (by simpa using hk) hl1 hp1
 refine fkI (fun hk=>?_) (fun hk22=>?_)
 ·refine k2y (kjU hR) hR hE hr (fun _ hE _=>no hE) ?_
  intro H1 v l1 hE hl1 hp1 hR
  refine k18 hR (k0S ⟨hE,fun hend=>?_⟩)
  rw[nil hend] at hl1
  exact .tnon v (by simpa using hk) hl1 hp1
 refine⟨k0k (by omega) (by omega),_,hR.doc.nodes.kind hi,?_⟩
 refine(kk7 b o n c ds H H8 hE r i t ht hw hr 0 hR ?_).mono ?_
 ·simp only[beq_eq_false_iff_ne,ne_eq] at*
  simp[*]
 ·rintro _ H' ⟨q,rfl,hq⟩
  exact⟨q,rfl,k0S hq⟩
end Go.Vx
