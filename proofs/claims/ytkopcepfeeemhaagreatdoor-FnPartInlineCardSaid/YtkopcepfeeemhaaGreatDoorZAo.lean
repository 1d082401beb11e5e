/- A part of the proof of what the last text of this claim says: QA6, QD7. Conditions: none. -/
import Derived.Test.YtkopcepfeeemhaaGreatDoorZAn
set_option maxRecDepth 10000
namespace Go.Vx
open Go Go.Proofs
abbrev T4t:Pat:=⟨Int×Int×Int×ByteArray,fun x=>(.tuple #[(.agg #[(.int .i64 x.1),(.int .i64 x.2.1),(.int .i64 x.2.2.1),(.string x.2.2.2)]),.nilIface])⟩
theorem readToken_num {E:Src} {H:Heap} (h:SrcAt E H) (at_ i:Nat) (hw:WsRun E.text at_ i) (hi:i<E.text.size) (hc:bt E.text i=45∨isDigitM (bt E.text i)=true) {k en:Int} {v:ByteArray}
 (hN: ∀H1,Ext [] H H1→Fn PP fq229 #[.pointer (some ⟨E.src,0,none⟩),.int .i64 i,.int .i32 (bt E.text i),.int .i64 1] H1 fun r H'=>r= .tuple #[.agg #[.int .i64 k,.int .i64 i,.int .i64 en,.string v],.nilIface]∧Ext [] H1 H'):
 Fn PP fq197 #[.pointer (some ⟨E.src,0,none⟩),.int .i64 at_] H fun r H'=>r= .tuple #[.agg #[.int .i64 k,.int .i64 i,.int .i64 en,.string v],.nilIface]∧Ext [] H H':=by
 have hsm:=h.small
 have hcr:bt E.text i=45∨(48≤bt E.text i∧bt E.text i≤57):=hc.imp id dig_asc
 refine readToken.enter _ _ H _ ?_
 unfold readToken.W
 refine nbI fun H1 e1 hb1 x1 s1=>?_
 have h1:=h.ext x1
 obtain⟨nm,fr,hsrc⟩:=h1.src
 refine⟨(E.body,0,E.text.size,E.cap),lcO hsrc rfl,?_⟩
 dsimp only
 refine(posAfter_ok h1 at_ i hw).mono ?_
 rintro _ _ ⟨rfl,rfl⟩
 refine⟨((i:Int),(i:Int)),rfl,?_⟩
 dsimp only
 refine fkI (fun hge=>by exfalso;simp at hge;omega) (fun _=>?_)
 have hfin: ∀H',Ext [H.size] H1 H'→Ext [] H H':=fun H' x=>⟨by have:=x1.size;have:=x.size;omega,fun q o hq _=>x.get _ _ (x1.get _ _ hq (by simp)) (by have:=lt_of_get hq;simp;omega)⟩
 refine(runeAt_ok h1 i (by omega) (by omega)).mono ?_
 rintro _ _ ⟨rfl,rfl⟩
 refine⟨(bt E.text i,1),rfl,?_⟩
 dsimp only
 have hN1:=hN H1 x1
 generalize bt E.text i=c at hcr hN1
 refine⟨(false,()),fkI (fun hh=>by exfalso;simp at hh;omega) (fun _=>⟨rfl,rfl⟩),fkI (fun hh=>absurd hh (by decide)) (fun _=>?_)⟩
 refine⟨fun _ _=>False,?_,fun _ _ hh=>hh.elim⟩
 repeat refine fkI (fun hh=>by exfalso;simp only[beq_iff_eq] at hh;omega) (fun _=>?_)
 have fin: ∀(K:Int×Int×Int×ByteArray→Heap→Prop),(∀H2,Ext [] H1 H2→K (k,(i:Int),en,v) H2)→callW PP fq229 #[.pointer (some ⟨E.src,0,none⟩),.int .i64 i,.int .i32 c,.int .i64 1] H1 T4t K:=by
  intro K hK
  refine hN1.mono ?_
  rintro _ H2 ⟨rfl,x2⟩
  exact⟨(k,(i:Int),en,v),rfl,hK H2 x2⟩
 have fin2: ∀H2,Ext [] H1 H2→
  newB H2 (.cells #[(.int .i64 0),(.int .i64 0),(.int .i64 0),(.string (bs []))] tq85) fun b298 H299=>
  storeW H299 ⟨b298,0,none⟩ [(.int .i64 k),(.int .i64 i),(.int .i64 en),(.string v)] fun H300=>
  loadW H300 true 4 ⟨b298,0,none⟩ T4p fun(x301:Int×Int×Int×ByteArray)=>
  storeW H300 ⟨H.size,0,none⟩ [(.int .i64 x301.1),(.int .i64 x301.2.1),(.int .i64 x301.2.2.1),(.string x301.2.2.2)] fun H302=>
  retK (consO (loadC H302 true 4 ⟨H.size,0,none⟩) ((consO (some .nilIface) (some [])))) H302 fun r H'=>r= .tuple #[.agg #[.int .i64 k,.int .i64 i,.int .i64 en,.string v],.nilIface]∧Ext [] H H':=by
  intro H2 x2
  have hb2:=x2.get _ _ hb1 (by simp)
  have z2:=x2.size
  refine nbI fun H3 e3 hb3 x3 s3=>?_
  refine swI hb3 (by simp) rfl rfl fun H4 e4 hb4 x4 s4=>?_
  have hb4':H4[H2.size]?=some (.cells #[.int .i64 k,.int .i64 i,.int .i64 en,.string v] tq85):=hb4
  refine⟨(k,(i:Int),en,v),lcO hb4' rfl,?_⟩
  dsimp only
  have y4:Ext [] H2 H4:=by rw[e4];exact x3.setNew (Nat.le_refl _) _
  have hb14:=y4.get _ _ hb2 (by simp)
  refine swI hb14 (by simp) rfl rfl fun H5 e5 hb5 x5 s5=>?_
  have hb5':H5[H.size]?=some (.cells #[.int .i64 k,.int .i64 i,.int .i64 en,.string v] tq85):=hb5
  rw[lcO hb5' rfl]
  exact rkI ⟨rfl,hfin H5 ((x2.trans y4).of_nil.trans x5)⟩
 repeat refine fkI (fun _=>fin _ fin2) (fun n=>?_)
 exfalso
 simp only[beq_eq_false_iff_ne] at*
 omega
theorem nextM_lt {s:ByteArray} {k:Nat} (h:k<s.size):nextM s k=bt s k:=by unfold nextM;rw[if_neg (by omega)]
theorem nextM_ge {s:ByteArray} {k:Nat} (h:s.size≤k):nextM s k=0:=by unfold nextM;rw[if_pos h]
theorem tokS_num {s:ByteArray} {k:Int} (hn:Num s 0 k s.size):TokS s (k,s):=by
 obtain⟨a,b,k1,c,ha,hd,hab,h0,hf,he⟩:=hn
 have hdl:=hd.2.1
 have a1:a≤1:=by split at ha<;>omega
 -- b ≤ c ≤ size
 have hbs:b≤s.size:=digits_le hd hab
 have hcs:b≤c∧c≤s.size:=by
  rcases hf with⟨_,_,h3,h4⟩|⟨_,_,h3⟩
  ·have:=digits_le h3 h4;omega
  ·omega
 have hpos:0<s.size:=by omega
 have hb0:bt s (0:Nat)=45∨isDigitM (bt s (0:Nat))=true:=by
  by_cases h45:nextM s 0=45
  ·left;rw[←nextM_lt hpos];exact h45
  ·right
   rw[if_neg h45] at ha
   subst ha
   have:=hdl 0 (Nat.le_refl _) hab
   rwa [nextM_lt hpos] at this
 have hb0':bt s (0:Nat)=45∨(48≤bt s (0:Nat)∧bt s (0:Nat)≤57):=hb0.imp id dig_asc
 have hcl:clingM s=true:=by
  rw[cling_iff]
  rcases hb0' with h|h
  ·exact .inr (.inl h)
  ·left;simp only[nameB,decide_eq_true_eq];omega
 have hk:k=16∨k=17:=by
  rcases he with⟨_,h1,_⟩|⟨_,h1,_⟩
  ·exact .inr h1
  ·rcases hf with⟨_,h2,_⟩|⟨_,h2,_⟩
   ·exact .inr (by omega)
   ·exact .inl (by omega)
 refine⟨hpos,by omega,?_,by omega,fun h14=>by dsimp only at h14;omega,fun E at_ i rest hw hsf hdel _ H h=>?_⟩
 ·generalize bt s (0:Nat)=c at hb0'
  simp only[isWsB,Bool.or_eq_false_iff,beq_eq_false_iff_ne]
  omega
 have hz:=hsf.size
 rw[ByteArray.size_append] at hz
 have hby: ∀q:Nat,q<s.size→bt E.text ((i+q:Nat):Int)=nextM s q:=by
  intro q hq
  rw[hsf.bt q,bt_left _ _ _ hq,nextM_lt hq]
 -- behind the number
 have hend: ∀q:Nat,q=s.size→i+q<E.text.size→bt E.text ((i+q:Nat):Int)<128∧nameB (bt E.text ((i+q:Nat):Int))=false∧bt E.text ((i+q:Nat):Int)≠46:=by
  intro q hq hlt
  subst hq
  rw[hsf.next.bt0]
  rcases hdel hcl with h1|h1
  ·omega
  ·exact h1
 have hend2: ∀c:Int,nameB c=false→isDigitM c=false∧isEB c=false:=by
  intro c hc
  simp only[nameB,decide_eq_false_iff_not] at hc
  constructor
  ·simp only[isDigitM,Bool.and_eq_false_iff,decide_eq_false_iff_not];omega
  ·simp only[isEB,Bool.or_eq_false_iff,beq_eq_false_iff_ne];omega
 have hdt: ∀x y:Nat,DigitsTo s x y→y≤s.size→(y<s.size→nextM s y<128)→DigT E.text (i+x) (i+y):=by
  intro x y hxy hy hasc
  refine⟨by have:=hxy.1;omega,fun q h1 h2=>?_,fun hlt=>?_,fun hlt=>?_⟩
  ·obtain⟨q,rfl⟩: ∃q',q=i+q':=⟨q -i,by omega⟩
   have:=hxy.2.1 q (by omega) (by omega)
   rw[hby q (by omega)]
   exact⟨by omega,this⟩
  ·by_cases hys:y<s.size
   ·rw[hby y hys];exact hasc hys
   ·exact(hend y (by omega) hlt).1
  ·by_cases hys:y<s.size
   ·rw[hby y hys];exact hxy.2.2
   ·exact(hend2 _ (hend y (by omega) hlt).2.1).1
 -- the bytes at b, c
 have hE: ∀q:Nat,q≤s.size→i+q<E.text.size→isEB (bt E.text ((i+q:Nat):Int))=isE (nextM s q):=by
  intro q hq hlt
  have comm: ∀z:Int,isEB z=isE z:=fun z=>Bool.or_comm _ _
  by_cases hqs:q<s.size
  ·rw[hby q hqs,comm]
  ·rw[nextM_ge (by omega),(hend2 _ (hend q (by omega) hlt).2.1).2];rfl
 have hDot: ∀q:Nat,q≤s.size→i+q<E.text.size→nextM s q≠46→bt E.text ((i+q:Nat):Int)≠46:=by
  intro q hq hlt h46
  by_cases hqs:q<s.size
  ·rw[hby q hqs];exact h46
  ·exact(hend q (by omega) hlt).2.2
 have hcb:c<s.size→nextM s c<128:=by
  intro hlt
  rcases he with⟨h1,_⟩|⟨_,_,h1⟩
  ·simp only[isE,Bool.or_eq_true,beq_iff_eq] at h1;omega
  ·omega
 have hbb:b<s.size→nextM s b<128:=by
  intro hlt
  rcases hf with⟨h1,_⟩|⟨_,_,h1⟩
  ·omega
  ·subst h1;exact hcb hlt
 have hN: ∀H1,Ext [] H H1→Fn PP fq229 #[.pointer (some ⟨E.src,0,none⟩),.int .i64 i,.int .i32 (bt E.text i),.int .i64 1] H1 fun r H'=>r= .tuple #[.agg #[.int .i64 k,.int .i64 i,.int .i64 ((i+s.size:Nat):Int),.string s],.nilIface]∧Ext [] H1 H':=by
  intro H1 x1
  have hasc0:bt E.text i<128:=by rw[hsf.bt0,bt_left _ _ _ hpos];omega
  have ha':i+a=if bt E.text i=45 then i+1 else i:=by
   rw[hsf.bt0,bt_left _ _ _ hpos]
   rw[nextM_lt hpos] at ha
   rw[ha]
   have e:((0:Nat):Int)=0:=rfl
   split<;>simp_all
  have hk17:k=if(k==17)=true then 17 else 16:=by rcases hk with rfl|rfl<;>rfl
  have:=readNumber_ok (h.ext x1) i (i+a) (i+b) (i+c) (i+s.size) (k1==17) (k==17) (by omega) hasc0 ha' (hdt a b hd hbs hbb) (by omega) ?_ ?_ ?_
  ·rw[hsf.extract,←hk17] at this
   exact this
  ·rw[hby a (by omega)]
   rw[nextM_lt (by omega)]
   intro hh;exact h0 ⟨hh.1,by omega⟩
  ·rcases hf with⟨h1,rfl,h3,h4⟩|⟨h1,rfl,h3⟩
   ·have hbl:b<s.size:=next_lt (by rw[h1];decide)
    refine .inl ⟨by omega,by rw[hby b hbl];exact h1,?_,by omega,rfl⟩
    have:=hdt (b+1) c h3 hcs.2 hcb
    exact this
   ·refine .inr ⟨fun hlt=>hDot b hbs hlt h1,by omega,rfl⟩
  ·rcases he with⟨h1,rfl,e,hee,h3,h4⟩|⟨h1,h2,h3⟩
   ·have hcl2:c<s.size:=next_lt (by intro h9;rw[h9] at h1;exact absurd h1 (by decide))
    have hes:=digits_le h3 h4
    refine .inl ⟨by omega,by rw[hE c hcs.2 (by omega)];exact h1,⟨i+e,?_,?_,?_,by omega⟩,rfl⟩
    ·have hc1:c+1<s.size:=by split at hee<;>omega
     have hl1:i+c+1<E.text.size:=by omega
     have er:(runeM E.text (i+c+1)).1=nextM s (c+1):=by
      simp only[runeM,hl1,if_true]
      have:=hby (c+1) hc1
      rw[←this];rfl
     rw[er]
     have comm:isPMB (nextM s (c+1))=isPM (nextM s (c+1)):=rfl
     rw[comm,hee]
     split<;>omega
    ·intro _
     have hc1:c+1<s.size:=by split at hee<;>omega
     have:=hby (c+1) hc1
     have e2:i+c+1=i+(c+1):=by omega
     rw[e2,this]
     split at hee
     ·rename_i hpm
      simp only[isPM,Bool.or_eq_true,beq_iff_eq] at hpm;omega
     ·subst hee
      have:=dig_asc (h3.2.1 (c+1) (Nat.le_refl _) h4);omega
    ·exact hdt e s.size h3 (Nat.le_refl _) (fun h9=>by omega)
   ·refine .inr ⟨fun hlt=>by rw[hE c hcs.2 hlt];exact h1,by omega,by rw[h2]⟩
 have hc0:bt E.text i=45∨isDigitM (bt E.text i)=true:=by rw[hsf.bt0,bt_left _ _ _ hpos];exact hb0
 exact readToken_num h at_ i hw (by omega) hc0 hN
theorem blockGo_plain {s:ByteArray}: ∀(n k:Nat),s.size -k=n→(∀j,k≤j→startsM s j quotes3=false)→k≤s.size→blockGo s k=s.extract k s.size++bs [10,34,34,34]:=by
 intro n
 induction n with
 |zero=>
  intro k hk _ hks
  unfold blockGo
  rw[if_neg (by omega)]
  have:k=s.size:=by omega
  subst this
  apply ba_ext
  rw[toList_append,list_of_extract]
  simp
 |succ n ih=>
  intro k hk hq hks
  unfold blockGo
  rw[if_pos (by omega),if_neg (by rw[hq k (Nat.le_refl _)];simp),ih (k+1) (by omega) (fun j hj=>hq j (by omega)) (by omega)]
  apply ba_ext
  rw[toList_append,toList_append,toList_append,list_of_extract,list_of_extract,list_of_extract,←List.append_assoc]
  congr 1
  have e:s.size -k=1+(s.size -(k+1)):=by omega
  rw[e,List.take_add,List.drop_drop,show k+1 -k=1 by omega]
theorem starts_bt {s:ByteArray} {j:Nat} (h:startsM s j quotes3=true):j+3≤s.size∧bt s (j:Nat)=34∧bt s ((j+1:Nat):Int)=34∧bt s ((j+2:Nat):Int)=34:=by
 simp only[startsM,Bool.and_eq_true,decide_eq_true_eq] at h
 have e3:quotes3.size=3:=rfl
 rw[e3] at h
 have he:=bytes_eq h.2
 have hl:(s.data.toList.drop j).take 3=[34,34,34]:=by
  have:=congrArg (fun x:ByteArray=>x.data.toList) he
  simp only[list_of_extract] at this
  rw[show j+3 -j=3 by omega] at this
  exact this
 have key: ∀i,i<3→bt s ((j+i:Nat):Int)=34:=by
  intro i hi
  have h1:((s.data.toList.drop j).take 3)[i]?=some 34:=by
   rw[hl]
   match i,hi with
   |0,_=>rfl
   |1,_=>rfl
   |2,_=>rfl
  rw[List.getElem?_take,if_pos hi,List.getElem?_drop] at h1
  rw[bt_list h1];rfl
 exact⟨h.1,key 0 (by omega),key 1 (by omega),key 2 (by omega)⟩
theorem starts_of {s:ByteArray} {j:Nat} (h:j+3≤s.size) (h0:bt s (j:Nat)=34) (h1:bt s ((j+1:Nat):Int)=34) (h2:bt s ((j+2:Nat):Int)=34):startsM s j quotes3=true:=by
 have e3:quotes3.size=3:=rfl
 simp only[startsM,Bool.and_eq_true,decide_eq_true_eq,e3]
 refine⟨h,?_⟩
 have he:s.extract j (j+3)=quotes3:=by
  apply ba_ext
  rw[list_of_extract,show j+3 -j=3 by omega]
  obtain⟨x,hx,hxb⟩:=list_bt (s:=s) (k:=j) (by omega)
  obtain⟨y,hy,hyb⟩:=list_bt (s:=s) (k:=j+1) (by omega)
  obtain⟨z,hz,hzb⟩:=list_bt (s:=s) (k:=j+2) (by omega)
  have ex:x=34:=UInt8.toNat_inj.1 (by show x.toNat=34;omega)
  have ey:y=34:=UInt8.toNat_inj.1 (by show y.toNat=34;omega)
  have ez:z=34:=UInt8.toNat_inj.1 (by show z.toNat=34;omega)
  subst ex;subst ey;subst ez
  rw[show(3:Nat)=0+1+1+1 from rfl,List.take_add_one,List.take_add_one,List.take_add_one]
  simp only[List.getElem?_drop,Nat.add_zero]
  rw[hx,hy,hz]
  rfl
 rw[he]
 simp
theorem Pts.here {s:ByteArray} {P:Nat→Int→Prop} {k:Nat} (h:Pts s P k) (hk:k<s.size): ∃c n,pointM s k=(c,n)∧n≠0∧P k c∧Pts s P (k+n):=by
 cases h with
 |done=>omega
 |step _ c n h1 h2 h3 h4 h5=>exact⟨c,n,h2,h3,h4,h5⟩
theorem block_no3 {s:ByteArray}: ∀(k:Nat),Pts s (BlockC s) k→ ∀j,k≤j→startsM s j quotes3=false:=by
 intro k h
 induction h with
 |done=>
  intro j hj
  rw[←Bool.not_eq_true]
  intro hs
  have:=starts_bt hs
  omega
 |step i c n hi hp hn hP _ ih=>
  intro j hj
  by_cases hjn:i+n≤j
  ·exact ih j hjn
  ·by_cases he:j=i
   ·subst he;exact hP.2.2.2.2
   ·rw[←Bool.not_eq_true]
    intro hs
    have hb:=(starts_bt hs).2.1
    obtain⟨hPt,hin⟩:=point_bytes hp hn hi
    have hj3:j=i+1∨j=i+2∨j=i+3:=by
     have:n≤4:=by rcases hPt with⟨h,_⟩|⟨h,_⟩|⟨h,_⟩|⟨h,_⟩<;>omega
     omega
    rcases hPt with⟨rfl,_⟩|⟨rfl,h⟩|⟨rfl,h⟩|⟨rfl,h⟩
    ·omega
    ·rcases hj3 with rfl|rfl|rfl<;>omega
    ·rcases hj3 with rfl|rfl|rfl<;>omega
    ·rcases hj3 with rfl|rfl|rfl<;>omega
theorem linesGo_head (s:ByteArray) (h:bt s (0:Nat)=10) (hs:0<s.size):(linesM s).headD eB=eB:=by
 unfold linesM linesGo
 have h':bt s 0=10:=h
 rw[if_pos hs,if_neg (by simp[h']),if_neg (by simp[h'])]
 show s.extract 0 0=eB
 apply ba_ext
 rw[list_of_extract]
 rfl
inductive Cps (T:ByteArray) (e:Nat):Nat→Prop
 |done:Cps T e e
 |step (q:Nat) (c:Int) (n:Nat):q+n≤e→PtB (bt T (q:Nat)) (bt T ((q+1:Nat):Int)) (bt T ((q+2:Nat):Int)) (bt T ((q+3:Nat):Int)) c n→(c=9∨c=10∨32≤c)→Cps T e (q+n)→Cps T e q
theorem Cps.of_pts {T s:ByteArray} {o e:Nat} (hb: ∀j,j<s.size→bt T ((o+j:Nat):Int)=bt s (j:Nat)) (he:o+s.size≤e) (hd:Cps T e (o+s.size)): ∀k,Pts s (BlockC s) k→Cps T e (o+k):=by
 intro k h
 induction h with
 |done=>exact hd
 |step i c n hi hp hn hP _ ih=>
  obtain⟨hPt,hin⟩:=point_bytes hp hn hi
  have h4:n≤4:=by rcases hPt with⟨h,_⟩|⟨h,_⟩|⟨h,_⟩|⟨h,_⟩<;>omega
  refine .step _ c n (by omega) (hPt.congr (hb i hi) (fun h=>?_) (fun h=>?_) (fun h=>?_)) hP.1 (by rw[Nat.add_assoc];exact ih)
  ·rw[Nat.add_assoc];exact hb (i+1) (by omega)
  ·rw[Nat.add_assoc];exact hb (i+2) (by omega)
  ·rw[Nat.add_assoc];exact hb (i+3) (by omega)
def BlkInv (E:Src) (i e:Nat) (A:Heap) (q0:Nat) (y1 y3:Int) (H:Heap):Prop:=
 ∃(q:Nat),y1=(q:Int)∧y3=((i+3:Nat):Int)∧q0≤q∧i+3≤q∧q≤e∧Cps E.text e q∧BufAt A.size A.size [] H∧Ext [] A H
theorem readBlock_ok {E:Src} {H:Heap} (h:SrcAt E H) (i:Nat) (s rest:ByteArray) (hsf:Sfx E.text i (blockTextM s++rest)) (hB:BlockP s) (hss:s.size≤90000):
 Fn PP fq230 #[.pointer (some ⟨E.src,0,none⟩),.int .i64 i] H fun r H'=>
  r= .tuple #[.agg #[.int .i64 19,.int .i64 i,.int .i64 ((i+(blockTextM s).size:Nat):Int),.string s],.nilIface]∧Ext [] H H':=by
 have hsm:=h.small
 obtain⟨hP,hval,hplain⟩:=hB
 have hno:=block_no3 0 hP
 have hgo:=blockGo_plain s.size 0 rfl (fun j _=>hno j (Nat.zero_le _)) (Nat.zero_le _)
 rw[extract_all] at hgo
 have htx:blockTextM s=bs [34,34,34]++(blockRaw s++bs [34,34,34]):=by
  unfold blockTextM blockRaw
  rw[hgo]
  apply ba_ext
  simp only[toList_append,List.append_assoc]
  rfl
 have e3:(bs [34,34,34]).size=3:=rfl
 have e1:(bs [10]).size=1:=rfl
 have hrz:(blockRaw s).size=s.size+2:=by unfold blockRaw;rw[ByteArray.size_append,ByteArray.size_append,e1];omega
 have hbz:(blockTextM s).size=s.size+8:=by rw[htx,ByteArray.size_append,ByteArray.size_append,hrz,e3];omega
 rw[htx,ByteArray.append_assoc,ByteArray.append_assoc] at hsf
 have sR:=hsf.next
 rw[e3] at sR
 have s2:=sR.next
 rw[hrz] at s2
 obtain⟨e,he⟩: ∃e,e=i+3+(s.size+2):=⟨_,rfl⟩
 rw[←he] at s2
 have hz:=s2.size
 rw[ByteArray.size_append,e3] at hz
 -- the bytes
 have bq: ∀j,j<3→bt E.text ((e+j:Nat):Int)=34:=by
  intro j hj
  rw[s2.bt j,bt_left _ _ _ (by omega)]
  match j,hj with
  |0,_=>rfl
  |1,_=>rfl
  |2,_=>rfl
 have s1':Sfx E.text (i+3) (bs [10]++(s++(bs [10]++(bs [34,34,34]++rest)))):=by
  have:blockRaw s++(bs [34,34,34]++rest)=bs [10]++(s++(bs [10]++(bs [34,34,34]++rest))):=by unfold blockRaw;simp only[ByteArray.append_assoc]
  rw[←this];exact sR
 have b0:bt E.text ((i+3:Nat):Int)=10:=by rw[s1'.bt0];exact bt_bs_cons 10 [] _
 have s3:=s1'.next
 rw[e1] at s3
 have bs': ∀j,j<s.size→bt E.text ((i+3+1+j:Nat):Int)=bt s (j:Nat):=by
  intro j hj
  rw[s3.bt j,bt_left _ _ _ hj]
 have s4:=s3.next
 have bl:bt E.text ((i+3+1+s.size:Nat):Int)=10:=by rw[s4.bt0];exact bt_bs_cons 10 [] _
 have hcps:Cps E.text e (i+3):=by
  refine .step _ 10 1 (by omega) (.inl ⟨rfl,b0.symm,by rw[b0];decide⟩) (by omega) ?_
  refine Cps.of_pts (o:=i+3+1) bs' (by omega) ?_ 0 hP
  refine .step _ 10 1 (by omega) (.inl ⟨rfl,bl.symm,by rw[bl];decide⟩) (by omega) ?_
  have:i+3+1+s.size+1=e:=by omega
  rw[this];exact .done
 have no3: ∀q,i+3≤q→q<e→bt E.text (q:Nat)=34→bt E.text ((q+1:Nat):Int)=34→bt E.text ((q+2:Nat):Int)=34→False:=by
  intro q h1 h2 h3 h4 h5
  obtain⟨k,rfl⟩: ∃k,q=i+3+k:=⟨q -(i+3),by omega⟩
  by_cases hk0:k=0
  ·subst hk0;rw[Nat.add_zero] at h3;omega
  by_cases hk1:k=s.size+1
  ·subst hk1;rw[show i+3+(s.size+1)=i+3+1+s.size by omega] at h3;omega
  by_cases hk2:k=s.size
  ·subst hk2;rw[show i+3+s.size+1=i+3+1+s.size by omega] at h4;omega
  by_cases hk3:k+1=s.size
  ·rw[show i+3+k+2=i+3+1+s.size by omega] at h5;omega
  have g1:=bs' (k -1) (by omega)
  have g2:=bs' k (by omega)
  have g3:=bs' (k+1) (by omega)
  rw[show i+3+1+(k -1)=i+3+k by omega,h3] at g1
  rw[show i+3+1+k=i+3+k+1 by omega,h4] at g2
  rw[show i+3+1+(k+1)=i+3+k+2 by omega,h5] at g3
  have:=starts_of (s:=s) (j:=k -1) (by omega) g1.symm (by rw[show k -1+1=k by omega];exact g2.symm) (by rw[show k -1+2=k+1 by omega];exact g3.symm)
  rw[hno (k -1) (Nat.zero_le _)] at this
  cases this
 refine readBlock.enter _ _ H _ ?_
 unfold readBlock.W
 refine nbI fun H1 e1 hb1 x1 s1=>?_
 have h1:=h.ext x1
 obtain⟨nm,fr,hsrc⟩:=h1.src
 refine⟨(E.body,0,E.text.size,E.cap),lcO hsrc rfl,?_⟩
 dsimp only
 refine nbI fun H2 e2 hb2 x2 s2=>?_
 have hle:=h.le
 have w3:IntKind.i64.wrap ((i:Int)+3)=((i+3:Nat):Int):=by rw[i64w (by omega)];omega
 rw[w3]
 refine⟨fun z H'=>BlkInv E i e H1 0 z.1 z.2.2.1 H',fun z _=>E.text.size -z.1.toNat,⟨i+3,rfl,rfl,Nat.zero_le _,Nat.le_refl _,by omega,hcps,BufAt.new hb2,x2⟩,?_⟩
 rintro⟨_,rp,_,_⟩ H3 ⟨q,hy1,hy3,_,hiq,hqe,hcp,hbuf,x3⟩
 dsimp only at hy1 hy3⊢
 subst hy1;subst hy3
 refine fkI (fun hh=>by exfalso;simp at hh;omega) (fun _=>?_)
 refine(runeAt_gen (h1.ext x3) q).mono ?_
 rintro _ H4 ⟨rfl,x4⟩
 refine⟨runeG E.text q,rfl,?_⟩
 have y4:=x3.trans x4
 have w1:IntKind.i64.wrap ((q:Int)+1)=((q+1:Nat):Int):=by rw[i64w (by omega)];omega
 have w2:IntKind.i64.wrap ((q:Int)+2)=((q+2:Nat):Int):=by rw[i64w (by omega)];omega
 have w3:IntKind.i64.wrap ((q:Int)+3)=((q+3:Nat):Int):=by rw[i64w (by omega)];omega
 rw[w1,w2,w3]
 cases hcp with
 |done=>
  have g0:=bq 0 (by omega)
  have g1:=bq 1 (by omega)
  have g2:=bq 2 (by omega)
  have hr:runeG E.text e=(34,1):=by rw[runeG_asc (by omega) (by show bt E.text ((e+0:Nat):Int)<128;rw[g0];decide)];exact congrArg (·,(1:Int)) g0
  have hr1:runeG E.text (e+1)=(34,1):=by rw[runeG_asc (by omega) (by rw[g1];decide),g1]
  have hr2:runeG E.text (e+2)=(34,1):=by rw[runeG_asc (by omega) (by rw[g2];decide),g2]
  rw[hr]
  dsimp only
  refine⟨fun _ _=>False,?_,fun _ _ hh=>hh.elim⟩
  refine fkI (fun _=>?_) (fun hh=>absurd hh (by decide))
  refine(runeAt_gen (h1.ext y4) (e+1)).mono ?_
  rintro _ H5 ⟨rfl,x5⟩
  refine⟨runeG E.text (e+1),rfl,(runeAt_gen (h1.ext (y4.trans x5)) (e+2)).mono ?_⟩
  rintro _ H6 ⟨rfl,x6⟩
  refine⟨runeG E.text (e+2),rfl,?_⟩
  rw[hr1,hr2]
  dsimp only
  have y6:=(y4.trans x5).trans x6
  have hbuf6:=hbuf.ext ((x4.trans x5).trans x6)
  refine joinPK_and ?_
  refine fkI (fun _=>?_) (fun hh=>absurd hh (by decide))
  rw[slcO_lt (by omega)]
  have en:((e:Nat):Int).toNat -((i+3:Nat):Int).toNat=s.size+2:=by omega
  rw[en]
  refine⟨⟨⟨by omega,by omega⟩,by omega,by omega⟩,(bufWrite_ok y6 hbuf6 h1 (i+3) (s.size+2) _ (by omega) (by simp)).mono ?_⟩
  rintro _ H7 ⟨rfl,x7,hbuf7⟩
  refine⟨((s.size+2:Nat):Int),rfl,(bufString_ok hbuf7).mono ?_⟩
  rintro _ _ ⟨rfl,rfl⟩
  have hll:(E.text.data.toList.drop (i+3)).take (s.size+2)=(blockRaw s).data.toList:=by
   have hlen:(blockRaw s).data.toList.length=s.size+2:=by rw[Array.length_toList];exact hrz
   rw[sR.drop,toList_append,List.take_append_of_le_length (by omega),List.take_of_length_le (by omega)]
  have hstr:(⟨([]++(E.text.data.toList.drop (i+3)).take (s.size+2)).toArray⟩:ByteArray)=blockRaw s:=by
   rw[List.nil_append,hll]
  rw[hstr]
  have hrb:bt (blockRaw s) (0:Nat)=10:=by unfold blockRaw;rw[ByteArray.append_assoc];exact bt_bs_cons 10 [] _
  refine⟨_,rfl,(blockSV_ok (blockRaw s) _ (by omega) (linesGo_head _ hrb (by omega)) hplain).mono ?_⟩
  rintro _ H8 ⟨rfl,x8⟩
  rw[hval]
  refine⟨s,rfl,(makeToken_ok _ _ _ _ _).mono ?_⟩
  rintro _ H9 ⟨rfl,x9⟩
  have we:IntKind.i64.wrap ((e:Int)+3)=((e+3:Nat):Int):=by rw[i64w (by omega)];omega
  refine⟨(19,(i:Int),((e+3:Nat):Int),s),by rw[←we],?_⟩
  dsimp only
  have y9:=(x7.trans x8).trans x9
  have hb9:=y9.get _ _ hb1 (by simp)
  refine swI hb9 (by simp) rfl rfl fun H10 e10 hb10 x10 s10=>?_
  have hb10':H10[H.size]?=some (.cells #[.int .i64 19,.int .i64 i,.int .i64 ((e+3:Nat):Int),.string s] tq85):=hb10
  rw[lcO hb10' rfl]
  have eq2:e+3=i+(blockTextM s).size:=by omega
  rw[←eq2]
  refine rkI ⟨rfl,?_⟩
  rw[e10]
  exact(x1.trans y9).setNew (Nat.le_refl _) _
 |step _ c n hne hPT hc hcp'=>
  have hn4:1≤n∧n≤4:=by rcases hPT with⟨h,_⟩|⟨h,_⟩|⟨h,_⟩|⟨h,_⟩<;>omega
  have hr:runeG E.text q=(c,(n:Int)):=runeG_pt hPT (by omega)
  have hq2:q<e:=by omega
  have hbc:c<128→bt E.text (q:Nat)=c:=by
   intro hlt
   rcases hPT with⟨_,h,_⟩|⟨_,h⟩|⟨_,h⟩|⟨_,h⟩
   ·exact h.symm
   ·omega
   ·omega
   ·omega
  rw[hr]
  dsimp only
  refine⟨fun _ H'=>Ext [] H4 H',?_,?_⟩
  ·refine fkI (fun h34=>?_) (fun _=>Ext.refl _ _)
   have h34':c=34:=by simpa using h34
   refine(runeAt_gen (h1.ext y4) (q+1)).mono ?_
   rintro _ H5 ⟨rfl,x5⟩
   refine⟨runeG E.text (q+1),rfl,(runeAt_gen (h1.ext (y4.trans x5)) (q+2)).mono ?_⟩
   rintro _ H6 ⟨rfl,x6⟩
   refine⟨runeG E.text (q+2),rfl,?_⟩
   refine joinPK_and ?_
   refine fkI (fun hh=>?_) (fun _=>x5.trans x6)
   exfalso
   simp only[Bool.and_eq_true,beq_iff_eq] at hh
   have g1:=runeG_is (by decide) hh.1
   have g2:=runeG_is (by decide) hh.2
   exact no3 q hiq hq2 (by rw[hbc (by omega)];exact h34') g1.2 g2.2
  rintro⟨_⟩ H5 x5
  refine⟨(false,()),fkI (fun h1=>fkI (fun h2=>fkI (fun h3=>?_) (fun _=>⟨rfl,rfl⟩)) (fun _=>⟨rfl,rfl⟩)) (fun _=>⟨rfl,rfl⟩),fkI (fun hh=>absurd hh (by decide)) (fun _=>?_)⟩
  ·exfalso;simp at h1 h2 h3;omega
  refine⟨fun y H'=>y.1=(q:Int)∧y.2.2.1=((i+3:Nat):Int)∧Ext [] H5 H',?_,?_⟩
  ·refine fkI (fun h92=>?_) (fun _=>⟨rfl,rfl,Ext.refl _ _⟩)
   have h92':c=92:=by simpa using h92
   have y5:=y4.trans x5
   refine(runeAt_gen (h1.ext y5) (q+1)).mono ?_
   rintro _ H6 ⟨rfl,x6⟩
   refine⟨runeG E.text (q+1),rfl,(runeAt_gen (h1.ext (y5.trans x6)) (q+2)).mono ?_⟩
   rintro _ H7 ⟨rfl,x7⟩
   refine⟨runeG E.text (q+2),rfl,(runeAt_gen (h1.ext ((y5.trans x6).trans x7)) (q+3)).mono ?_⟩
   rintro _ H8 ⟨rfl,x8⟩
   refine⟨runeG E.text (q+3),rfl,?_⟩
   refine⟨(false,()),fkI (fun h1=>fkI (fun h2=>⟨?_,rfl⟩) (fun _=>⟨rfl,rfl⟩)) (fun _=>⟨rfl,rfl⟩),fkI (fun hh=>absurd hh (by decide)) (fun _=>⟨rfl,rfl,(x6.trans x7).trans x8⟩)⟩
   have g1:=runeG_is (c:=34) (by decide) (by simpa using h1)
   have g2:=runeG_is (c:=34) (by decide) (by simpa using h2)
   have hlast:q+1<e:=by
    rcases Nat.lt_or_ge (q+1) e with h9|h9
    ·exact h9
    ·exfalso
     have:q=i+3+1+s.size:=by omega
     have h10:=hbc (by omega)
     rw[this,bl] at h10;omega
   have: ¬(runeG E.text (q+3)).1=34:=by
    intro hh
    exact no3 (q+1) (by omega) hlast g1.2 g2.2 (runeG_is (by decide) hh).2
   have:((runeG E.text (q+3)).1==34)=false:=by simpa using this
   rw[this]
  rintro⟨_,rp2,_,_⟩ H6 ⟨rfl,rfl,x6⟩
  dsimp only
  rw[wrapN (k:=q) (by omega) n (by omega)]
  exact⟨⟨q+n,rfl,rfl,Nat.zero_le _,by omega,by omega,hcp',hbuf.ext ((x4.trans x5).trans x6),(y4.trans x5).trans x6⟩,by omega⟩
theorem readToken_quote {E:Src} {H:Heap} (h:SrcAt E H) (at_ i:Nat) (hw:WsRun E.text at_ i) (hi:i<E.text.size) (hb:bt E.text i=34) {k en:Int} {v:ByteArray}
 (hS: ¬((runeG E.text (i+1)).1=34∧(runeG E.text (i+2)).1=34)→ ∀H1,Ext [] H H1→Fn PP fq231 #[.pointer (some ⟨E.src,0,none⟩),.int .i64 i] H1 fun r H'=>r= .tuple #[.agg #[.int .i64 k,.int .i64 i,.int .i64 en,.string v],.nilIface]∧Ext [] H1 H')
 (hQ:(runeG E.text (i+1)).1=34∧(runeG E.text (i+2)).1=34→ ∀H1,Ext [] H H1→Fn PP fq230 #[.pointer (some ⟨E.src,0,none⟩),.int .i64 i] H1 fun r H'=>r= .tuple #[.agg #[.int .i64 k,.int .i64 i,.int .i64 en,.string v],.nilIface]∧Ext [] H1 H'):
 Fn PP fq197 #[.pointer (some ⟨E.src,0,none⟩),.int .i64 at_] H fun r H'=>r= .tuple #[.agg #[.int .i64 k,.int .i64 i,.int .i64 en,.string v],.nilIface]∧Ext [] H H':=by
 have hsm:=h.small
 refine readToken.enter _ _ H _ ?_
 unfold readToken.W
 refine nbI fun H1 e1 hb1 x1 s1=>?_
 have h1:=h.ext x1
 obtain⟨nm,fr,hsrc⟩:=h1.src
 refine⟨(E.body,0,E.text.size,E.cap),lcO hsrc rfl,?_⟩
 dsimp only
 refine(posAfter_ok h1 at_ i hw).mono ?_
 rintro _ _ ⟨rfl,rfl⟩
 refine⟨((i:Int),(i:Int)),rfl,?_⟩
 dsimp only
 refine fkI (fun hge=>by exfalso;simp at hge;omega) (fun _=>?_)
 have hfin: ∀H',Ext [H.size] H1 H'→Ext [] H H':=fun H' x=>⟨by have:=x1.size;have:=x.size;omega,fun q o hq _=>x.get _ _ (x1.get _ _ hq (by simp)) (by have:=lt_of_get hq;simp;omega)⟩
 refine(runeAt_ok h1 i (by omega) (by omega)).mono ?_
 rintro _ _ ⟨rfl,rfl⟩
 refine⟨(bt E.text i,1),rfl,?_⟩
 dsimp only
 rw[hb]
 rw[wrap1 (k:=i) (by omega),wrapL (k:=i) 2]
 refine⟨(false,()),fkI (fun hh=>absurd hh (by decide)) (fun _=>⟨rfl,rfl⟩),fkI (fun hh=>absurd hh (by decide)) (fun _=>?_)⟩
 refine⟨fun _ _=>False,?_,fun _ _ hh=>hh.elim⟩
 repeat refine fkI (fun hh=>absurd hh (by decide)) (fun _=>?_)
 refine fkI (fun _=>?_) (fun hh=>absurd hh (by decide))
 refine nbI fun H2 e2 hb2 x2 s2=>?_
 have h2:=h1.ext x2
 refine(runeAt_gen h2 (i+1)).mono ?_
 rintro _ H3 ⟨rfl,x3⟩
 refine⟨runeG E.text (i+1),rfl,(runeAt_gen (h2.ext x3) (i+2)).mono ?_⟩
 rintro _ H4 ⟨rfl,x4⟩
 refine⟨runeG E.text (i+2),rfl,?_⟩
 refine joinPK_and ?_
 have y4:=(x2.trans x3).trans x4
 have hb14:=y4.get _ _ hb1 (by simp)
 have hb24:=(x3.trans x4).get _ _ hb2 (by simp)
 refine⟨fun y H'=>y.1= .nilIface∧Ext [H1.size] H4 H'∧H'[H1.size]?=some (.cells #[.int .i64 k,.int .i64 i,.int .i64 en,.string v] tq85),?_,?_⟩
 ·refine fkI (fun hh=>?_) (fun hh=>?_)
  ·have hh':(runeG E.text (i+1)).1=34∧(runeG E.text (i+2)).1=34:=by simpa using hh
   refine(hQ hh' H4 (x1.trans y4)).mono ?_
   rintro _ H5 ⟨rfl,x5⟩
   refine⟨(k,(i:Int),en,v),rfl,?_⟩
   dsimp only
   refine swI (x5.get _ _ hb24 (by simp)) (by simp) rfl rfl fun H6 e6 hb6 x6 s6=>?_
   exact⟨rfl,x5.of_nil.trans x6,hb6⟩
  ·have hh': ¬((runeG E.text (i+1)).1=34∧(runeG E.text (i+2)).1=34):=by
    intro h9
    simp[h9.1,h9.2] at hh
   refine(hS hh' H4 (x1.trans y4)).mono ?_
   rintro _ H5 ⟨rfl,x5⟩
   refine⟨(k,(i:Int),en,v),rfl,?_⟩
   dsimp only
   refine swI (x5.get _ _ hb24 (by simp)) (by simp) rfl rfl fun H6 e6 hb6 x6 s6=>?_
   exact⟨rfl,x5.of_nil.trans x6,hb6⟩
 rintro⟨_,_⟩ H5 ⟨rfl,x5,hb5⟩
 dsimp only
 refine⟨(k,(i:Int),en,v),lcO hb5 rfl,?_⟩
 dsimp only
 have hb15:=x5.get _ _ hb14 (by simp;omega)
 refine swI hb15 (by simp) rfl rfl fun H6 e6 hb6 x6 s6=>?_
 have hb6':H6[H.size]?=some (.cells #[.int .i64 k,.int .i64 i,.int .i64 en,.string v] tq85):=hb6
 rw[lcO hb6' rfl]
 refine rkI ⟨rfl,?_⟩
 have z1:=x1.size;have z2:=y4.size;have z5:=x5.size;have z6:=x6.size
 refine⟨by omega,fun q o hq _=>?_⟩
 have hlt:=lt_of_get hq
 exact x6.get _ _ (x5.get _ _ (y4.get _ _ (x1.get _ _ hq (by simp)) (by simp)) (by simp;omega)) (by simp;omega)
theorem tokS_str {s:ByteArray} (ht:TextP s) (hss:s.size≤1000000):TokS (quoteM s) (18,s):=by
 have h0:bt (quoteM s) (0:Nat)=34:=by unfold quoteM;exact bt_bs_cons 34 [] _
 have hg:0<(quoteGo s 0).size:=by
  unfold quoteGo
  split
  ·split
   ·decide
   ·rename_i h1 h2
    rw[ByteArray.size_append]
    have hpt:=point_bytes (s:=s) (k:=0) (c:=(pointM s 0).1) (n:=(pointM s 0).2) rfl h2 h1
    have:0<(quoteOne s 0 (pointM s 0).1 (pointM s 0).2).size:=by
     unfold quoteOne
     split
     ·rw[ByteArray.size_append];have:(bs [92]).size=1:=rfl;omega
     ·split
      ·unfold escM
       simp only[ByteArray.size_append]
       have:(bs [92,117]).size=2:=rfl
       omega
      ·rw[ByteArray.size_extract];omega
    omega
  ·decide
 have hz:(quoteM s).size=1+(quoteGo s 0).size:=by unfold quoteM;rw[ByteArray.size_append];rfl
 refine⟨by omega,by rw[h0];decide,by rw[h0];rfl,by rw[h0];decide,fun h=>absurd h (by simp),fun E at_ i rest hw hsf _ hq H h=>?_⟩
 have hzz:=hsf.size
 rw[ByteArray.size_append] at hzz
 have hb:bt E.text i=34:=by rw[hsf.bt0,bt_left _ _ _ (by omega)];exact h0
 refine readToken_quote h at_ i hw (by omega) hb (fun _ H1 x1=>readString_ok (h.ext x1) i s rest hsf ht hss) (fun hh=>?_)
 exfalso
 -- two quotes behind the first one: the text is empty, and what follows begins with no quote
 have g1:=runeG_is (by decide) hh.1
 have g2:=runeG_is (by decide) hh.2
 have hsf2:Sfx E.text (i+1) (quoteGo s 0++rest):=by
  have e:quoteM s++rest=bs [34]++(quoteGo s 0++rest):=by unfold quoteM;rw[ByteArray.append_assoc]
  rw[e] at hsf;exact hsf.next
 have hb1:=hsf2.bt0
 rw[g1.2,bt_left _ _ _ hg] at hb1
 have hs0:s.size=0:=by
  rcases Nat.eq_zero_or_pos s.size with h9|h9
  ·exact h9
  ·exfalso
   obtain⟨c,n,hp,hn,_,_⟩:=Pts.here ht h9
   obtain⟨hPt,_⟩:=point_bytes hp hn h9
   have e9:quoteGo s 0=quoteOne s 0 c n++quoteGo s (0+n):=by
    conv=>lhs;unfold quoteGo
    rw[dif_pos h9,dif_neg (by rw[hp];exact hn),hp]
   rw[e9] at hb1
   unfold quoteOne at hb1
   split at hb1
   ·rw[ByteArray.append_assoc,bt_bs_cons] at hb1
    exact absurd hb1 (by decide)
   ·rename_i hA
    split at hb1
    ·have e8:escM c=bs [92,117]++(digM (hx3 c)++(digM (hx2 c)++(digM (hx1 c)++digM (hx0 c)))):=by unfold escM;simp only[ByteArray.append_assoc]
     rw[e8,ByteArray.append_assoc,bt_bs_cons] at hb1
     exact absurd hb1 (by decide)
    ·have hn1:0<n:=by omega
     have hz2:0<(s.extract 0 (0+n)).size:=by rw[ByteArray.size_extract];omega
     rw[bt_left _ _ _ hz2] at hb1
     obtain⟨x,hx,hxb⟩:=list_bt h9
     have h8:(s.extract 0 (0+n)).data.toList[0]?=some x:=by
      rw[list_of_extract,List.getElem?_take,if_pos (by omega),List.getElem?_drop];exact hx
     rw[bt_list h8,←hxb] at hb1
     simp only[Bool.or_eq_true,beq_iff_eq,not_or] at hA
     rcases hPt with⟨_,h7,_⟩|⟨_,h7⟩|⟨_,h7⟩|⟨_,h7⟩<;>omega
 have e7:quoteGo s 0=bs [34]:=by unfold quoteGo;rw[dif_neg (by omega)]
 rw[e7] at hsf2
 have hn:=hsf2.next
 have e1:(bs [34]).size=1:=rfl
 rw[e1] at hn
 rcases hq h0 with h6|h6
 ·have:=hn.size;omega
 ·have:=hn.bt0
  rw[g2.2] at this
  omega
theorem tokS_block {s:ByteArray} (hB:BlockP s) (hss:s.size≤90000):TokS (blockTextM s) (19,s):=by
 have h0:bt (blockTextM s) (0:Nat)=34:=by unfold blockTextM;exact bt_bs_cons 34 _ _
 have hz:4≤(blockTextM s).size:=by unfold blockTextM;rw[ByteArray.size_append];have:(bs [34,34,34,10]).size=4:=rfl;omega
 refine⟨by omega,by rw[h0];decide,by rw[h0];rfl,by rw[h0];decide,fun h=>absurd h (by simp),fun E at_ i rest hw hsf _ _ H h=>?_⟩
 have hzz:=hsf.size
 rw[ByteArray.size_append] at hzz
 have hb: ∀j,j<3→bt E.text ((i+j:Nat):Int)=34:=by
  intro j hj
  rw[hsf.bt j,bt_left _ _ _ (by omega)]
  unfold blockTextM
  rw[bt_left _ _ _ (by have:(bs [34,34,34,10]).size=4:=rfl;omega)]
  match j,hj with
  |0,_=>rfl
  |1,_=>rfl
  |2,_=>rfl
 have b1:=hb 1 (by omega)
 have b2:=hb 2 (by omega)
 refine readToken_quote h at_ i hw (by omega) (hb 0 (by omega)) (fun hh=>?_) (fun _ H1 x1=>readBlock_ok (h.ext x1) i s rest hsf hB hss)
 exfalso
 refine hh ⟨?_,?_⟩
 ·rw[runeG_asc (by omega) (by rw[b1];decide)];exact b1
 ·rw[runeG_asc (by omega) (by rw[b2];decide)];exact b2
end Go.Vx
