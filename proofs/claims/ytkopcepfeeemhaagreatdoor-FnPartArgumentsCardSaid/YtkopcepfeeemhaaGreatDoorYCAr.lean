/- A part of the proof of what the last text of this claim says: QR3. Conditions: none. -/
import Derived.Test.YtkopcepfeeemhaaGreatDoorYCAq
set_option maxRecDepth 10000
namespace Go.Vx
open Go Go.Proofs
theorem listed_ok {y:Sl} {bs:List Nat} {H:Heap} (hs:SlAt y (bs.map ptV) H) (hlen:bs.length≤1000):
 Fn PP fq95 #[.slice y.1 y.2.1 y.2.2,.nilIface] H fun v H'=> ∃x:Sl,v=slV x∧Ext [] H H'∧SlAt x (bs.map fun b=>ifV (tq120,b)) H'∧ ∀r,rowOf x.1=some r→H.size≤r:=by
 obtain⟨ya,yn,yc⟩:=y
 have hyn:yn=bs.length:=by have:=hs.1;simpa using this
 refine listedInputValueDefinition.enter ya yn yc H _ ?_
 unfold listedInputValueDefinition.W
 refine⟨fun z H'=> ∃k:Nat,z.2.1=k∧k≤bs.length∧z.1.2.1=k∧Ext [] H H'∧OwnS H' tq20 1 z.1.1 z.1.2.1 z.1.2.2 ((bs.take k).map fun b=>ifV (tq120,b))∧(∀r,rowOf z.1.1=some r→H.size≤r),fun z _=>bs.length -z.2.1.toNat,
  ⟨0,rfl,Nat.zero_le _,rfl,Ext.refl _ _,OwnS.nil _ _ _,by simp[rowOf]⟩,?_⟩
 rintro⟨⟨a,n,cc⟩,_,_⟩ H2 ⟨k,hk1,hkl,hk2,x2,o2,hr2⟩
 dsimp only at hk1 hk2 o2 hr2⊢
 subst hk1;subst hk2
 refine fkI (fun hlt=>?_) (fun hge=>?_)
 ·have hlt':n<bs.length:=by simp at hlt;omega
  have hi:(bs.map ptV)[n]?=some (ptV bs[n]):=by simp[hlt']
  have hL:=(hs.keep x2).load hi
  refine⟨hL.1,bs[n],hL.2,?_⟩
  refine nbI fun H5 e3 hb3 x5 s3=>?_
  have o3:=o2.ext x5 (by simp)
  have hml:1000000≤maxLen:=by decide
  refine .inr ⟨_,_,o3,NewsS.of_block hb3 rfl,?_,by omega,by omega,?_⟩
  ·intro u hu;simp at hu;subst hu;rfl
  intro a4 c4 H4 o4 g4 _ hrow4
  rw[wrap1 (k:=n) (by omega)]
  refine⟨⟨n+1,rfl,hlt',rfl,?_,?_,?_⟩,by omega⟩
  ·refine⟨by have:=x2.size;have:=x5.size;have:=g4.size;omega,fun q o hq hn=>?_⟩
   have h2:=x5.get _ _ (x2.get _ _ hq (by simp)) (by simp)
   rw[g4.block q (lt_of_get h2) fun eq=>?_,h2]
   have:=hr2 q eq.symm
   have:=lt_of_get hq
   omega
  ·have ht:bs.take (n+1)=bs.take n++[bs[n]]:=List.take_succ_eq_append_getElem hlt'
   rw[ht,List.map_append]
   exact o4
  ·intro r hr
   rcases hrow4 with h5|h5
   ·exact hr2 r (by rw[←h5];exact hr)
   ·rw[h5] at hr;cases hr;have:=x2.size;have:=x5.size;omega
 ·obtain rfl:n=bs.length:=by simp at hge;omega
  rw[List.take_length] at o2
  exact rkI ⟨(a,bs.length,cc),rfl,x2,SlcAt.of_own o2,hr2⟩
def StepsOk (nm:ByteArray) (kind:Int) (ks:List KV) (ts:List Tr):Prop:= ∀(E:PEnv) (u:KV),EndT u→
 POk E fq62 #[.pointer (some ⟨E.p,0,none⟩),.string nm] (ks++[u]) [u] (fun y:Sl×List (Nat×Nat)=>slV y.1)
  fun y G=>SlAt y.1 (y.2.map ifV) G∧All2 (fun b k=>TakeOk kind b.1 b.2 (flat k) G) y.2 ts
abbrev sArgDefs:ByteArray:=bs [97,114,103,117,109,101,110,116,32,100,101,102,105,110,105,116,105,111,110,115]
theorem All2.map1 {α β γ:Type} {R:β→γ→Prop} (f:α→β) {l:List α} {m:List γ} (h:All2 (fun a c=>R (f a) c) l m):All2 R (l.map f) m:=All2.map h
theorem step_args (l:List Tr) (hK:InK [30] l) (hf: ∀t∈l,Fine t) (hlen:l.length≤400):StepsOk sArgDefs 30 (brK (some kPL) (some kPR) l) l:=by
 intro E u hu H ps
 refine ppart.enter _ _ H _ ?_
 unfold ppart.W
 repeat refine fkI (fun hh=>(neq_bs (by decide) hh).elim) (fun _=>?_)
 refine fkI (fun _=>?_) (fun hh=>(eq_bs hh).elim)
 refine(parseArgumentDefsI_ok E l hK hf hlen u [] hu.noT.1 H ps).mono ?_
 rintro _ H1 ⟨⟨y,bs⟩,rfl,c1⟩
 refine⟨y,rfl,?_⟩
 have hl:=c1.self.2.len
 dsimp only at hl
 refine(listed_ok c1.self.1 (by dsimp only;omega)).mono ?_
 rintro _ H2 ⟨x,rfl,x2,hsl,hrow⟩
 refine⟨x,rfl,rkI ⟨(x,bs.map fun b=>(tq120,b)),rfl,?_⟩⟩
 refine(c1.add (F':=fun G=>SlAt x (bs.map fun b=>ifV (tq120,b)) G) x2 fun G hG=>?_).weak fun G hG=>⟨?_,?_⟩
 ·refine⟨hsl.1,hsl.2.imp id ?_⟩
  rintro⟨g,o,c',e',fr,ha,hg,hr⟩
  exact⟨g,o,c',e',fr,ha,hG _ _ (hrow g (by rw[ha];rfl)) hg,hr⟩
 ·dsimp only
  rw[List.map_map]
  exact hG.2
 ·refine All2.map1 _ ?_
  have hall: ∀ {bs:List Nat} {l:List Tr},(∀t∈l,Fine t)→All2 (fun b k=>ItemAt fq123 tq120 30 2 b k G) bs l→All2 (fun b k=>TakeOk 30 tq120 b (flat k) G) bs l:=by
   intro bs l hf h
   induction h with
   |nil=>exact .nil
   |cons h _ ih=>exact .cons (take_input30 30 (hf _ (by simp)) h) (ih fun t ht=>hf t (by simp[ht]))
  exact hall hf hG.1.2
theorem PReadParts_ok (nm:ByteArray) (kind:Int) (text:ByteArray) (hsm:text.size<268435456) (ks:List KV) (u:KV) (ts:List Tr) (hu:EndT u) (hr: ∀S:Src,S.text=text→Rest S (ks++[u]) 0) (hst:StepsOk nm kind ks ts) (H:Heap) (hT:TabsAt H.size H):
 Fn PP fq37 #[.string nm,.string text] H fun v H'=> ∃(x:Sl) (bs:List (Nat×Nat)) (nx:Nat),v= .tuple #[.slice x.1 x.2.1 x.2.2,.int .i64 nx,.nilIface]∧Ext [] H H'∧(u.1=14→nx+1=text.size)∧
  SlAt x (bs.map ifV) H'∧All2 (fun b k=>TakeOk kind b.1 b.2 (flat k) H') bs ts:=by
 obtain⟨t,l,hl⟩:=app_ne ks u []
 refine PReadPart.enter nm text H _ ?_
 unfold PReadPart.W
 refine(begin_ok text hsm t l (fun S hS=>by rw[←hl];exact hr S hS) H hT).mono ?_
 rintro _ H1 ⟨E,rfl,hE,hps,x1,h1,h2⟩
 refine⟨E.p,rfl,?_⟩
 rw[←hl] at hps
 refine(hst E u hu H1 hps).mono ?_
 rintro _ H2 ⟨⟨x,bs⟩,rfl,c2⟩
 refine⟨x,rfl,?_⟩
 obtain⟨st,hst2,hfin⟩:=c2.ps.start
 refine⟨(st:Int),hst2,rkI ⟨x,bs,st,rfl,?_,fun h14=>?_,c2.self⟩⟩
 ·refine⟨by have:=x1.size;have:=c2.ext.size;omega,fun k o ho _=>c2.ext.get _ _ (x1.get _ _ ho (by simp)) ?_⟩
  have:=lt_of_get ho
  simp only[PEnv.S,List.mem_cons,List.not_mem_nil,or_false,not_or]
  omega
 ·rw[←hE];exact hfin h14 rfl
theorem readParts_ok (nm:ByteArray) (kind:Int) (text:ByteArray) (hsm:text.size<268435456) (ks:List KV) (u:KV) (ts:List Tr) (hu:EndT u) (hr: ∀S:Src,S.text=text→Rest S (ks++[u]) 0) (hst:StepsOk nm kind ks ts) (hlen:(flatL ts).length≤800) (H:Heap) (hT:TabsAt H.size H):
 Fn PP fq30 #[.string nm,.int .i64 kind,.string text] H fun v H'=> ∃(x:Sl) (nx:Nat) (Y:List Nd),v= .tuple #[.slice x.1 x.2.1 x.2.2,.int .i64 nx,.bool true]∧Ext [] H H'∧(u.1=14→nx+1=text.size)∧
  Sames Y (flatL ts)∧x.2.1=Y.length∧(Y=[]∨ ∃g:Nat,x.1=some ⟨g,0,none⟩∧NodesAt H' g 0 Y):=by
 refine readPart.enter nm kind text H _ ?_
 unfold readPart.W
 refine(PReadParts_ok nm kind text hsm ks u ts hu hr hst H hT).mono ?_
 rintro _ H1 ⟨x,bs,nx,rfl,x1,h14,hsl,hall⟩
 refine⟨(x,(nx:Int)),rfl,?_⟩
 dsimp only
 have hxn:x.2.1=bs.length:=by have:=hsl.1;simpa using this
 have hbl:=hall.len
 have htl:=flatL_len ts
 refine nbI fun H2 e2 hb2 x2 s2=>?_
 have t0:TkAt H1 H2 H1.size []:=⟨x2,Nat.le_refl _,none,0,0,none,0,0,[],hb2,OwnS.nil _ _ _,by simp[rowOf],OwnS.nil _ _ _,by simp[rowOf],rfl⟩
 refine⟨fun z H'=> ∃(k:Nat) (Y:List Nd),z.1=k∧k≤ts.length∧Sames Y (flatL (ts.take k))∧TkAt H1 H' H1.size Y,fun z _=>ts.length -z.1.toNat,⟨0,[],rfl,Nat.zero_le _,by simpa [flatL] using Sames.nil,t0⟩,?_⟩
 rintro⟨_,_⟩ H3 ⟨k,Y,hk1,hkl,hY,t3⟩
 dsimp only at hk1⊢
 subst hk1
 have hYl:=hY.len
 have hle:=flatL_take_le ts k
 refine fkI (fun hlt=>?_) (fun hge=>?_)
 ·have hlt':k<ts.length:=by simp at hlt;omega
  have hi:ts[k]?=some ts[k]:=List.getElem?_eq_getElem hlt'
  obtain⟨b,hbi,hTk⟩:=hall.get k _ hi
  have hL:=(hsl.keep t3.ext).load (i:=k) (v:=ifV b) (by simp[hbi])
  refine⟨hL.1,b,hL.2,?_⟩
  refine(hTk H3 H1.size Y t3 (by omega)).mono ?_
  rintro _ H4 ⟨rfl,Z,hZ,t4⟩
  refine⟨(),rfl,?_⟩
  rw[wrap1 (k:=k) (by omega)]
  refine⟨⟨k+1,Y++Z,rfl,by omega,?_,t4⟩,by omega⟩
  rw[flatL_take_succ ts k _ hi]
  exact hY.append hZ
 ·have he:k=ts.length:=by simp at hge;omega
  rw[he,List.take_length] at hY
  obtain⟨a,n,c2,sa,sn,sc,xs,q1,q2,q3,q4,q5,q6⟩:=t3.st
  refine⟨false,lcO q1 rfl,fkI (fun hh=>absurd hh (by decide)) (fun _=>?_)⟩
  have hn:=q2.1
  rw[ndCells_len] at hn
  obtain rfl:n=Y.length:=by omega
  refine⟨(a,Y.length,c2),lcO q1 rfl,rkI ⟨(a,Y.length,c2),nx,Y,rfl,x1.trans t3.ext,h14,hY,rfl,?_⟩⟩
  rcases q2.2 with⟨_,h0,_⟩|⟨g2,cur,rfl,hg2⟩
  ·left
   exact List.eq_nil_of_length_eq_zero (by omega)
  ·exact .inr ⟨g2,rfl,NodesAt.own q2⟩
end Go.Vx
