/- A part of the proof of what the last text of this claim says: PC6, PC7, PC8, PC9. Conditions: none. -/
import Derived.Test.YtkopcepfeeemhaaGreatDoorZAg
set_option maxRecDepth 10000
namespace Go.Vx
open Go Go.Proofs
section
variable {t:Tr} {H0 Hs H H':Heap} {w m b o nn i:Nat} {ds:List Nd} {ss rest rest':List ByteArray}
theorem TS.rebase (h:TS t H0 Hs w m b o nn ds ss H rest):TS t H0 H w m b o nn ds ss H rest:=by
 obtain⟨acc,hs,_,hw⟩:=h;exact⟨acc,hs,KeepT.refl _ _,hw⟩
theorem TS.back (h:TS t H0 Hs w m b o nn ds ss H rest) (k:TS t H0 H w m b o nn ds ss H' rest'):TS t H0 Hs w m b o nn ds ss H' rest':=by
 obtain⟨acc,_,hK,_⟩:=h
 obtain⟨acc',hs',hK',hw'⟩:=k
 exact⟨acc',hs',hK.trans hK',hw'⟩
theorem node_ts (c:NCtx t H0 w m b o nn ds ss i) {k:Tr} (hks:t.ks=[k]) (h:TS t H0 Hs w m b o nn ds ss H (allM (ktOf t)++rest)) {K:Unit→Heap→Prop} (hk: ∀H',TS t H0 Hs w m b o nn ds ss H' rest→K () H'):
 callW PP fq31 #[.pointer (some ⟨w,0,none⟩),.int .i64 (IntKind.i64.wrap ((i:Int)+1))] H ⟨Unit,fun _=> .tuple #[]⟩ fun x H3=>K x H3:=by
 obtain⟨acc,hs,hK,hw⟩:=h
 have hle:=c.at_.le' (flat_ne _)
 have h1:=hw.doc.len
 have h2:=hw.doc.lt
 have hpos:=flat_pos t
 rw[wrap1 (by omega)]
 have hat1:At ds (i+1) (flat k):=by
  have:=c.at_
  obtain⟨nd,ks⟩:=t
  have hks':ks=[k]:=hks
  have:=this.kids
  rw[hks'] at this
  simpa [flatL] using this
 have hw1:Ws k:=c.ws.kids.mem k (by rw[hks];simp)
 have he:allM (ktOf t)=toks k:=by unfold ktOf allM;rw[hks];simp[toksKT]
 rw[he] at hs
 refine node_step (c.kids k (by rw[hks];simp)) hw hat1 hw1 (TS.few c hs) ?_
 intro H' hK' hw'
 exact hk H' (TS.done hs hK hK' hw')
end
theorem wDefinition_ok {t:Tr} {H0 H:Heap} {w m b o nn i:Nat} {ds:List Nd} {ss:List ByteArray} (c:NCtx t H0 w m b o nn ds ss i) (h:TS t H0 H w m b o nn ds ss H (defM t.n (ktOf t))) (hone:t.n.kind=39→ ∃k,t.ks=[k]):
 Fn PP fq77 #[.pointer (some ⟨w,0,none⟩),.int .i64 i] H fun v H'=>v= .tuple #[]∧TS t H0 H w m b o nn ds ss H' []:=by
 refine wDefinition.enter w i H _ ?_
 unfold wDefinition.W
 obtain⟨acc,hs,hK,hw⟩:=id h
 obtain⟨cc,hd⟩:=hw.d
 have hle:=c.at_.le' (flat_ne _)
 have h1:=hw.doc.len
 have h2:=hw.doc.lt
 have hpos:=flat_pos t
 refine⟨(some ⟨b,o,none⟩,nn,cc),hd,ix_some (by omega) (by dsimp only;omega),(t.n.kind,t.n.name,t.n.alias,t.n.text,t.n.flag,t.n.size),hw.doc.nodes.all c.at_.root,?_⟩
 refine nbI fun H4 e4 hb4 ext4 hs4=>?_
 refine swI hb4 (by simp) rfl rfl fun H5 e5 hb5 ext5 hs5=>?_
 have hb5:H5[H4.size -1]?=some (.cells #[.int .i64 t.n.kind,.string t.n.name,.string t.n.alias,.string t.n.text,.int .i64 t.n.flag,.int .i64 t.n.size] tq41 (0,0)):=by
  rw[hs4,Nat.add_sub_cancel];exact hb5
 have hE5:Ext [] H H5:=Ext.newer ext4 ext5 (Nat.le_refl _)
 have h5:=(h.grow hE5).rebase
 have hback: ∀ {H':Heap},TS t H0 H5 w m b o nn ds ss H' []→TS t H0 H w m b o nn ds ss H' []:=fun k=>(h.grow hE5).back k
 have hbk:H4.size -1=H.size:=by omega
 rw[hbk] at hb5
 clear e4 hb4 ext4 e5 ext5 hs5
 generalize H.size=bk at hb5⊢
 refine about_ts c h5 ?_
 intro H7 h7
 refine⟨_,lcO (h7.get hb5 (by decide) (by decide)) rfl,?_⟩
 refine fkI (fun hk=>?_) (fun hk=>?_)
 ·have hk':t.n.kind=24:=eq_of_beq hk
  rw[if_pos hk'] at h7
  refine put_ts c [wSchema] h7 rfl ?_
  intro _ g1
  refine dirs_ts c g1 ?_
  intro _ g2
  refine kids_ts c sBraL sBraR eB [25] (by decide) g2 rfl (by decide) ?_
  intro _ g3
  exact rkI ⟨rfl,hback g3⟩
 rw[if_neg (by simpa using hk)] at h7
 refine fkI (fun hk=>?_) (fun hk=>?_)
 ·have hk':t.n.kind=25:=eq_of_beq hk
  rw[if_pos hk'] at h7
  refine⟨_,lcO (h7.get hb5 (by decide) (by decide)) rfl,?_⟩
  refine⟨_,lcO (h7.get hb5 (by decide) (by decide)) rfl,?_⟩
  refine put_ts c [t.n.text,sCol,t.n.name] h7 rfl ?_
  intro _ g1
  exact rkI ⟨rfl,hback g1⟩
 rw[if_neg (by simpa using hk)] at h7
 refine fkI (fun hk=>?_) (fun hk=>?_)
 ·have hk':t.n.kind=26:=eq_of_beq hk
  rw[if_pos hk'] at h7
  refine⟨_,lcO (h7.get hb5 (by decide) (by decide)) rfl,?_⟩
  refine put_ts c [wScalar,t.n.name] h7 rfl ?_
  intro _ g1
  refine dirs_ts c g1 ?_
  intro _ g2
  exact rkI ⟨rfl,hback g2⟩
 rw[if_neg (by simpa using hk)] at h7
 refine fkI (fun hk=>?_) (fun hk=>?_)
 ·have hk':t.n.kind=27:=eq_of_beq hk
  rw[if_pos hk'] at h7
  refine⟨_,lcO (h7.get hb5 (by decide) (by decide)) rfl,?_⟩
  refine put_ts c [wType,t.n.name] h7 rfl ?_
  intro _ g1
  refine kids_ts c wImplements eB sAmp [28] (by decide) g1 rfl (by decide) ?_
  intro _ g2
  refine dirs_ts c g2 ?_
  intro _ g3
  refine kids_ts c sBraL sBraR eB [29] (by decide) g3 rfl (by decide) ?_
  intro _ g4
  exact rkI ⟨rfl,hback g4⟩
 rw[if_neg (by simpa using hk)] at h7
 refine fkI (fun hk=>?_) (fun hk=>?_)
 ·have hk':t.n.kind=31:=eq_of_beq hk
  rw[if_pos hk'] at h7
  refine⟨_,lcO (h7.get hb5 (by decide) (by decide)) rfl,?_⟩
  refine put_ts c [wInterface,t.n.name] h7 rfl ?_
  intro _ g1
  refine dirs_ts c g1 ?_
  intro _ g2
  refine kids_ts c sBraL sBraR eB [29] (by decide) g2 rfl (by decide) ?_
  intro _ g3
  exact rkI ⟨rfl,hback g3⟩
 rw[if_neg (by simpa using hk)] at h7
 refine fkI (fun hk=>?_) (fun hk=>?_)
 ·have hk':t.n.kind=29:=eq_of_beq hk
  rw[if_pos hk'] at h7
  refine⟨_,lcO (h7.get hb5 (by decide) (by decide)) rfl,?_⟩
  refine put_ts c [t.n.name] h7 rfl ?_
  intro _ g1
  refine kids_ts c sParL sParR eB [30] (by decide) g1 rfl (by decide) ?_
  intro _ g2
  refine firstType_ts c sCol g2 ?_
  intro _ g3
  refine dirs_ts c g3 ?_
  intro _ g4
  exact rkI ⟨rfl,hback g4⟩
 rw[if_neg (by simpa using hk)] at h7
 refine fkI (fun hk=>?_) (fun hk=>?_)
 ·have hk':t.n.kind=30:=eq_of_beq hk
  rw[if_pos hk'] at h7
  refine⟨_,lcO (h7.get hb5 (by decide) (by decide)) rfl,?_⟩
  refine put_ts c [t.n.name] h7 rfl ?_
  intro _ g1
  refine firstType_ts c sCol g1 ?_
  intro _ g2
  refine firstValue_ts c sEq g2 ?_
  intro _ g3
  refine dirs_ts c g3 ?_
  intro _ g4
  exact rkI ⟨rfl,hback g4⟩
 rw[if_neg (by simpa using hk)] at h7
 refine fkI (fun hk=>?_) (fun hk=>?_)
 ·have hk':t.n.kind=32:=eq_of_beq hk
  rw[if_pos hk'] at h7
  refine⟨_,lcO (h7.get hb5 (by decide) (by decide)) rfl,?_⟩
  refine put_ts c [wUnion,t.n.name] h7 rfl ?_
  intro _ g1
  refine dirs_ts c g1 ?_
  intro _ g2
  refine kids_ts c sEq eB sPipe [33] (by decide) g2 rfl (by decide) ?_
  intro _ g3
  exact rkI ⟨rfl,hback g3⟩
 rw[if_neg (by simpa using hk)] at h7
 refine fkI (fun hk=>?_) (fun hk=>?_)
 ·have hk':t.n.kind=34:=eq_of_beq hk
  rw[if_pos hk'] at h7
  refine⟨_,lcO (h7.get hb5 (by decide) (by decide)) rfl,?_⟩
  refine put_ts c [wEnum,t.n.name] h7 rfl ?_
  intro _ g1
  refine dirs_ts c g1 ?_
  intro _ g2
  refine kids_ts c sBraL sBraR eB [35] (by decide) g2 rfl (by decide) ?_
  intro _ g3
  exact rkI ⟨rfl,hback g3⟩
 rw[if_neg (by simpa using hk)] at h7
 refine fkI (fun hk=>?_) (fun hk=>?_)
 ·have hk':t.n.kind=35:=eq_of_beq hk
  rw[if_pos hk'] at h7
  refine⟨_,lcO (h7.get hb5 (by decide) (by decide)) rfl,?_⟩
  refine put_ts c [t.n.name] h7 rfl ?_
  intro _ g1
  refine dirs_ts c g1 ?_
  intro _ g2
  exact rkI ⟨rfl,hback g2⟩
 rw[if_neg (by simpa using hk)] at h7
 refine fkI (fun hk=>?_) (fun hk=>?_)
 ·have hk':t.n.kind=36:=eq_of_beq hk
  rw[if_pos hk'] at h7
  refine⟨_,lcO (h7.get hb5 (by decide) (by decide)) rfl,?_⟩
  refine put_ts c [wInput,t.n.name] h7 rfl ?_
  intro _ g1
  refine dirs_ts c g1 ?_
  intro _ g2
  refine kids_ts c sBraL sBraR eB [30] (by decide) g2 rfl (by decide) ?_
  intro _ g3
  exact rkI ⟨rfl,hback g3⟩
 rw[if_neg (by simpa using hk)] at h7
 refine fkI (fun hk=>?_) (fun hk=>?_)
 ·have hk':t.n.kind=37:=eq_of_beq hk
  rw[if_pos hk'] at h7
  refine⟨_,lcO (h7.get hb5 (by decide) (by decide)) rfl,?_⟩
  refine put_ts c [wDirective,sAt,t.n.name] h7 rfl ?_
  intro _ g1
  refine kids_ts c sParL sParR eB [30] (by decide) g1 rfl (by decide) ?_
  intro _ g2
  refine kids_ts c onB eB sPipe [38] (by decide) g2 rfl (by decide) ?_
  intro _ g3
  exact rkI ⟨rfl,hback g3⟩
 rw[if_neg (by simpa using hk)] at h7
 refine fkI (fun hk=>?_) (fun hk=>?_)
 ·have hk':t.n.kind=39:=eq_of_beq hk
  rw[if_pos hk'] at h7
  refine put_ts c [wExtend] h7 rfl ?_
  intro _ g1
  obtain⟨k,hks⟩:=hone hk'
  refine node_ts c hks g1 ?_
  intro _ g2
  exact rkI ⟨rfl,hback g2⟩
 rw[if_neg (by simpa using hk)] at h7
 exact rkI ⟨rfl,hback h7⟩
section
variable {t:Tr} {H0 Hs H H':Heap} {w m b o nn i:Nat} {ds:List Nd} {ss rest rest':List ByteArray}
theorem KeepT.ints {w:Nat} {A H H':Heap} {a:Option Addr} {n c:Nat} {ps:List Nat} (hK:KeepT w H H') (hF:Fresh A H tq3 1 a n c (intL ps)):SlcAt H' a n (intL ps):=by
 have hS:=SlcAt.of_own hF.own
 refine⟨hS.1,?_⟩
 rcases hF.own.2 with⟨_,h0,_⟩|⟨g,cur,hg,hgc,hnc,_,hs,ht⟩
 ·exact .inl h0
 ·refine .inr ⟨g,0,cur,tq3,(0,0),hg,hK.get _ _ _ _ hgc (by decide) (by decide),fun q s hq=>?_⟩
  have hlt:=(List.getElem?_eq_some_iff.1 hq).1
  have h2:(cur.toList.take (n*1))[q]?=some s:=by rw[ht];exact hq
  have hl:=hS.1
  rw[List.getElem?_take,if_pos (by omega)] at h2
  simpa using h2
theorem allM_drop (t:Tr) (j:Nat) (hj:j<t.ks.length):allM ((ktOf t).drop j)=toks t.ks[j]++allM ((ktOf t).drop (j+1)):=by
 have hkt:ktOf t=t.ks.map fun t=>(t.n,toks t):=toksKT_map bodyM t.ks
 have hl:j<(ktOf t).length:=by rw[hkt];simpa using hj
 rw[List.drop_eq_getElem_cons hl]
 unfold allM
 simp[hkt]
theorem all_loop (c:NCtx t H0 w m b o nn ds ss i) (h:TS t H0 Hs w m b o nn ds ss H (allM (ktOf t)++rest)) {K:Heap→Prop} (hk: ∀H',TS t H0 Hs w m b o nn ds ss H' rest→K H'):
 loadW H false 1 ⟨w,0,none⟩ pSlc fun(x70:(Option Addr×Nat×Nat))=>callW PP fq26 #[(.slice x70.1 x70.2.1 x70.2.2),(.int .i64 i)] H pSlc fun(x71:(Option Addr×Nat×Nat)) H72=>
  loopK (Int×Unit) (0,()) H72 fun z73 H74 next75=>forkB (decide (z73.1<((x71.2.1:Nat):Int)))
   ((IxOk x71.1 z73.1 x71.2.1)∧loadW H74 false 1 ⟨(blkOf x71.1),(offOf x71.1+z73.1.toNat*1),none⟩ (pInt .i64) fun(x76:Int)=>
     callW PP fq31 #[(.pointer (some ⟨w,0,none⟩)),(.int .i64 x76)] H74 ⟨Unit,fun _=>(.tuple #[])⟩ fun(_:Unit) H78=>next75 ((IntKind.i64.wrap (z73.1+1)),()) H78)
   (K H74):=by
 obtain⟨acc,hs,hK,hw⟩:=id h
 obtain⟨cc,hd⟩:=hw.d
 refine⟨(some ⟨b,o,none⟩,nn,cc),hd,?_⟩
 refine(Kids_ok b o nn cc ds H hw.doc i t c.at_ c.ws).mono ?_
 rintro _ H2 ⟨a1,m1,k1,ps,rfl,hF,hp⟩
 refine⟨(a1,m1,k1),rfl,?_⟩
 have hm1:=(SlcAt.of_own hF.own).1
 simp only[intL,List.length_map] at hm1
 have hlen:=hp.length
 have hkl:=kids_len t
 have hle:=c.at_.le' (flat_ne _)
 have hdl:=hw.doc.len
 have hdt:=hw.doc.lt
 have h2:=h.grow hF.ext
 refine⟨fun z H'=>KeepT w H2 H'∧ ∃j:Nat,z.1=j∧j≤m1∧TS t H0 Hs w m b o nn ds ss H' (allM ((ktOf t).drop j)++rest),fun z _=>m1 -z.1.toNat,⟨KeepT.refl _ _,0,rfl,Nat.zero_le _,h2⟩,?_⟩
 rintro⟨_,_⟩ H3 ⟨hK3,j,hj,hjm,h3⟩
 dsimp only at hj⊢
 subst hj
 refine fkI (fun hlt=>?_) (fun hge=>?_)
 ·have hj':j<t.ks.length:=by simp at hlt;omega
  obtain⟨p,hpj,hatj,hwj⟩:=hp.get j hj'
  have hL:=(hK3.ints hF).load (i:=j) (v:= .int .i64 (p:Int)) (by simp[intL,hpj])
  rw[allM_drop t j hj',List.append_assoc] at h3
  obtain⟨acc3,hs3,hKs,hw3⟩:=h3
  refine⟨hL.1,_,hL.2,?_⟩
  refine node_step (c.kids _ (List.getElem_mem hj')) hw3 hatj hwj (TS.few c hs3) ?_
  intro H4 hK4 hw4
  rw[wrap1 (by omega)]
  exact⟨⟨hK3.trans hK4,j+1,rfl,by omega,TS.done hs3 hKs hK4 hw4⟩,by omega⟩
 ·have hj':j=t.ks.length:=by simp at hge;omega
  have hnil:(ktOf t).drop j=[]:=List.drop_eq_nil_of_le (by rw[show ktOf t=t.ks.map fun t=>(t.n,toks t) from toksKT_map bodyM t.ks,List.length_map];omega)
  rw[hnil] at h3
  exact hk H3 h3
theorem WAt.outRow_ne {H0 H:Heap} {w m b o nn:Nat} {ds:List Nd} {ss:List ByteArray} (h:WAt H0 H w m b o nn ds ss) {H':Heap} (he:Ext [] H H'):outRow H' w≠some H.size:=by
 obtain⟨a,n,c,cc,hw,ho,hr⟩:=h.st
 have hw':=he.get _ _ hw (by simp)
 have e:outRow H' w=rowOf a:=by unfold outRow;rw[hw'];rfl
 rw[e]
 intro hrow
 obtain⟨cur,_,hg,_⟩:=ho.row hrow
 have:=lt_of_get hg
 omega
end
theorem wRest_ok {t:Tr} {H0 H:Heap} {w m b o nn i:Nat} {ds:List Nd} {ss:List ByteArray} (c:NCtx t H0 w m b o nn ds ss i) (h:TS t H0 H w m b o nn ds ss H (restM t.n (ktOf t)))
 (hone:(t.n.kind=21∨t.n.kind=22∨t.n.kind=39)→ ∃k,t.ks=[k]) (hflag:t.n.kind=15→t.n.flag=0∨t.n.flag=1) (hsz:t.n.text.size<4294967200):
 Fn PP fq46 #[.pointer (some ⟨w,0,none⟩),.int .i64 i] H fun v H'=>v= .tuple #[]∧TS t H0 H w m b o nn ds ss H' []:=by
 refine wRest.enter w i H _ ?_
 unfold wRest.W
 obtain⟨acc,hs,hK,hw⟩:=id h
 obtain⟨cc,hd⟩:=hw.d
 have hle:=c.at_.le' (flat_ne _)
 have h1:=hw.doc.len
 have h2:=hw.doc.lt
 have hpos:=flat_pos t
 refine⟨(some ⟨b,o,none⟩,nn,cc),hd,ix_some (by omega) (by dsimp only;omega),(t.n.kind,t.n.name,t.n.alias,t.n.text,t.n.flag,t.n.size),hw.doc.nodes.all c.at_.root,?_⟩
 refine nbI fun H4 e4 hb4 ext4 hs4=>?_
 refine swI hb4 (by simp) rfl rfl fun H5 e5 hb5 ext5 hs5=>?_
 have hb5:H5[H4.size -1]?=some (.cells #[.int .i64 t.n.kind,.string t.n.name,.string t.n.alias,.string t.n.text,.int .i64 t.n.flag,.int .i64 t.n.size] tq41 (0,0)):=by
  rw[hs4,Nat.add_sub_cancel];exact hb5
 have hE5:Ext [] H H5:=Ext.newer ext4 ext5 (Nat.le_refl _)
 have h7:=(h.grow hE5).rebase
 have hback: ∀ {H':Heap},TS t H0 H5 w m b o nn ds ss H' []→TS t H0 H w m b o nn ds ss H' []:=fun k=>(h.grow hE5).back k
 have hbk:H4.size -1=H.size:=by omega
 rw[hbk] at hb5
 clear e4 hb4 ext4 e5 ext5 hs5
 generalize H.size=bk at hb5⊢
 have ld: ∀ {H':Heap} {rest:List ByteArray},TS t H0 H5 w m b o nn ds ss H' rest→H'[bk]?=some (.cells #[.int .i64 t.n.kind,.string t.n.name,.string t.n.alias,.string t.n.text,.int .i64 t.n.flag,.int .i64 t.n.size] tq41 (0,0)):=
  fun h=>h.get hb5 (by decide) (by decide)
 unfold restM at h7
 refine⟨_,lcO hb5 rfl,?_⟩
 refine fkI (fun hk=>?_) (fun hk=>?_)
 ·rw[if_pos (eq_of_beq hk)] at h7
  refine⟨_,lcO hb5 rfl,?_⟩
  refine put_ts c [sDol,t.n.name] h7 rfl ?_
  intro _ g1
  exact rkI ⟨rfl,hback g1⟩
 rw[if_neg (by simpa using hk)] at h7
 have num:(t.n.kind=12∨t.n.kind=13)→loadW H5 false 1 ⟨bk,3,none⟩ pStr fun(x12:ByteArray)=>newB H5 (.cells #[(.string x12)] tq9) fun b13 H14=>
  callW PP fq40 #[(.pointer (some ⟨w,0,none⟩)),(.slice (some ⟨b13,0,none⟩) 1 1)] H14 ⟨Unit,fun _=>(.tuple #[])⟩ fun(_:Unit) H16=>
  retK (some []) H16 fun v H'=>v= .tuple #[]∧TS t H0 H w m b o nn ds ss H' []:=by
  intro hk
  rw[if_pos hk] at h7
  refine⟨_,lcO hb5 rfl,?_⟩
  refine put_ts c [t.n.text] h7 rfl ?_
  intro _ g1
  exact rkI ⟨rfl,hback g1⟩
 refine fkI (fun hk=>num (.inl (eq_of_beq hk))) (fun hk12=>?_)
 refine fkI (fun hk=>num (.inr (eq_of_beq hk))) (fun hk13=>?_)
 rw[if_neg (by simp at hk12 hk13;omega)] at h7
 have str:(t.n.kind=14∨t.n.kind=23)→loadW H5 false 1 ⟨bk,4,none⟩ (pInt .i64) fun(x22:Int)=>
  forkB (x22==1)
  (loadW H5 false 1 ⟨bk,3,none⟩ pStr fun(x23:ByteArray)=>
    callW PP fq75 #[(.string x23)] H5 pStr fun(x24:ByteArray) H25=>
    newB H25 (.cells #[(.string x24)] tq9) fun b26 H27=>
    callW PP fq40 #[(.pointer (some ⟨w,0,none⟩)),(.slice (some ⟨b26,0,none⟩) 1 1)] H27 ⟨Unit,fun _=>(.tuple #[])⟩ fun(_:Unit) H29=>
    retK (some []) H29 fun v H'=>v= .tuple #[]∧TS t H0 H w m b o nn ds ss H' [])
  (loadW H5 false 1 ⟨bk,3,none⟩ pStr fun(x30:ByteArray)=>
    callW PP fq76 #[(.string x30)] H5 pStr fun(x31:ByteArray) H32=>
    newB H32 (.cells #[(.string x31)] tq9) fun b33 H34=>
    callW PP fq40 #[(.pointer (some ⟨w,0,none⟩)),(.slice (some ⟨b33,0,none⟩) 1 1)] H34 ⟨Unit,fun _=>(.tuple #[])⟩ fun(_:Unit) H36=>
    retK (some []) H36 fun v H'=>v= .tuple #[]∧TS t H0 H w m b o nn ds ss H' []):=by
  intro hk
  rw[if_pos hk] at h7
  refine⟨_,lcO hb5 rfl,fkI (fun hf=>?_) (fun hf=>?_)⟩
  ·rw[if_pos (eq_of_beq hf)] at h7
   refine⟨_,lcO hb5 rfl,?_⟩
   refine(Block_ok _ H5 hsz).mono ?_
   rintro _ _ ⟨rfl,rfl⟩
   refine⟨_,rfl,?_⟩
   refine put_ts c [blockTextM t.n.text] h7 rfl ?_
   intro _ g1
   exact rkI ⟨rfl,hback g1⟩
  ·rw[if_neg (by simpa using hf)] at h7
   refine⟨_,lcO hb5 rfl,?_⟩
   refine(Quote_ok _ H5 hsz).mono ?_
   rintro _ _ ⟨rfl,rfl⟩
   refine⟨_,rfl,?_⟩
   refine put_ts c [quoteM t.n.text] h7 rfl ?_
   intro _ g1
   exact rkI ⟨rfl,hback g1⟩
 refine fkI (fun hk=>str (.inl (eq_of_beq hk))) (fun hk14=>?_)
 refine fkI (fun hk=>str (.inr (eq_of_beq hk))) (fun hk23=>?_)
 rw[if_neg (by simp at hk14 hk23;omega)] at h7
 refine fkI (fun hk=>?_) (fun hk15=>?_)
 ·have hfl:=hflag (eq_of_beq hk)
  rw[if_pos (eq_of_beq hk)] at h7
  refine nbI fun H6 e6 hb6 ext6 hs6=>?_
  have g0:=h7.grow ext6
  have hb5':=ext6.get _ _ hb5 (by simp)
  refine⟨_,lcO hb5' rfl,?_⟩
  rcases hfl with hfl|hfl
  ·rw[hfl] at g0⊢
   refine⟨ix_some (by omega) (by omega),falseB,lcO hb6 rfl,?_⟩
   refine put_ts c [falseB] g0 rfl ?_
   intro _ g1
   exact rkI ⟨rfl,hback g1⟩
  ·rw[hfl] at g0⊢
   refine⟨ix_some (by omega) (by omega),trueB,lcO hb6 rfl,?_⟩
   refine put_ts c [trueB] g0 rfl ?_
   intro _ g1
   exact rkI ⟨rfl,hback g1⟩
 rw[if_neg (by simpa using hk15)] at h7
 refine fkI (fun hk=>?_) (fun hk17=>?_)
 ·have hk':t.n.kind=17:=eq_of_beq hk
  rw[if_pos hk'] at h7
  refine nbI fun H6 e6 hb6 ext6 hs6=>?_
  have g0:=h7.grow ext6
  have hb5':=ext6.get _ _ hb5 (by simp)
  refine⟨_,lcO hb5' rfl,fkI (fun hx=>?_) (fun _=>?_)⟩
  ·have:=eq_of_beq hx;rw[hk'] at this;cases this
  obtain⟨_,_,_,hw7⟩:=id h7
  have hne:=hw7.outRow_ne ext6
  refine⟨ix_some (by omega) (by omega),sSqL,lcO hb6 rfl,?_⟩
  have g0':=g0.rebase
  refine put_ts c [sSqL] g0' rfl ?_
  intro _ g1
  refine all_loop c g1 ?_
  intro H8 g2
  obtain⟨_,_,hK2,_⟩:=id g2
  have hb8:=hK2.strs _ _ _ hb6 hne
  refine⟨ix_some (by omega) (by omega),sSqR,lcO hb8 rfl,?_⟩
  refine put_ts c [sSqR] g2 rfl ?_
  intro _ g3
  exact rkI ⟨rfl,hback (g0.back g3)⟩
 rw[if_neg (by simpa using hk17)] at h7
 refine fkI (fun hk=>?_) (fun hk18=>?_)
 ·have hk':t.n.kind=18:=eq_of_beq hk
  rw[if_pos hk'] at h7
  refine nbI fun H6 e6 hb6 ext6 hs6=>?_
  have g0:=h7.grow ext6
  have hb5':=ext6.get _ _ hb5 (by simp)
  refine⟨_,lcO hb5' rfl,fkI (fun _=>?_) (fun hx=>?_)⟩
  rotate_left
  ·rw[hk'] at hx;cases hx
  refine nbI fun H7 e7 hb7 ext7 hs7=>?_
  obtain⟨_,_,_,hw7⟩:=id g0
  have hne:=hw7.outRow_ne ext7
  refine⟨ix_some (by omega) (by omega),sBraL,lcO hb7 rfl,?_⟩
  have g0':=(g0.grow ext7).rebase
  refine put_ts c [sBraL] g0' rfl ?_
  intro _ g1
  refine all_loop c g1 ?_
  intro H8 g2
  obtain⟨_,_,hK2,_⟩:=id g2
  have hb8:=hK2.strs _ _ _ hb7 hne
  refine⟨ix_some (by omega) (by omega),sBraR,lcO hb8 rfl,?_⟩
  refine put_ts c [sBraR] g2 rfl ?_
  intro _ g3
  exact rkI ⟨rfl,hback ((g0.grow ext7).back g3)⟩
 rw[if_neg (by simpa using hk18)] at h7
 refine fkI (fun hk=>?_) (fun hk21=>?_)
 ·obtain⟨k,hks⟩:=hone (.inl (eq_of_beq hk))
  rw[if_pos (eq_of_beq hk)] at h7
  refine put_ts c [sSqL] h7 rfl ?_
  intro _ g1
  refine node_ts c hks g1 ?_
  intro _ g2
  refine put_ts c [sSqR] g2 rfl ?_
  intro _ g3
  exact rkI ⟨rfl,hback g3⟩
 rw[if_neg (by simpa using hk21)] at h7
 refine fkI (fun hk=>?_) (fun hk22=>?_)
 ·obtain⟨k,hks⟩:=hone (.inr (.inl (eq_of_beq hk)))
  rw[if_pos (eq_of_beq hk)] at h7
  refine node_ts c hks h7 ?_
  intro _ g2
  refine put_ts c [sBang] g2 rfl ?_
  intro _ g3
  exact rkI ⟨rfl,hback g3⟩
 rw[if_neg (by simpa using hk22)] at h7
 have nam:(t.n.kind=16∨t.n.kind=20∨t.n.kind=28∨t.n.kind=33∨t.n.kind=38)→loadW H5 false 1 ⟨bk,1,none⟩ pStr fun(x12:ByteArray)=>newB H5 (.cells #[(.string x12)] tq9) fun b13 H14=>
  callW PP fq40 #[(.pointer (some ⟨w,0,none⟩)),(.slice (some ⟨b13,0,none⟩) 1 1)] H14 ⟨Unit,fun _=>(.tuple #[])⟩ fun(_:Unit) H16=>
  retK (some []) H16 fun v H'=>v= .tuple #[]∧TS t H0 H w m b o nn ds ss H' []:=by
  intro hk
  rw[if_pos hk] at h7
  refine⟨_,lcO hb5 rfl,?_⟩
  refine put_ts c [t.n.name] h7 rfl ?_
  intro _ g1
  exact rkI ⟨rfl,hback g1⟩
 refine fkI (fun hk=>nam (.inl (eq_of_beq hk))) (fun hk16=>?_)
 refine fkI (fun hk=>nam (.inr (.inl (eq_of_beq hk)))) (fun hk20=>?_)
 refine fkI (fun hk=>nam (.inr (.inr (.inl (eq_of_beq hk))))) (fun hk28=>?_)
 refine fkI (fun hk=>nam (.inr (.inr (.inr (.inl (eq_of_beq hk)))))) (fun hk33=>?_)
 refine fkI (fun hk=>nam (.inr (.inr (.inr (.inr (eq_of_beq hk)))))) (fun hk38=>?_)
 rw[if_neg (by simp at hk16 hk20 hk28 hk33 hk38;omega)] at h7
 refine(wDefinition_ok c h7 (fun hk=>hone (.inr (.inr hk)))).mono ?_
 rintro _ H8 ⟨rfl,h8⟩
 exact⟨(),rfl,rkI ⟨rfl,hback h8⟩⟩
theorem wNodeEnd_ok {H0 H:Heap} {w m b o nn:Nat} {ds:List Nd} {ss:List ByteArray} (h:WAt H0 H w m b o nn ds ss) {b1 b3 b7:Nat} {v7:Int} {i:Nat} {e1 e3 e7:TypeId} {f1 f3 f7:Nat×Nat}
 (hb1:H[b1]?=some (.cells #[.pointer (some ⟨w,0,none⟩)] e1 f1)) (hb3:H[b3]?=some (.cells #[.int .i64 (i:Int)] e3 f3)) (hb7:H[b7]?=some (.cells #[.int .i64 v7] e7 f7)):
 FnC PP fq39 #[.pointer (some ⟨b7,0,none⟩),.pointer (some ⟨b1,0,none⟩),.pointer (some ⟨b3,0,none⟩)] H fun _ H'=>KeepT w H H'∧WAt H0 H' w m b o nn ds ss:=by
 refine wNodeEnd.enterC b7 b1 b3 H _ ?_
 unfold wNodeEnd.W
 obtain⟨a,n,c,cc,hw,ho,hr⟩:=h.st
 obtain⟨es,clock,hm,hk⟩:=h.mp
 refine⟨w,lcO hb1 rfl,m,lcO hw rfl,_,lcO hb3 rfl,_,lcO hb7 rfl,w,lcO hb1 rfl,(a,n,c),lcO hw rfl,rfl,es,clock,hm,hk,?_⟩
 intro es' clock' hk'
 refine rkI ?_
 have ext:Ext [m] H (H.setIfInBounds m (.map es' clock')):=Ext.set (by simp) _
 have hget: ∀(k:Nat) (cs:Array Value) (e:TypeId) (fr:Nat×Nat),H[k]?=some (Obj.cells cs e fr)→(H.setIfInBounds m (.map es' clock'))[k]?=some (Obj.cells cs e fr):=by
  intro k cs e fr hk2
  refine ext.get _ _ hk2 ?_
  simp only[List.mem_singleton]
  rintro rfl
  rw[hm] at hk2;cases hk2
 have hw':=hget _ _ _ _ hw
 refine⟨⟨ext.size,fun k cs e fr hk2 _ _=>hget k cs e fr hk2,fun k cs fr hk2 _=>hget k cs _ fr hk2,fun r hr2=> .inl ?_⟩,?_⟩
 ·unfold outRow at hr2⊢
  rw[hw'] at hr2;rw[hw];exact hr2
 ·refine⟨Ext.newer h.ext ext h.mnew,?_,h.old,h.wnew,h.mnew,⟨a,n,c,cc,hw',?_,hr⟩,⟨es',clock',get_setIf _ _ _ _ hm,hk'⟩⟩
  ·refine h.doc.ext ext ?_
   have:=h.old;have:=h.mnew
   simp;omega
  ·refine ho.ext ext fun r hr2 hmem=>?_
   obtain⟨cur,_,hg,_⟩:=ho.row hr2
   simp at hmem;subst hmem
   rw[hm] at hg;cases hg
theorem wNode_ok (t:Tr) (hkids: ∀k∈t.ks,NodeOk bodyM k) (hone:(t.n.kind=21∨t.n.kind=22∨t.n.kind=39)→ ∃k,t.ks=[k]) (hflag:t.n.kind=15→t.n.flag=0∨t.n.flag=1) (hsz:t.n.text.size<4294967200):
 NodeOk bodyM t:=by
 intro H0 H w m b o nn ds ss i hw hat hws hfew
 have c:NCtx t H0 w m b o nn ds ss i:=⟨hkids,hat,hws,hfew⟩
 refine wNode.enter w i H _ ?_
 unfold wNode.W
 have hle:=hat.le' (flat_ne _)
 have h1:=hw.doc.len
 have h2:=hw.doc.lt
 have hpos:=flat_pos t
 refine nbI fun H2 e2 hb1 ext2 hs2=>?_
 refine nbI fun H4 e4 hb3 ext4 hs4=>?_
 have hw4:=(hw.grow ext2).grow ext4
 obtain⟨a,n,cp,cc,hwc,ho,hr⟩:=hw4.st
 have hb1:=ext4.get _ _ hb1 (by simp)
 refine⟨w,lcO hb1 rfl,(a,n,cp),lcO hwc rfl,?_⟩
 refine nbI fun H8 e8 hb7 ext8 hs8=>?_
 refine swI hb7 (by simp) rfl rfl fun H9 e9 hb7 ext9 hs9=>?_
 have hE9:Ext [] H4 H9:=Ext.newer ext8 ext9 (Nat.le_refl _)
 have hb1:=hE9.get _ _ hb1 (by simp)
 have hb3:=hE9.get _ _ hb3 (by simp)
 have hw9:=hw4.grow hE9
 have hwc9:=hE9.get _ _ hwc (by simp)
 have hnode:=hw9.doc.nodes.all hat.root
 refine⟨w,lcO hb1 rfl,(some ⟨b,o,none⟩,nn,cc),lcO hwc9 rfl,_,lcO hb3 rfl,ix_some (by omega) (by dsimp only;omega),(t.n.kind,t.n.name,t.n.alias,t.n.text,t.n.flag,t.n.size),hnode,?_⟩
 refine nbI fun H15 e15 hb14 ext15 hs15=>?_
 have hb1:=ext15.get _ _ hb1 (by simp)
 have hb3:=ext15.get _ _ hb3 (by simp)
 have hb7:=ext15.get _ _ hb7 (by simp)
 have hwc15:=ext15.get _ _ hwc9 (by simp)
 refine⟨loadC_ext ext15 hnode (by simp),lcO hb3 rfl,lcO hwc15 rfl,lcO hb1 rfl,?_⟩
 refine swI hb14 (by simp) rfl rfl fun H16 e16 hb14 ext16 hs16=>?_
 have hE16:Ext [] H9 H16:=Ext.newer ext15 ext16 (Nat.le_refl _)
 have l9: ∀ {k:Nat} {ob:Obj},H15[k]?=some ob→k<H9.size→H16[k]?=some ob:=fun h hl=>ext16.get _ _ h (by simp;omega)
 have z4:H4.size=H.size+2:=by omega
 have z9:H9.size=H.size+3:=by omega
 have hb1:H16[H.size]?=some (.cells #[.pointer (some ⟨w,0,none⟩)] tq46 (0,0)):=l9 hb1 (by omega)
 have hb3:H16[H2.size]?=some (.cells #[.int .i64 (i:Int)] tq3 (0,0)):=l9 hb3 (by omega)
 have hb7:H16[H4.size]?=some (.cells #[.int .i64 ((n:Nat):Int)] tq3 (0,0)):=l9 hb7 (by omega)
 have hb14:H16[H9.size]?=some (.cells #[.int .i64 t.n.kind,.string t.n.name,.string t.n.alias,.string t.n.text,.int .i64 t.n.flag,.int .i64 t.n.size] tq41 (0,0)):=hb14
 have hw16:=hw9.grow hE16
 have hEE:Ext [] H H16:=((ext2.trans ext4).trans hE9).trans hE16
 have hwlt:=hw.lt
 clear e2 e4 e8 e9 e15 e16 ext2 ext4 ext8 ext9 ext15 ext16 hE9 hE16 hwc hwc9 hwc15 ho hr hw4 hw9 hnode l9 hs2 hs4 hs8 hs9 hs15 hs16
 generalize H9.size=b14 at hb14⊢
 generalize H4.size=b7 at hb7 z4⊢
 generalize H2.size=b3 at hb3⊢
 generalize hbe:H.size=b1 at hb1 z4 z9⊢
 have h16:TS t H0 H16 w m b o nn ds ss H16 (bodyM t.n (ktOf t)):=TS.start hw16 (toks_eq t)
 have l1: ∀ {H':Heap} {rest:List ByteArray},TS t H0 H16 w m b o nn ds ss H' rest→H'[b1]?=some (.cells #[.pointer (some ⟨w,0,none⟩)] tq46 (0,0)):=fun h=>h.get hb1 (by decide) (by decide)
 have l3: ∀ {H':Heap} {rest:List ByteArray},TS t H0 H16 w m b o nn ds ss H' rest→H'[b3]?=some (.cells #[.int .i64 (i:Int)] tq3 (0,0)):=fun h=>h.get hb3 (by decide) (by decide)
 have l14: ∀ {H':Heap} {rest:List ByteArray},TS t H0 H16 w m b o nn ds ss H' rest→H'[b14]?=some (.cells #[.int .i64 t.n.kind,.string t.n.name,.string t.n.alias,.string t.n.text,.int .i64 t.n.flag,.int .i64 t.n.size] tq41 (0,0)):=
  fun h=>h.get hb14 (by decide) (by decide)
 unfold bodyM at h16
 refine⟨_,lcO hb14 rfl,?_⟩
 refine⟨fun _ H'=>TS t H0 H16 w m b o nn ds ss H' [],?_,?_⟩
 rotate_left
 ·rintro _ H20 h20
  obtain⟨hK20,hw20⟩:=h20.fin
  refine(wNodeEnd_ok hw20 (l1 h20) (l3 h20) (h20.get hb7 (by decide) (by decide))).mono ?_
  rintro _ H21 ⟨hK21,hw21⟩
  exact rkI ⟨rfl,((hEE.keepT (hbe▸hwlt)).trans hK20).trans hK21,hw21⟩
 -- documents
 refine fkI (fun hk=>?_) (fun hk=>?_)
 ·rw[if_pos (eq_of_beq hk)] at h16
  obtain⟨cc2,hd2⟩:=hw16.d
  refine⟨w,lcO hb1 rfl,(some ⟨b,o,none⟩,nn,cc2),hd2,_,lcO hb3 rfl,?_⟩
  refine(Kids_ok b o nn cc2 ds H16 hw16.doc i t hat hws).mono ?_
  rintro _ H2' ⟨a1,m1,k1,ps,rfl,hF,hp⟩
  refine⟨(a1,m1,k1),rfl,?_⟩
  have hm1:=(SlcAt.of_own hF.own).1
  simp only[intL,List.length_map] at hm1
  have hlen:=hp.length
  have hkl:=kids_len t
  have g2:=h16.grow hF.ext
  refine⟨fun z H'=>KeepT w H2' H'∧ ∃j:Nat,z.1=j∧j≤m1∧TS t H0 H16 w m b o nn ds ss H' (allM ((ktOf t).drop j)++[]),fun z _=>m1 -z.1.toNat,⟨KeepT.refl _ _,0,rfl,Nat.zero_le _,g2⟩,?_⟩
  rintro⟨_,_⟩ H3 ⟨hK3,j,hj,hjm,h3⟩
  dsimp only at hj⊢
  subst hj
  refine fkI (fun hlt=>?_) (fun hge=>?_)
  ·have hj':j<t.ks.length:=by simp at hlt;omega
   obtain⟨p,hpj,hatj,hwj⟩:=hp.get j hj'
   have hL:=(hK3.ints hF).load (i:=j) (v:= .int .i64 (p:Int)) (by simp[intL,hpj])
   rw[allM_drop t j hj',List.append_assoc] at h3
   have hl1:=l1 h3
   obtain⟨acc3,hs3,hKs,hw3⟩:=h3
   refine⟨w,lcO hl1 rfl,hL.1,_,hL.2,?_⟩
   refine node_step (c.kids _ (List.getElem_mem hj')) hw3 hatj hwj (TS.few c hs3) ?_
   intro H4 hK4 hw4
   rw[wrap1 (by omega)]
   exact⟨⟨hK3.trans hK4,j+1,rfl,by omega,TS.done hs3 hKs hK4 hw4⟩,by omega⟩
  ·have hj':j=t.ks.length:=by simp at hge;omega
   have hnil:(ktOf t).drop j=[]:=List.drop_eq_nil_of_le (by rw[show ktOf t=t.ks.map fun t=>(t.n,toks t) from toksKT_map bodyM t.ks,List.length_map];omega)
   rw[hnil] at h3
   exact h3
 rw[if_neg (by simpa using hk)] at h16
 -- operations
 refine⟨fun _ H'=>TS t H0 H16 w m b o nn ds ss H' [],?_,fun _ _ h=>h⟩
 refine fkI (fun hk=>?_) (fun hk=>?_)
 ·rw[if_pos (eq_of_beq hk)] at h16
  refine⟨_,lcO hb14 rfl,?_⟩
  refine⟨fun _ H'=>TS t H0 H16 w m b o nn ds ss H' (kidsM sParL sParR eB [4] (ktOf t)++(dirsM (ktOf t)++(selsM (ktOf t)++[]))),?_,?_⟩
  ·refine fkI (fun hf=>?_) (fun hf=>?_)
   ·rw[if_pos (eq_of_beq hf),List.append_assoc] at h16
    refine⟨w,lcO hb1 rfl,_,lcO hb14 rfl,?_⟩
    refine put_ts c [t.n.text] h16 rfl ?_
    intro _ g1
    refine⟨_,lcO (l14 g1) rfl,?_⟩
    refine⟨fun _ H'=>TS t H0 H16 w m b o nn ds ss H' (kidsM sParL sParR eB [4] (ktOf t)++(dirsM (ktOf t)++(selsM (ktOf t)++[]))),?_,fun _ _ h=>h⟩
    refine fkI (fun hn=>?_) (fun hn=>?_)
    ·have hne:t.n.name≠eB:=by simpa [bytes_beq] using hn
     have ho:optB t.n.name=[t.n.name]:=by unfold optB;rw[if_neg hne]
     rw[ho] at g1
     refine⟨w,lcO (l1 g1) rfl,_,lcO (l14 g1) rfl,?_⟩
     refine put_ts c [t.n.name] g1 rfl ?_
     intro _ g2
     exact g2
    ·have hne:t.n.name=eB:=by simpa [bytes_beq] using hn
     have ho:optB t.n.name=[]:=by unfold optB;rw[if_pos hne]
     rw[ho] at g1
     exact g1
   ·rw[if_neg (by simpa using hf)] at h16
    exact h16
  ·rintro _ H3 g1
   refine⟨w,lcO (l1 g1) rfl,_,lcO (l3 g1) rfl,?_⟩
   refine kids_ts c sParL sParR eB [4] (by decide) g1 rfl (by decide) ?_
   intro _ g2
   refine⟨w,lcO (l1 g2) rfl,_,lcO (l3 g2) rfl,?_⟩
   refine dirs_ts c g2 ?_
   intro _ g3
   refine⟨w,lcO (l1 g3) rfl,_,lcO (l3 g3) rfl,?_⟩
   refine kids_ts c eB eB eB [5] (by decide) g3 rfl (by decide) ?_
   intro _ g4
   exact g4
 rw[if_neg (by simpa using hk)] at h16
 -- fragments
 refine⟨fun _ H'=>TS t H0 H16 w m b o nn ds ss H' [],?_,fun _ _ h=>h⟩
 refine fkI (fun hk=>?_) (fun hk=>?_)
 ·rw[if_pos (eq_of_beq hk)] at h16
  refine⟨w,lcO hb1 rfl,_,lcO hb14 rfl,_,lcO hb14 rfl,?_⟩
  refine put_ts c [wFragment,t.n.name,onB,t.n.text] h16 rfl ?_
  intro _ g2
  refine⟨w,lcO (l1 g2) rfl,_,lcO (l3 g2) rfl,?_⟩
  refine dirs_ts c g2 ?_
  intro _ g3
  refine⟨w,lcO (l1 g3) rfl,_,lcO (l3 g3) rfl,?_⟩
  refine kids_ts c eB eB eB [5] (by decide) g3 rfl (by decide) ?_
  intro _ g4
  exact g4
 rw[if_neg (by simpa using hk)] at h16
 -- variables
 refine⟨fun _ H'=>TS t H0 H16 w m b o nn ds ss H' [],?_,fun _ _ h=>h⟩
 refine fkI (fun hk=>?_) (fun hk=>?_)
 ·rw[if_pos (eq_of_beq hk)] at h16
  refine⟨w,lcO hb1 rfl,_,lcO hb14 rfl,?_⟩
  refine put_ts c [sDol,t.n.name,sCol] h16 rfl ?_
  intro _ g2
  refine⟨w,lcO (l1 g2) rfl,_,lcO (l3 g2) rfl,?_⟩
  refine firstType_ts c eB g2 ?_
  intro _ g3
  refine⟨w,lcO (l1 g3) rfl,_,lcO (l3 g3) rfl,?_⟩
  refine firstValue_ts c sEq g3 ?_
  intro _ g4
  exact g4
 rw[if_neg (by simpa using hk)] at h16
 -- selections
 refine⟨fun _ H'=>TS t H0 H16 w m b o nn ds ss H' [],?_,fun _ _ h=>h⟩
 refine fkI (fun hk=>?_) (fun hk=>?_)
 ·rw[if_pos (eq_of_beq hk)] at h16
  refine⟨w,lcO hb1 rfl,_,lcO hb3 rfl,?_⟩
  refine kids_ts c sBraL sBraR eB [6,7,8] (by decide) h16 rfl (by decide) ?_
  intro _ g4
  exact g4
 rw[if_neg (by simpa using hk)] at h16
 -- fields
 refine⟨fun _ H'=>TS t H0 H16 w m b o nn ds ss H' [],?_,fun _ _ h=>h⟩
 refine fkI (fun hk=>?_) (fun hk=>?_)
 ·rw[if_pos (eq_of_beq hk)] at h16
  refine⟨_,lcO hb14 rfl,?_⟩
  refine⟨fun _ H'=>TS t H0 H16 w m b o nn ds ss H' ([t.n.name]++(kidsM sParL sParR eB [9] (ktOf t)++(dirsM (ktOf t)++(selsM (ktOf t)++[])))),?_,?_⟩
  ·refine fkI (fun hn=>?_) (fun hn=>?_)
   ·have hne:t.n.alias≠eB:=by simpa [bytes_beq] using hn
    rw[if_neg hne] at h16
    refine⟨w,lcO hb1 rfl,_,lcO hb14 rfl,?_⟩
    refine put_ts c [t.n.alias,sCol] h16 rfl ?_
    intro _ g1
    exact g1
   ·have hne:t.n.alias=eB:=by simpa [bytes_beq] using hn
    rw[if_pos hne] at h16
    exact h16
  ·rintro _ H3 g0
   refine⟨w,lcO (l1 g0) rfl,_,lcO (l14 g0) rfl,?_⟩
   refine put_ts c [t.n.name] g0 rfl ?_
   intro _ g1
   refine⟨w,lcO (l1 g1) rfl,_,lcO (l3 g1) rfl,?_⟩
   refine kids_ts c sParL sParR eB [9] (by decide) g1 rfl (by decide) ?_
   intro _ g2
   refine⟨w,lcO (l1 g2) rfl,_,lcO (l3 g2) rfl,?_⟩
   refine dirs_ts c g2 ?_
   intro _ g3
   refine⟨w,lcO (l1 g3) rfl,_,lcO (l3 g3) rfl,?_⟩
   refine kids_ts c eB eB eB [5] (by decide) g3 rfl (by decide) ?_
   intro _ g4
   exact g4
 rw[if_neg (by simpa using hk)] at h16
 -- spreads
 refine⟨fun _ H'=>TS t H0 H16 w m b o nn ds ss H' [],?_,fun _ _ h=>h⟩
 refine fkI (fun hk=>?_) (fun hk=>?_)
 ·rw[if_pos (eq_of_beq hk)] at h16
  refine⟨w,lcO hb1 rfl,_,lcO hb14 rfl,?_⟩
  refine put_ts c [sDots,t.n.name] h16 rfl ?_
  intro _ g2
  refine⟨w,lcO (l1 g2) rfl,_,lcO (l3 g2) rfl,?_⟩
  refine dirs_ts c g2 ?_
  intro _ g3
  exact g3
 rw[if_neg (by simpa using hk)] at h16
 -- inline fragments
 refine⟨fun _ H'=>TS t H0 H16 w m b o nn ds ss H' [],?_,fun _ _ h=>h⟩
 refine fkI (fun hk=>?_) (fun hk=>?_)
 ·rw[if_pos (eq_of_beq hk)] at h16
  refine⟨w,lcO hb1 rfl,?_⟩
  refine put_ts c [sDots] h16 rfl ?_
  intro _ g0
  refine⟨_,lcO (l14 g0) rfl,?_⟩
  refine⟨fun _ H'=>TS t H0 H16 w m b o nn ds ss H' (dirsM (ktOf t)++(selsM (ktOf t)++[])),?_,?_⟩
  ·refine fkI (fun hn=>?_) (fun hn=>?_)
   ·have hne:t.n.text≠eB:=by simpa [bytes_beq] using hn
    rw[if_neg hne] at g0
    refine⟨w,lcO (l1 g0) rfl,_,lcO (l14 g0) rfl,?_⟩
    refine put_ts c [onB,t.n.text] g0 rfl ?_
    intro _ g1
    exact g1
   ·have hne:t.n.text=eB:=by simpa [bytes_beq] using hn
    rw[if_pos hne] at g0
    exact g0
  ·rintro _ H3 g2
   refine⟨w,lcO (l1 g2) rfl,_,lcO (l3 g2) rfl,?_⟩
   refine dirs_ts c g2 ?_
   intro _ g3
   refine⟨w,lcO (l1 g3) rfl,_,lcO (l3 g3) rfl,?_⟩
   refine kids_ts c eB eB eB [5] (by decide) g3 rfl (by decide) ?_
   intro _ g4
   exact g4
 rw[if_neg (by simpa using hk)] at h16
 -- arguments and fields of objects
 refine⟨fun y H'=>H16=H'∧(y.1=true↔(t.n.kind=9∨t.n.kind=19)),?_,?_⟩
 ·refine fkI (fun hk=>⟨rfl,by simp[eq_of_beq hk]⟩) (fun hk=>⟨rfl,?_⟩)
  have:t.n.kind≠9:=by simpa using hk
  simp[this]
 rintro⟨y,_⟩ _ ⟨rfl,hy⟩
 refine⟨fun _ H'=>TS t H0 H16 w m b o nn ds ss H' [],?_,fun _ _ h=>h⟩
 refine fkI (fun hk=>?_) (fun hk=>?_)
 ·rw[if_pos (hy.1 hk)] at h16
  refine⟨w,lcO hb1 rfl,_,lcO hb14 rfl,?_⟩
  refine put_ts c [t.n.name,sCol] h16 rfl ?_
  intro _ g2
  refine⟨w,lcO (l1 g2) rfl,_,lcO (l3 g2) rfl,?_⟩
  refine firstValue_ts c eB g2 ?_
  intro _ g3
  exact g3
 rw[if_neg (fun hh=>by rw[hy.2 hh] at hk;cases hk)] at h16
 -- directives
 refine⟨fun _ H'=>TS t H0 H16 w m b o nn ds ss H' [],?_,fun _ _ h=>h⟩
 refine fkI (fun hk=>?_) (fun hk=>?_)
 ·rw[if_pos (eq_of_beq hk)] at h16
  refine⟨w,lcO hb1 rfl,_,lcO hb14 rfl,?_⟩
  refine put_ts c [sAt,t.n.name] h16 rfl ?_
  intro _ g2
  refine⟨w,lcO (l1 g2) rfl,_,lcO (l3 g2) rfl,?_⟩
  refine kids_ts c sParL sParR eB [9] (by decide) g2 rfl (by decide) ?_
  intro _ g3
  exact g3
 rw[if_neg (by simpa using hk)] at h16
 refine⟨w,lcO hb1 rfl,_,lcO hb3 rfl,?_⟩
 refine(wRest_ok c h16 hone hflag hsz).mono ?_
 rintro _ H8 ⟨rfl,h8⟩
 exact⟨(),rfl,h8⟩
theorem shaped_one {t:Tr} (h:ShapedP t) (hk:t.n.kind=21∨t.n.kind=22∨t.n.kind=39): ∃k,t.ks=[k]:=by
 cases h with
 |tlist ty _ h _=>exact⟨ty,h⟩
 |tnon ty _ h _=>exact⟨ty,h⟩
 |extend ob _ h _ _=>exact⟨ob,h⟩
 |_=>exfalso;omega
theorem formed_flag {n:Nd} (h:FormedP n) (hk:n.kind=15):n.flag=0∨n.flag=1:=by
 cases h.2 with
 |boolean _ _ _ h=>exact h
 |_=>exfalso;omega
theorem sumBytes_mem {l:List Nd} {n:Nd} (h:n∈l):ndBytes n≤sumBytes l:=by
 induction l with
 |nil=>cases h
 |cons a r ih=>
  simp only[sumBytes]
  rcases List.mem_cons.1 h with rfl|h
  ·omega
  ·have:=ih h;omega
theorem Good.kid {t k:Tr} (h:Good t) (hk:k∈t.ks):Good k:=fun u hu=>h u (preT_kid hk u hu)
theorem node_all (t:Tr) (hg:Good t) (hs: ∀u∈preT t,u.n.text.size<4294967200):NodeOk bodyM t:=
 wNode_ok t (fun k hk=>node_all k (hg.kid hk) fun u hu=>hs u (preT_kid hk u hu)) (shaped_one (hg t (preT_self t)).2) (formed_flag (hg t (preT_self t)).1) (hs t (preT_self t))
 termination_by SizeOf.sizeOf t
 decreasing_by
 cases t with|node n ks=>
 have:=List.sizeOf_lt_of_mem hk
 simp only[Tr.ks] at this
 simp;omega
theorem DocP.small {ds:List Nd} {t:Tr} (h:DocP ds t): ∀u∈preT t,ndBytes u.n≤4000:=by
 intro u hu
 have hm:u.n∈ds:=by rw[h.flat,flat_pre];exact List.mem_map_of_mem hu
 exact Nat.le_trans (sumBytes_mem hm) h.bytes
theorem TokenTexts_ok (b o n c:Nat) (ds:List Nd) (H:Heap) (h:Doc H b o n ds) (i:Nat) (t:Tr) (ht:At ds i (flat t)) (hw:Ws t) (hn:NodeOk bodyM t) (hl:(toks t).length≤1000000):
 Fn PP fq21 #[.slice (some ⟨b,o,none⟩) n c,.int .i64 i] H fun v H'=> ∃a m k,v= .slice a m k∧Ext [] H H'∧OwnS H' tq9 1 a m k ((toks t).map .string):=by
 refine TokenTexts.enter b o n c i H _ ?_
 unfold TokenTexts.W
 refine nbI fun H2 e2 hb2 ext2 hs2=>?_
 refine nbI fun H4 e4 hb4 ext4 hs4=>?_
 have hW:WAt H H4 H2.size H.size b o n ds []:=
  ⟨ext2.trans ext4,h.ext (ext2.trans ext4) (by simp),h.below,ext2.size,Nat.le_refl _,⟨none,0,0,c,hb4,OwnS.nil _ _ _,(fun r hr=>by cases hr)⟩,⟨#[],0,ext4.get _ _ hb2 (by simp),(fun x hx=>by simp at hx)⟩⟩
 refine(hn H H4 H2.size H.size b o n ds [] i hW ht hw (by simpa using hl)).mono ?_
 rintro _ H6 ⟨rfl,hK,hW6⟩
 obtain⟨a,m,k,cc,hwc,ho,hr⟩:=hW6.st
 exact⟨(),rfl,(a,m,k),lcO hwc rfl,rkI ⟨a,m,k,rfl,hW6.ext,ho⟩⟩
def clingM (s:ByteArray):Bool:=isBeginM (bt s 0)||(isDigitM (bt s 0)||(bt s 0==45||bt s 0==46))
theorem clinging_ok (s:ByteArray) (H:Heap) (hs:0<s.size):Fn PP fq32 #[.string s] H fun v H'=>v= .bool (clingM s)∧H=H':=by
 refine clinging.enter s H _ ?_
 unfold clinging.W
 refine⟨⟨by omega,by omega⟩,(isBegin_ok _ _).mono ?_⟩
 rintro _ _ ⟨rfl,rfl⟩
 refine⟨_,rfl,fkI (fun h1=>rkI ⟨by simp only[retV,clingM,h1,Bool.true_or],rfl⟩) (fun h1=>?_)⟩
 refine⟨⟨by omega,by omega⟩,(isDigit_ok _ _).mono ?_⟩
 rintro _ _ ⟨rfl,rfl⟩
 refine⟨_,rfl,fkI (fun h2=>rkI ⟨by simp only[retV,clingM,h1,h2,Bool.false_or,Bool.true_or],rfl⟩) (fun h2=>?_)⟩
 refine⟨⟨by omega,by omega⟩,fkI (fun h3=>rkI ⟨by simp only[retV,clingM,h1,h2,h3,Bool.false_or,Bool.true_or],rfl⟩) (fun h3=>?_)⟩
 exact⟨⟨by omega,by omega⟩,rkI ⟨by simp only[retV,clingM,h1,h2,h3,Bool.false_or],rfl⟩⟩
def gapL:List ByteArray:=[bs [],bs [32],bs [10],bs [44],bs [32,44,32],bs [9],bs [13,10],bs [13],bs [35,32,97,10],bs [35,13],bs [44,44,10,32,32]]
def GapOk (prev:Option ByteArray) (l gap:ByteArray):Prop:=
 gap∈gapL∧(gap=eB→ ∀p,prev=some p→ ¬(clingM p=true∧clingM l=true)∧ ¬(bt p 0=34∧bt l 0=34))
inductive Spaced:Option ByteArray→List ByteArray→ByteArray→Prop
 |nil (p:Option ByteArray):Spaced p [] (bs [])
 |cons (p:Option ByteArray) (l gap rest:ByteArray) (r:List ByteArray):GapOk p l gap→Spaced (some l) r rest→Spaced p (l::r) (gap++(l++rest))
theorem append_nilB (a:ByteArray):a++bs []=a:=by
 apply ByteArray.ext
 rw[ByteArray.data_append]
 simp[bs]
theorem nil_appendB (a:ByteArray):bs []++a=a:=by
 apply ByteArray.ext
 rw[ByteArray.data_append]
 simp[bs]
def lastOr (p:Option ByteArray):List ByteArray→Option ByteArray
 |[]=>p
 |l::r=>lastOr (some l) r
theorem Spaced.snoc {p:Option ByteArray} {l:List ByteArray} {t x gap:ByteArray} (h:Spaced p l t) (hg:GapOk (lastOr p l) x gap):Spaced p (l++[x]) (t++(gap++x)):=by
 induction h with
 |nil p=>
  have:=Spaced.cons p x gap (bs []) [] hg (.nil _)
  rw[append_nilB] at this
  rw[nil_appendB];exact this
 |cons p l g rest r hg' _ ih=>
  have:=Spaced.cons p l g _ _ hg' (ih hg)
  rw[List.cons_append]
  rw[ByteArray.append_assoc,ByteArray.append_assoc]
  exact this
theorem lastOr_take (p:Option ByteArray): ∀(l:List ByteArray) (k:Nat) (x:ByteArray),l[k]?=some x→lastOr p (l.take (k+1))=some x
 |[],k,x,h=>by simp at h
 |a::r,0,x,h=>by simp at h;subst h;simp[lastOr]
 |a::r,k+1,x,h=>by
  simp at h
  simp only[List.take_succ_cons,lastOr]
  exact lastOr_take (some a) r k x h
theorem Gaps_ok (lb ln lc:Nat) (byA:Option Addr) (byN byC:Nat) (ss:List ByteArray) (ys:List Int) (H:Heap) (hl:StrsAt H (some ⟨lb,0,none⟩) ln ss) (hy:SlcAt H byA byN (ys.map (.int .u8 ·))) (hyr: ∀y∈ys,0≤y∧y≤255)
 (hss: ∀s∈ss,0<s.size∧s.size≤1000000) (hln:ln≤1000000):
 Fn PP fq23 #[.slice (some ⟨lb,0,none⟩) ln lc,.slice byA byN byC] H fun v H'=> ∃text,v= .string text∧Ext [] H H'∧Spaced none ss text∧text.size≤ss.length*1000010:=by
 refine Gaps.enter lb 0 ln lc byA byN byC H _ ?_
 unfold Gaps.W
 have hlen:=hl.1
 refine⟨fun z H'=>Ext [] H H'∧ ∃k:Nat,z.2.1=k∧k≤ln∧Spaced none (ss.take k) z.1∧z.1.size≤k*1000010,fun z _=>ln -z.2.1.toNat,⟨Ext.refl _ _,0,rfl,Nat.zero_le _,.nil _,(show(0:Nat)≤_ from Nat.zero_le _)⟩,?_⟩
 rintro⟨out,_,_⟩ H2 ⟨hE,k,hk,hkl,hsp,hsz⟩
 dsimp only at hk hsp hsz⊢
 subst hk
 have hl2:=hl.ext hE (by simp)
 have hy2:=hy.ext hE (by simp)
 refine fkI (fun hlt=>?_) (fun hge=>?_)
 ·have hk':k<ss.length:=by simp at hlt;omega
  have hi:ss[k]?=some ss[k]:=List.getElem?_eq_getElem hk'
  have hx:=hss _ (List.getElem_mem hk')
  have htk:ss.take (k+1)=ss.take k++[ss[k]]:=List.take_succ_eq_append_getElem hk'
  have hprev: ∀p,lastOr none (ss.take k)=some p→0<k∧ss[k -1]?=some p:=by
   intro p hp
   cases k with
   |zero=>simp[lastOr] at hp
   |succ k=>
    have h9:ss[k]?=some ss[k]:=List.getElem?_eq_getElem (by omega)
    rw[lastOr_take none ss k _ h9] at hp
    cases hp
    exact⟨by omega,by simp⟩
  generalize ss[k]=x at hi hx htk
  -- the gap that is asked for
  refine⟨fun y H'=>Ext [] H H'∧y.1∈gapL,?_,?_⟩
  ·refine fkI (fun hb=>?_) (fun _=>⟨hE,by simp[gapL]⟩)
   have hb':0<byN:=by simp at hb;omega
   refine nbI fun H8 e8 hb8 ext8 hs8=>?_
   have hy8:=hy2.ext ext8 (by simp)
   have hyl:=hy.1
   simp only[List.length_map] at hyl
   have ht:Int.tmod (k:Int) (byN:Int)=((k% byN:Nat):Int):=rfl
   rw[ht]
   have hm:k% byN<ys.length:=by rw[←hyl];exact Nat.mod_lt _ hb'
   have hym:ys[k% byN]?=some ys[k% byN]:=List.getElem?_eq_getElem hm
   have hyr':=hyr _ (List.getElem_mem hm)
   generalize ys[k% byN]=yv at hym hyr'
   have hL:=hy8.load (i:=k% byN) (v:= .int .u8 yv) (by simp[hym])
   have hw:IntKind.i64.wrap yv=yv:=i64w (by omega)
   refine⟨by omega,hL.1,yv,hL.2,by omega,?_⟩
   rw[hw]
   obtain⟨yn,rfl⟩: ∃yn:Nat,yv=yn:=⟨yv.toNat,by omega⟩
   have ht2:Int.tmod (yn:Int) 11=((yn% 11:Nat):Int):=rfl
   rw[ht2]
   have h11:yn% 11<11:=Nat.mod_lt _ (by omega)
   generalize yn% 11=q at h11
   have hload: ∀q:Nat,q<11→ ∃g,g∈gapL∧loadC H8 false 1 ⟨H2.size,0+(q:Int).toNat*1,none⟩=some (.string g):=by
    intro q hq
    refine⟨gapL[q]'(by simpa [gapL] using hq),List.getElem_mem _,?_⟩
    have eq:0+(q:Int).toNat*1=q:=by omega
    rw[eq]
    simp only[loadC,cellAt,hb8]
    have: ∀q:Fin 11,(#[Value.string (bs []),Value.string (bs [32]),Value.string (bs [10]),Value.string (bs [44]),Value.string (bs [32,44,32]),Value.string (bs [9]),Value.string (bs [13,10]),Value.string (bs [13]),Value.string (bs [35,32,97,10]),Value.string (bs [35,13]),Value.string (bs [44,44,10,32,32])]:Array Value)[q.val]?=some (.string (gapL[q.val]'(by simp[gapL]))):=by
     intro q
     match q with
     |⟨0,_⟩=>rfl
     |⟨1,_⟩=>rfl
     |⟨2,_⟩=>rfl
     |⟨3,_⟩=>rfl
     |⟨4,_⟩=>rfl
     |⟨5,_⟩=>rfl
     |⟨6,_⟩=>rfl
     |⟨7,_⟩=>rfl
     |⟨8,_⟩=>rfl
     |⟨9,_⟩=>rfl
     |⟨10,_⟩=>rfl
    exact this ⟨q,hq⟩
   obtain⟨g,hg,hgl⟩:=hload q h11
   exact⟨ix_some (by omega) (by omega),g,hgl,hE.trans ext8,hg⟩
  rintro⟨gap,_⟩ H6 ⟨hE6,hgap⟩
  dsimp only at hgap⊢
  have hl6:=hl.ext hE6 (by simp)
  have hcur:=hl6.load hi
  -- is nothing too little?
  refine⟨fun y H'=>H6=H'∧(y.1=false→gap=eB→ ∀p,lastOr none (ss.take k)=some p→ ¬(clingM p=true∧clingM x=true)∧ ¬(bt p 0=34∧bt x 0=34)),?_,?_⟩
  ·refine fkI (fun hg=>?_) (fun hg=>⟨rfl,fun _ he=>?_⟩)
   ·refine fkI (fun h0=>?_) (fun h0=>⟨rfl,fun _ _ p hp=>?_⟩)
    ·have h0':0<k:=by simp at h0;omega
     have hpk:k -1<ss.length:=by omega
     have hpi:ss[k -1]?=some ss[k -1]:=List.getElem?_eq_getElem hpk
     have hps:=hss _ (List.getElem_mem hpk)
     have huniq: ∀p,lastOr none (ss.take k)=some p→p=ss[k -1]:=fun p hp=>by
      have:=(hprev p hp).2;rw[hpi] at this;exact(Option.some.inj this).symm
     generalize ss[k -1]=q at hpi hps huniq
     have hw:IntKind.i64.wrap ((k:Int) -1)=((k -1:Nat):Int):=by rw[i64w (by omega)];omega
     rw[hw]
     have hpl:=hl6.load hpi
     have same: ∀(Q:ByteArray→Prop),Q q→ ∀p,lastOr none (ss.take k)=some p→Q p:=fun Q hq p hp=>by rw[huniq p hp];exact hq
     have quotes: ¬(clingM q=true∧clingM x=true)→(IxOk (some ⟨lb,0,none⟩) ((k -1:Nat):Int) ln)∧
      loadW H6 false 1 ⟨lb,(0+((k -1:Nat):Int).toNat*1),none⟩ pStr fun(x20:ByteArray)=>((0:Int)≤0∧0<((x20.size:Nat):Int))∧
      forkB ((bt x20 0)==34)
      ((IxOk (some ⟨lb,0,none⟩) (k:Int) ln)∧loadW H6 false 1 ⟨lb,(0+(k:Int).toNat*1),none⟩ pStr fun(x21:ByteArray)=>((0:Int)≤0∧0<((x21.size:Nat):Int))∧
        (H6=H6∧(((bt x21 0)==34)=false→gap=eB→ ∀p,lastOr none (ss.take k)=some p→ ¬(clingM p=true∧clingM x=true)∧ ¬(bt p 0=34∧bt x 0=34))))
      (H6=H6∧(false=false→gap=eB→ ∀p,lastOr none (ss.take k)=some p→ ¬(clingM p=true∧clingM x=true)∧ ¬(bt p 0=34∧bt x 0=34))):=by
      intro hcl
      refine⟨hpl.1,q,hpl.2,⟨by omega,by omega⟩,fkI (fun hq1=>?_) (fun hq1=>⟨rfl,fun _ _=>same _ ⟨hcl,?_⟩⟩)⟩
      ·refine⟨hcur.1,x,hcur.2,⟨by omega,by omega⟩,rfl,fun hx1 _=>same _ ⟨hcl,?_⟩⟩
       intro hh;rw[hh.2] at hx1;cases hx1
      ·intro hh;rw[hh.1] at hq1;cases hq1
     refine⟨hpl.1,q,hpl.2,(clinging_ok q H6 hps.1).mono ?_⟩
     rintro _ _ ⟨rfl,rfl⟩
     refine⟨_,rfl,fkI (fun hc1=>?_) (fun hc1=>quotes (fun hh=>by rw[hh.1] at hc1;cases hc1))⟩
     refine⟨hcur.1,x,hcur.2,(clinging_ok x H6 hx.1).mono ?_⟩
     rintro _ _ ⟨rfl,rfl⟩
     refine⟨_,rfl,fkI (fun hc2=>⟨rfl,by simp⟩) (fun hc2=>quotes (fun hh=>by rw[hh.2] at hc2;cases hc2))⟩
    ·have:=(hprev p hp).1
     simp at h0;omega
   ·exfalso
    have hne:gap≠eB:=by simpa [bytes_beq] using hg
    exact hne he
  rintro⟨y12,_⟩ _ ⟨rfl,hcl⟩
  dsimp only at hcl⊢
  -- the gap that is taken
  refine⟨fun y H'=>H6=H'∧GapOk (lastOr none (ss.take k)) x y.1∧y.1.size≤5,?_,?_⟩
  ·have hsz5: ∀g∈gapL,g.size≤5:=by
    intro g hg
    simp only[gapL,List.mem_cons,List.not_mem_nil,or_false] at hg
    rcases hg with rfl|rfl|rfl|rfl|rfl|rfl|rfl|rfl|rfl|rfl|rfl<;>decide
   have h32:(bs [32])≠eB:=by intro h;have:=congrArg ByteArray.size h;exact absurd this (by decide)
   refine fkI (fun _=>⟨rfl,⟨by simp[gapL],fun he=>absurd he h32⟩,by decide⟩) (fun hf=>⟨rfl,⟨hgap,hcl hf⟩,hsz5 _ hgap⟩)
  rintro⟨g2,_⟩ _ ⟨rfl,hg2,hg5⟩
  dsimp only at hg2 hg5⊢
  refine joinPK_or ?_
  have hk10:(k+1)*1000010=k*1000010+1000010:=by omega
  have hkb:k*1000010≤1000000*1000010:=Nat.mul_le_mul_right _ (by omega)
  have hnil:GapOk none x (bs []):=⟨by simp[gapL],fun _ p hp=>by cases hp⟩
  refine⟨fun y H'=>H6=H'∧ ∃g,y.1=out++g∧GapOk (lastOr none (ss.take k)) x g∧g.size≤5,?_,?_⟩
  ·refine fkI (fun _=>⟨by omega,rfl,g2,rfl,hg2,hg5⟩) (fun hf=>⟨rfl,bs [],(append_nilB out).symm,?_,by decide⟩)
   have h0:k=0:=by simp at hf;omega
   subst h0
   simpa [lastOr] using hnil
  ·rintro⟨y,_⟩ _ ⟨rfl,g,hyg,hgo,hgs⟩
   dsimp only at hyg⊢
   subst hyg
   have hsp2:=hsp.snoc hgo
   rw[wrap1 (by omega)]
   refine⟨hcur.1,x,hcur.2,?_,⟨hE6,k+1,rfl,by omega,?_,?_⟩,by omega⟩
   ·rw[ByteArray.size_append];omega
   ·rw[htk,ByteArray.append_assoc];exact hsp2
   ·rw[ByteArray.size_append,ByteArray.size_append,hk10];omega
 ·have hk':k=ss.length:=by simp at hge;omega
  rw[hk',List.take_length] at hsp
  exact rkI ⟨out,rfl,hE,hsp,by rw[←hk'];exact hsz⟩
end Go.Vx
