/- A part of the proof of what the last text of this claim says: SP26, SP27, SP28. Conditions: none. -/
import Derived.Test.YtpkfgijailfkjaaGreatDoorZBf
set_option maxRecDepth 10000
namespace Go.Vx
open Go Go.Proofs
section
variable {E:SEnv} {A C:Heap} {σ0:St} {g0:Gr} {d:Int} {g:Gr} {B m lo:Nat} {F:Heap→Prop} {ks:List Sli} {σ:St} {H:Heap}
theorem Acc.back' (a:Acc E A C σ0 g0 d g B m lo F ks σ H) (h1:1≤σ.at_) (hg:σ.bad=false→σ.unsure=false→g (E.rest σ.at_)=some (false,E.rest (σ.at_ -1))) {K:Sli→Heap→Prop}
 (hk: ∀σ' H',σ'.bad=true→Acc E A C σ0 g0 d gEnd B m lo F ks σ' H'→K (none,0,0) H'):loadW H false 1 ⟨E.p,1,none⟩ (pInt .i64) fun(x:Int)=>storeW H ⟨E.p,1,none⟩ [.int .i64 (IntKind.i64.wrap (x -1))] fun H2=>
 callW PP fq13 #[.pointer (some ⟨E.p,0,none⟩)] H2 pSlc K:=by
 rcases bad_or σ with hb|hb
 ·have hat:=a.at_le
  have hle:=a.sp.le
  refine⟨(σ.at_:Int),lcO a.sp.obj rfl,?_⟩
  dsimp only
  have hw:IntKind.i64.wrap ((σ.at_:Int) -1)=((σ.at_ -1:Nat):Int):=by rw[i64w (by omega)];omega
  rw[hw]
  refine swI a.sp.obj (by simp) rfl rfl fun H1 e1 h1 x1 s1=>?_
  have sp1:SP E H1 {σ with at_:=σ.at_ -1}:=a.sp.set x1 h1 (by dsimp only;omega) a.sp.deep
  refine failS sp1 fun H2 x2 s2=>?_
  have hf:St.fail {σ with at_:=σ.at_ -1}= {σ with at_:=σ.at_ -1}:=by unfold St.fail;rw[if_pos (by exact hb)]
  rw[hf] at s2
  exact hk {σ with at_:=σ.at_ -1} H2 hb (a.move (x1.trans x2) s2 id (fun h=>not_bad hb h) a.lim (Nat.le_refl _) fun G hi hu=>⟨fun _=>(hi hu).1 hb,fun h=>not_bad hb h⟩)
 ·exact a.back h1 hb (hg hb) hk
theorem Acc.orNames {b:Nat} {c:Array Value} {nm:ByteArray} {w1 w2 w3:ByteArray} (a:Acc E A C σ0 g0 d g B m lo (fun G=>F G∧NB E.p b (.cells c tq63) G) ks σ H) (hc:ofCells c false 1 1=some (.string nm)) {P:Heap→Prop}
 (hk: ∀u H',Acc E A C σ0 g0 d g B m lo (fun G=>F G∧NB E.p b (.cells c tq63) G) ks {σ with unsure:=u} H'→P H'):
 loadW H false 1 ⟨E.p,5,none⟩ pBool fun(x:Bool)=>forkB x (storeW H ⟨E.p,5,none⟩ [.bool true] P)
  (loadW H false 1 ⟨b,1,none⟩ pStr fun(x42:ByteArray)=>forkB (x42.toList==w1.toList) (storeW H ⟨E.p,5,none⟩ [.bool true] P)
    (loadW H false 1 ⟨b,1,none⟩ pStr fun(x56:ByteArray)=>forkB (x56.toList==w2.toList) (storeW H ⟨E.p,5,none⟩ [.bool true] P)
      (loadW H false 1 ⟨b,1,none⟩ pStr fun(x70:ByteArray)=>storeW H ⟨E.p,5,none⟩ [.bool (x70.toList==w3.toList)] P))):=by
 have hl:loadC H false 1 ⟨b,1,none⟩=some (.string nm):=lcO a.fr.2.2 hc
 have yes:storeW H ⟨E.p,5,none⟩ [.bool true] P:=a.mark g (fun _=>rfl) (fun h=>by cases h) fun H' a'=>hk _ H' a'
 refine⟨σ.unsure,lcO a.sp.obj rfl,fkI (fun _=>yes) (fun hu=>?_)⟩
 refine⟨nm,hl,fkI (fun _=>yes) (fun _=>?_)⟩
 refine⟨nm,hl,fkI (fun _=>yes) (fun _=>?_)⟩
 exact⟨nm,hl,a.mark g (fun h=>absurd (h.symm.trans hu) (by decide)) (fun _ _ _ h=>h) fun H' a'=>hk _ H' a'⟩
end
theorem schemaF {E:SEnv} {n:Nat} (hn:n≤60) (σ:St) (hb:σ.bad=false) (hd:σ.deep+n=60) (text:Sli):SpT E fq25 text σ (bV n+10060) (gSchema n):=by
 intro D H sp hDp hDH hT ht1
 have hB3:bV n≤120600:=by unfold bV;omega
 have hnn:=sp.n
 have a0:Acc E H H σ (gSchema n) σ.deep (gSchema n) 2000 0 σ.at_ (fun _=>True) [] σ H:=Acc.start sp hb
 refine spSchema.enter _ _ _ _ H _ ?_
 unfold spSchema.W
 refine Acc.call (g:=gList 12 (gThen gOpWord (gThen (gSign 7) gName)) 14) a0 (directivesF hn _ fun _=>hd) fun y1 σ1 H1 a1 h1=>?_
 refine KM.lit (A:=H) (D:=D) (ks:=[text,y1]) a1.ext.size (Nat.le_trans hDH a1.ext.size) (born2 (hT.ext a1.ext hDp) ((a1.kids y1 (by simp)).older hDH)) (by simp) rfl fun H2 x2 hkm=>?_
 have a2:=((a1.grow x2).setF (F':=fun G=>KM H D G (some ⟨H1.size,0,none⟩,2,2) [text,y1]∧True) ⟨hkm,trivial⟩ fun G G' x h=>⟨KM.stable a1.p hDp G G' x h.1,trivial⟩).noK
 refine(a2.of (g':=gThen (gSign 12) fun l=>if kd l=14 then some (false,E.rest σ1.at_) else gLoop (gThen gOpWord (gThen (gSign 7) gName)) 14 l) fun _ _ res hr=>by rw[gList_sign] at hr;exact hr).must (by decide) fun σ3 H3 a3 h3=>?_
 refine Acc.someP (E.rest σ1.at_) a3 (fun hb3=>by have h3:=h3 hb3;exact⟨by omega,by rw[h3.2.2,Nat.add_sub_cancel]⟩) fun σ4 H4 a4 h4=>?_
 have hle4:=a4.sp.le
 have hs4:sumL [text,y1]=text.2.1+y1.2.1:=by simp[sumL]
 refine Acc.loop (Y:=List Sli) [text,y1] (fun f=>gMany (gThen gOpWord (gThen (gSign 7) gName)) 14 f) (fun z l G=>KM H D G z.1 l∧True)
  (fun z l σ f m=>sumL l+1≤m∧(∃k:Nat,z.2.1=(k:Int)∧k+f≤1002∧l.length=k+2∧(k=0→σ.bad=false→kd (E.rest σ.at_)≠14))∧(σ.bad=false→1≤σ.at_)) (a4.loopOf.leB (B':=bV n+6040) (by omega)) ⟨by omega,⟨0,rfl,by omega,by simp,fun _ h=>(h4 h).2⟩,fun h=>?_⟩ (fun _=>by omega) ?_
 ·have h5:=h4 h
  have h6:=h3 (by rw[←h5.1];exact h)
  rw[h5.1];omega
 rintro⟨z,z2,_⟩ l σ5 H5 f5 m5 lo5 next a5 ⟨hs1,⟨k,hk,hkf,hlk,hk0⟩,hat5⟩ hf5 hnext
 dsimp only at hk
 subst hk
 have hz5:=a5.fr.1
 dsimp only at hz5
 refine a5.head1 (by decide) hf5 (fun h hb5=>hk0 (by simpa using h) hb5) (fun f' e hb5 a6=>fkI (fun _=>?_) (fun hh=>by cases hh)) (fun σ' H' lo' a6 hst=>fkI (fun hh=>by cases hh) (fun _=>?_))
 ·subst e
  have a6t:=a6.setF (F':=fun _=>True) trivial fun _ _ _ _=>trivial
  generalize hL:E.rest σ5.at_=L
  refine(a6t.as.of (g':=gThen gName fun r=>if isOp L=true then gThen (gThen (gSign 7) gName) (gMany (gThen gOpWord (gThen (gSign 7) gName)) 14 f') r else some (false,L)) fun _ _ res hr=>?_).name fun s σ7 H7 a7 h7 hun7=>?_
  ·rw[hL] at hr⊢
   by_cases h15:kd L=15
   ·rw[gThen_pos (a:=gName) (by unfold gName gSign;rw[if_pos h15])] at hr
    by_cases hop:isOp L=true
    ·rw[if_pos hop] at hr
     rw[gThen_pos (a:=gOpWord) (by unfold gOpWord;rw[if_pos hop])]
     exact hr
    ·rw[if_neg hop] at hr
     rw[←hr]
     unfold gThen gOpWord
     rw[if_neg hop]
   ·have hop: ¬isOp L=true:=fun h=>h15 (isOp_kd h)
    rw[←hr]
    unfold gThen gOpWord gName gSign
    rw[if_neg hop,if_neg h15]
  refine a7.node fun nb H8 hnb a8=>?_
  refine⟨(!(s.toList==wQuery.toList||s.toList==wMutation.toList||s.toList==wSubscription.toList),()),?_,?_⟩
  ·have hl:loadC H8 false 1 ⟨nb,3,none⟩=some (.string s):=lcO a8.fr.2.2 rfl
   refine⟨s,hl,fkI (fun hq=>?_) (fun hq=>⟨?_,rfl⟩)⟩
   ·have hq':(s.toList==wQuery.toList)=false:=by have h:(!(s.toList==wQuery.toList))=true:=hq;simpa using h
    refine⟨s,hl,fkI (fun hm=>?_) (fun hm=>⟨?_,rfl⟩)⟩
    ·have hm':(s.toList==wMutation.toList)=false:=by have h:(!(s.toList==wMutation.toList))=true:=hm;simpa using h
     refine⟨s,hl,?_,rfl⟩
     rw[hq',hm'];rfl
    ·have hm':(s.toList==wMutation.toList)=true:=by have h:(!(s.toList==wMutation.toList))=false:=hm;simpa using h
     rw[hq',hm'];rfl
   ·have hq':(s.toList==wQuery.toList)=true:=by have h:(!(s.toList==wQuery.toList))=false:=hq;simpa using h
    rw[hq'];rfl
  have hop7:σ7.bad=false→isOp L=(s.toList==wQuery.toList||s.toList==wMutation.toList||s.toList==wSubscription.toList):=fun h=>by
   obtain⟨_,h15,_,hs⟩:=h7 h
   rw[hs,isW_val h15,isW_val h15,isW_val h15,hL]
   rfl
  refine fkI (fun hno=>?_) (fun hyes=>?_)
  ·have hno':(s.toList==wQuery.toList||s.toList==wMutation.toList||s.toList==wSubscription.toList)=false:=by simpa using hno
   have h1':=hat5 hb5
   refine a8.back' (by have:=hun7.2;omega) (fun h7b _=>?_) fun σ9 H9 hb9 a9=>?_
   ·rw[if_neg (by rw[hop7 h7b,hno'];decide),(h7 h7b).2.2.1,Nat.add_sub_cancel,hL]
   ·exact a9.retF (y:=(none,0,0)) hb Born.nil (Nat.zero_le _) (by omega)
  ·have hyes':(s.toList==wQuery.toList||s.toList==wMutation.toList||s.toList==wSubscription.toList)=true:=by
    cases hx:(s.toList==wQuery.toList||s.toList==wMutation.toList||s.toList==wSubscription.toList) with
    |true=>rfl
    |false=>rw[hx] at hyes;cases hyes
   refine(a8.of (g':=gThen (gSign 7) (gThen gName (gMany (gThen gOpWord (gThen (gSign 7) gName)) 14 f'))) fun h7b _ res hr=>?_).must (by decide) fun σ9 H9 a9 h9=>?_
   ·rw[if_pos (by rw[hop7 h7b,hyes']),gThen_assoc]
    exact hr
   refine a9.name fun s2 σ10 H10 a10 h10 _=>?_
   refine a10.setN (o':=ndCells 25 s2 (bs []) s 0 0) rfl (by simp) rfl rfl (Nat.le_trans a7.ch hnb) (fun _ _ _=>trivial) (fun _ _ _ _=>trivial) fun H11 a11=>?_
   refine⟨(25,s2,bs [],s,0,0),lcO a11.fr.2.2 rfl,?_⟩
   dsimp only
   refine a11.made0 (n:=⟨25,s2,bs [],s,0,0⟩) fun y H12 a12 hy hby=>?_
   have a12f:=a12.setF (F':=fun G=>KM H D G z l∧True) ⟨KM.stable a1.p hDp H5 H12 a12.cx hz5,trivial⟩ fun G G' x h=>⟨KM.stable a1.p hDp G G' x h.1,trivial⟩
   have hprog:σ10.bad=false→σ5.at_<σ10.at_:=fun h=>by have h10:=h10 h;have h9:=h9 h10.1;have h7:=h7 h9.1;omega
   refine a12f.pushI hz5 (by have:=a5.ext.size;omega) hDp hby (by omega) (fun _ _=>trivial) (fun _ _ _ _=>trivial) fun ad cc H13 a13=>?_
   have hw:IntKind.i64.wrap ((k:Int)+1)=((k+1:Nat):Int):=by rw[i64w (by omega)];omega
   exact hnext _ (l++[y]) σ10 H13 f' _ _ ((a13.leB (by omega)).rebase) ⟨by rw[sumL_snoc];omega,⟨k+1,by dsimp only;rw[hw],by omega,by simp;omega,fun h=>by omega⟩,fun h=>by have:=hprog h;omega⟩ (fun h=>by have:=hf5 hb5;have:=hprog h;omega) hb5 hprog
 ·have hz6:=a6.fr.1
  have hlim:=a6.lim
  refine a6.made (n:=⟨24,bs [],bs [],bs [],0,0⟩) hz6.slc.1 hz6.slc.2 (by omega) (by omega) fun w H7 a7 hw hbw=>?_
  exact a7.retF hb hbw (by omega) (by omega)
theorem enumF {E:SEnv} {n:Nat} (hn:n≤60) (σ:St) (hb:σ.bad=false) (hd:σ.deep+n=60) (text:Sli):SpT E fq31 text σ (bV n+10060) (gEnum n):=by
 intro D H sp hDp hDH hT ht1
 have hB3:bV n≤120600:=by unfold bV;omega
 have hnn:=sp.n
 have a0:Acc E H H σ (gEnum n) σ.deep (gEnum n) 2000 0 σ.at_ (fun _=>True) [] σ H:=Acc.start sp hb
 have ddir: ∀ {C:Heap} {σ':St} {g':Gr} {B m lo:Nat} {F:Heap→Prop} {ks:List Sli} {H':Heap},Acc E H C σ (gEnum n) σ.deep g' B m lo F ks σ' H'→σ'.bad=false→σ'.deep+n=60:=fun a h=>by have:=(a.ok h).1;omega
 refine spEnum.enter _ _ _ _ H _ ?_
 unfold spEnum.W
 refine Acc.name (g:=gThen (gDirs n) (gBody 12 (gEnumValue n) 14)) a0 fun s σ1 H1 a1 h1 _=>?_
 refine a1.node fun nb H2 hnb a2=>?_
 refine a2.call (directivesF hn _ (ddir a2)) fun y1 σ3 H3 a3 h3=>?_
 refine KM.lit (A:=H) (D:=D) (ks:=[text,y1]) a3.ext.size (Nat.le_trans hDH a3.ext.size) (born2 (hT.ext a3.ext hDp) ((a3.kids y1 (by simp)).older hDH)) (by simp) rfl fun H4 x4 hkm=>?_
 have kp:=keeps_nb E H D nb #[.int .i64 34,.string s,.string (bs []),.string (bs []),.int .i64 0,.int .i64 0]
 have a4:=((a3.grow x4).setF (F':=fun G=>KM H D G (some ⟨H3.size,0,none⟩,2,2) [text,y1]∧NB E.p nb (ndCells 34 s (bs []) (bs []) 0 0) G) ⟨hkm,(a3.grow x4).fr.2⟩ fun G G' x h=>⟨KM.stable a3.p hDp G G' x h.1,NB.ext G G' x h.2⟩).noK
 have hs4:sumL [text,y1]=text.2.1+y1.2.1:=by simp[sumL]
 refine a4.body (by decide) (gLoop (gEnumValue n) 14) (fun _ hk ht res hr=>by rw[gBody_yes hk ht];exact hr) (fun hb4 σ5 H5 a5 hk5 hlt5=>fkI (fun hh=>by cases hh) (fun _=>?_)) (fun σ5 H5 hb5 a5=>fkI (fun _=>a5.retF (y:=(none,0,0)) hb Born.nil (Nat.zero_le _) (by omega)) (fun hh=>by cases hh))
 have hle5:=a5.sp.le
 refine Acc.loop (Y:=List Sli) [text,y1] (fun f=>gMany (gEnumValue n) 14 f) (fun z l G=>KM H D G z.1 l∧NB E.p nb (ndCells 34 s (bs []) (bs []) 0 0) G)
  (fun z l σ f m=>sumL l+1≤m∧ ∃k:Nat,z.2.1=(k:Int)∧k+f≤1002∧l.length=k+2∧(k=0→σ.bad=false→kd (E.rest σ.at_)≠14)) (a5.loopOf.leB (B':=bV n+6040) (by omega)) ⟨by omega,0,rfl,by omega,by simp,fun _ _=>hk5⟩ (fun _=>by omega) ?_
 rintro⟨z,z2,_⟩ l σ6 H6 f6 m6 lo6 next a6 ⟨hs1,k,hk,hkf,hlk,hk0⟩ hf6 hnext
 dsimp only at hk
 subst hk
 have hz6:=a6.fr.1
 dsimp only at hz6
 refine a6.head1 (by decide) hf6 (fun h hb6=>hk0 (by simpa using h) hb6) (fun f' e hb6 a7=>fkI (fun _=>?_) (fun hh=>by cases hh)) (fun σ' H' lo' a7 hst=>fkI (fun hh=>by cases hh) (fun _=>?_))
 ·subst e
  refine a7.as.call (describedF E σ6) fun y2 σ7 H7 a8 h7=>?_
  refine a8.as.name fun s2 σ8 H8 a9 h8 _=>?_
  refine a9.node fun nb2 H9 hnb2 a10=>?_
  refine a10.orNames (nm:=s2) rfl fun u H10 a11=>?_
  refine⟨(35,s2,bs [],bs [],0,0),lcO a11.fr.2.2 rfl,?_⟩
  dsimp only
  refine a11.call (directivesF hn _ (ddir a11)) fun y3 σ11 H11 a12 h11=>?_
  refine⟨lcO a12.fr.2.2 rfl,?_⟩
  refine nbI fun H12 e12 hb12 x12 s12=>?_
  have a13:=a12.grow x12
  refine⟨lcO a13.fr.2.2 rfl,?_⟩
  refine a13.madeK (n:=⟨35,s2,bs [],bs [],0,0⟩) hb12 (by simp) (by have:=a13.lim;simp[sumL];omega) (by simp) fun w H13 a14 hw hbw=>?_
  have hw':w.2.1=1+(y2.2.1+y3.2.1):=by simpa [sumL] using hw
  have a14f:=a14.setF (F':=fun G=>KM H D G z l∧NB E.p nb (ndCells 34 s (bs []) (bs []) 0 0) G) a14.fr.1 fun G G' x h=>⟨KM.stable a1.p hDp G G' x h.1,NB.ext G G' x h.2⟩
  have hprog:σ11.bad=false→σ6.at_<σ11.at_:=fun h=>by have h11:=h11 h;have h8:=h8 h11.1;have h7:=h7 h8.1;have h11':σ8.at_≤σ11.at_:=h11.2;omega
  refine a14f.pushI hz6 (by have:=a6.ext.size;omega) hDp hbw (by omega) (kp.2 H13 _ _ a14f.fr.1 a14f.fr.2) kp.1 fun ad cc H14 a15=>?_
  have hwr:IntKind.i64.wrap ((k:Int)+1)=((k+1:Nat):Int):=by rw[i64w (by omega)];omega
  exact hnext _ (l++[w]) σ11 H14 f' _ _ ((a15.leB (by omega)).rebase) ⟨by rw[sumL_snoc];omega,k+1,by dsimp only;rw[hwr],by omega,by simp;omega,fun h=>by omega⟩ (fun h=>by have:=hf6 hb6;have:=hprog h;omega) hb6 hprog
 ·refine⟨(34,s,bs [],bs [],0,0),lcO a7.fr.2.2 rfl,?_⟩
  dsimp only
  have hz7:=a7.fr.1
  have hlim:=a7.lim
  refine a7.made (n:=⟨34,s,bs [],bs [],0,0⟩) hz7.slc.1 hz7.slc.2 (by omega) (by omega) fun w H8 a8 hw hbw=>?_
  exact a8.retF hb hbw (by omega) (by omega)
def gD2 (n:Nat) (r:List PTk):Option (Bool×List PTk):=
 if isOp r=true then gOperation n r
 else if isW wFragment' r=true then gFragment n r.tail
 else if isW wSchema' r=true then gSchema n r.tail
 else if isW wScalar' r=true then gScalar n r.tail
 else if isW wType' r=true then gObject n r.tail
 else if isW wInterface' r=true then gInterface n r.tail
 else if isW wUnion' r=true then gUnion n r.tail
 else if isW wEnum' r=true then gEnum n r.tail
 else if isW wInput' r=true then gInputObj n r.tail
 else if isW wDirective' r=true then gDirDef n r.tail
 else if isW wExtend' r=true then gExtend n r.tail
 else some (false,r)
theorem gDefined_eq {n:Nat} {l r:List PTk} {d:Bool} (h15:kd r=15) (h1: ¬(d=true∧(isOp r=true∨isW wFragment' r=true∨isW wExtend' r=true))) (h2: ¬(d=true∧isW wSchema' r=true)):gDefined n l r d=gD2 n r:=by
 unfold gDefined gD2
 rw[if_neg (by rw[h15];simp),if_neg h1]
 by_cases hs:isW wSchema' r=true
 ·have hd:d≠true:=fun h=>h2 ⟨h,hs⟩
  rw[if_pos hs,if_pos hs,if_neg hd]
 ·rw[if_neg hs,if_neg hs]
section
variable {E:SEnv} {A C:Heap} {σ0:St} {g0:Gr} {d:Int} {g:Gr} {B m lo:Nat} {F:Heap→Prop} {ks:List Sli} {σ:St} {H:Heap}
abbrev ResQ (E:SEnv) (σ:St) (B:Nat) (g:Gr) (H:Heap):Value→Heap→Prop:=fun v H'=> ∃(y:Sli) (σ':St),v= .slice y.1 y.2.1 y.2.2∧OutS E σ B g H y σ' H'∧(σ'.bad=false→σ.at_<σ'.at_)
theorem Acc.retQ (a:Acc E A C σ0 g0 σ0.deep gEnd B m lo F ks σ H) (hb:σ0.bad=false) {y:Sli} (hy:Born C H (NewsOk y)) (hl:y.2.1≤m) {B':Nat} (hB:B≤B') (hlo:σ.bad=false→σ0.at_<σ.at_):retK (some [.slice y.1 y.2.1 y.2.2]) H (ResQ E σ0 B' g0 A):=
 rkI ⟨y,σ,rfl,a.out hb hy hl hB,hlo⟩
theorem Acc.failQ (a:Acc E A C σ0 g0 σ0.deep g B m lo F ks σ H) (hb:σ0.bad=false) (hg:σ.bad=false→σ.unsure=false→g (E.rest σ.at_)=some (false,E.rest σ.at_)) {B':Nat} (hB:B≤B'):
 callW PP fq13 #[.pointer (some ⟨E.p,0,none⟩)] H pSlc fun(x3:Option Addr×Nat×Nat) H4=>retK (some [.slice x3.1 x3.2.1 x3.2.2]) H4 (ResQ E σ0 B' g0 A):=
 a.fail hg fun _ a'=>a'.retQ (y:=(none,0,0)) hb Born.nil (Nat.zero_le _) hB fun h=>not_bad (fail_bad _) h
theorem Acc.goP {fn:FuncId} {args:Array Value} {f:Gr} {Bf:Nat} (a:Acc E A C σ0 g0 σ0.deep f B m lo F ks σ H) (hb:σ0.bad=false) (hf:SpP E fn args σ Bf f) {B':Nat} (hB:max (B+2) (2001+Bf)≤B') (hat:σ0.at_≤σ.at_):
 callW PP fn args H pSlc fun(x3:Option Addr×Nat×Nat) H4=>retK (some [.slice x3.1 x3.2.1 x3.2.2]) H4 (ResQ E σ0 B' g0 A):=
 a.last.callP hf fun y _ _ a' h'=>a'.retQ hb (a'.kids y (by simp)) (by omega) hB fun h=>by have:=(h' h).2;omega
theorem Acc.goT {fn:FuncId} {args:Array Value} {f:Gr} {Bf:Nat} (a:Acc E A C σ0 g0 σ0.deep f B m lo F ks σ H) (hb:σ0.bad=false) (hf:Fn PP fn args H (ResF E σ Bf f H)) {B':Nat} (hB:max (B+1) (2000+Bf)≤B') (hat:σ0.at_<σ.at_):
 callW PP fn args H pSlc fun(x3:Option Addr×Nat×Nat) H4=>retK (some [.slice x3.1 x3.2.1 x3.2.2]) H4 (ResQ E σ0 B' g0 A):=
 a.last.callH hf fun y _ _ a' h'=>a'.retQ hb (a'.kids y (by simp)) (by omega) hB fun h=>by have:=(h' h).2;omega
theorem Acc.orNot (a:Acc E A C σ0 g0 d g B m lo F ks σ H) {w:ByteArray} (g':Gr) (hg:isW w (E.rest σ.at_)=true→ ∀res,g' (E.rest σ.at_)=some res→g (E.rest σ.at_)=some res) {P:Heap→Prop}
 (hk: ∀u H',Acc E A C σ0 g0 d g' B m lo F ks {σ with unsure:=u} H'→P H'):
 loadW H false 1 ⟨E.p,5,none⟩ pBool fun(x:Bool)=>forkB x (storeW H ⟨E.p,5,none⟩ [.bool true] P)
  (callW PP fq28 #[.pointer (some ⟨E.p,0,none⟩),.int .i64 0,.string w] H pBool fun(x2:Bool) H2=>storeW H2 ⟨E.p,5,none⟩ [.bool (!x2)] P):=by
 refine⟨σ.unsure,lcO a.sp.obj rfl,fkI (fun _=>a.mark g' (fun _=>rfl) (fun h=>by cases h) fun H' a'=>hk _ H' a') (fun hu=>?_)⟩
 exact a.word w (a.mark g' (fun h=>absurd (h.symm.trans hu) (by decide)) (fun h _=>hg (by simpa using h)) fun H' a'=>hk _ H' a')
end
theorem definitionF {E:SEnv} {n:Nat} (hn:n≤60) (σ:St) (hb:σ.bad=false) (hd:σ.deep+n=60) {H:Heap} (sp:SP E H σ):Fn PP fq12 (spArg E) H (ResQ E σ (bS n+12100) (gDefinition n) H):=by
 have hB3:bV n≤120600:=by unfold bV;omega
 have hB4:bS n≤365820∧bV n+4020≤bS n:=by unfold bS bV;omega
 have a0:Acc E H H σ (gDefinition n) σ.deep (gDefinition n) 2000 0 σ.at_ (fun _=>True) [] σ H:=Acc.start sp hb
 have hle:=sp.le
 have hnn:=sp.n
 refine spDefinition.enter _ H _ ?_
 unfold spDefinition.W
 refine a0.kind (fkI (fun h12=>?_) (fun h12=>?_))
 ·have h12':kd (E.rest σ.at_)=12:=by simpa using h12
  refine(a0.of (g':=gThen (gSels n) gEnd) fun _ _ res hr=>by unfold gDefinition;rw[if_pos h12'];rw[gThen_end] at hr;exact hr).callP (selectionsF n hn σ fun _=>hd) fun y σ1 H1 a1 h1=>?_
  refine nbI fun H2 e2 hb2 x2 s2=>?_
  have a2:=a1.grow x2
  refine a2.madeK (n:=⟨2,bs [],bs [],bs [113,117,101,114,121],1,0⟩) hb2 (by simp) (by have:=a2.lim;simp[sumL];omega) (by simp) fun w H3 a3 hw hbw=>?_
  have hw':w.2.1=1+y.2.1:=by simpa [sumL] using hw
  exact a3.retQ hb hbw (by omega) (by omega) fun h=>(h1 h).2
 have h12':kd (E.rest σ.at_)≠12:=by simpa using h12
 generalize hL:E.rest σ.at_=L at h12'
 refine⟨fun y H'=>y.1=(kd L==18||kd L==19)∧H'=H,?_,?_⟩
 ·refine a0.kind (fkI (fun h=>?_) (fun h=>?_))
  ·rw[hL] at h;exact⟨by rw[h];rfl,rfl⟩
  ·rw[hL] at h
   refine a0.kind ⟨by rw[h,hL];rfl,rfl⟩
 rintro⟨dd,_⟩ H ⟨hdd,rfl⟩
 dsimp only at hdd⊢
 refine⟨fun y H'=> ∃m1 lo1,Acc E H H σ (gDefinition n) σ.deep (fun r=>gDefined n L r dd) 2010 m1 lo1 (fun _=>True) [y.1] {σ with at_:=σ.at_+(if dd=true then 1 else 0)} H'∧y.1.2.1=(if dd=true then 1 else 0)∧y.1.2.1≤m1,?_,?_⟩
 ·refine fkI (fun h=>?_) (fun h=>?_)
  ·have hk:kd L=18∨kd L=19:=by rw[hdd] at h;simpa using h
   have a0':Acc E H H σ (gDefinition n) σ.deep (gThen gDescr fun r=>gDefined n L r true) 2000 0 σ.at_ (fun _=>True) [] σ H:=a0.of fun _ _ res hr=>by
    rw[hL] at hr⊢
    rw[gThen_pos (a:=gDescr) (by unfold gDescr;rw[if_pos hk])] at hr
    unfold gDefinition
    rw[if_neg h12',if_pos hk]
    exact hr
   refine(descriptionX E σ (by rw[hL];exact hk) sp).mono ?_
   rintro _ H1 ⟨y,rfl,o,hy1⟩
   refine⟨y,rfl,?_⟩
   subst h
   have hat:=a0.at_le
   have a1:Acc E H H σ (gDefinition n) σ.deep (fun r=>gDefined n L r true) 2010 1 (σ.at_+1) (fun _=>True) [] {σ with at_:=σ.at_+1} H1:=a0'.move o.ext o.sp o.mono.un (fun _=>⟨rfl,by omega,Nat.le_refl _,by dsimp only;omega⟩) (by omega) (by omega) fun G hi=>hi.step o
   refine⟨1,_,a1.setK fun b hb=>?_,hy1,by dsimp only;omega⟩
   rw[List.mem_singleton.1 hb]
   exact o.nodes
  ·subst h
   have hk: ¬(kd L=18∨kd L=19):=by simpa using hdd.symm
   refine⟨0,σ.at_,((a0.of fun _ _ res hr=>?_).leB (by omega)).setK fun b hb=>?_,rfl,Nat.le_refl _⟩
   ·rw[hL] at hr⊢
    unfold gDefinition
    rw[if_neg h12',if_neg hk]
    exact hr
   ·rw[List.mem_singleton.1 hb];exact Born.nil
 rintro⟨tx,_⟩ H1 ⟨m1,lo1,a1,htl,hm1⟩
 dsimp only at a1 htl hm1⊢
 have hs1:σ.at_+(if dd=true then 1 else 0)=σ.at_+(if dd=true then 1 else 0):=rfl
 generalize hσ1:({σ with at_:=σ.at_+(if dd=true then 1 else 0)}:St)=σ1 at a1
 have hb1:σ1.bad=false:=by rw[←hσ1];exact hb
 have hat1:σ1.at_=σ.at_+(if dd=true then 1 else 0):=by rw[←hσ1]
 have hd1:σ1.deep=σ.deep:=by rw[←hσ1]
 clear hσ1 hs1
 generalize hR:E.rest σ1.at_=R
 refine a1.kind (fkI (fun h15=>a1.failQ hb (fun _ _=>?_) (by omega)) (fun h15=>?_))
 ·rw[hR] at h15⊢
  unfold gDefined
  rw[if_pos (by simpa using h15)]
 rw[hR] at h15
 have h15':kd R=15:=by simpa using h15
 have hlt:σ1.at_<E.ts.length:=kd_rest (by rw[hR,h15'];decide)
 have hle1:=a1.sp.le
 have hval: ∀w:ByteArray,((E.val σ1.at_).toList==w.toList)=isW w R:=fun w=>by rw[isW_val (by rw[hR];exact h15'),hR]
 have hcell:=a1.sp.cell hlt (j:=1) (o:=offOf E.ta+((σ1.at_:Nat):Int).toNat*4+1) (by omega) (by omega) (v:= .string E.ts[σ1.at_].value) rfl
 rw[←(SEnv.at' (E:=E) hlt).1] at hcell
 refine⟨(E.ta,E.ts.length,E.tc),lcO a1.sp.obj rfl,(σ1.at_:Int),lcO a1.sp.obj rfl,?_⟩
 dsimp only
 refine⟨hcell.1,E.val σ1.at_,hcell.2,?_⟩
 dsimp only
 have hop:isOp R=(isW wQuery R||isW wMutation R||isW wSubscription R):=rfl
 rw[hval,hval,hval,hval,hval,hval]
 refine⟨fun y H'=>y.1=(isOp R||isW wFragment' R||isW wExtend' R)∧H'=H1,fkI (fun h=>⟨?_,rfl⟩) (fun h=>?_),?_⟩
 ·have h':isW wQuery R=true:=h
  rw[hop,h'];rfl
 ·have h':isW wQuery R=false:=h
  refine⟨fun y H'=>y.1=(isW wMutation R||isW wSubscription R||isW wFragment' R||isW wExtend' R)∧H'=H1,fkI (fun h=>⟨?_,rfl⟩) (fun h=>?_),?_⟩
  ·have h2:isW wMutation R=true:=h
   rw[h2];rfl
  ·have h2:isW wMutation R=false:=h
   refine⟨fun y H'=>y.1=(isW wSubscription R||isW wFragment' R||isW wExtend' R)∧H'=H1,fkI (fun h=>⟨?_,rfl⟩) (fun h=>?_),?_⟩
   ·have h3:isW wSubscription R=true:=h
    rw[h3];rfl
   ·have h3:isW wSubscription R=false:=h
    refine⟨fun y H'=>y.1=(isW wFragment' R||isW wExtend' R)∧H'=H1,fkI (fun h=>⟨?_,rfl⟩) (fun h=>⟨?_,rfl⟩),?_⟩
    ·have h4:isW wFragment' R=true:=h
     rw[h4];rfl
    ·have h4:isW wFragment' R=false:=h
     rw[h4];rfl
    ·rintro⟨y,_⟩ _ ⟨hy,rfl⟩
     exact⟨by rw[h3];exact hy,rfl⟩
   ·rintro⟨y,_⟩ _ ⟨hy,rfl⟩
    exact⟨by rw[h2];exact hy,rfl⟩
  ·rintro⟨y,_⟩ _ ⟨hy,rfl⟩
   exact⟨by rw[hop,h'];exact hy,rfl⟩
 rintro⟨bb,_⟩ H1 ⟨hbb,rfl⟩
 dsimp only at hbb⊢
 refine⟨fun _ H'=> ∃u,Acc E H H σ (gDefinition n) σ.deep (gD2 n) 2010 m1 lo1 (fun _=>True) [tx] {σ1 with unsure:=u} H'∧(isOp R=true∨isW wFragment' R=true∨isW wExtend' R=true→dd=false),?_,?_⟩
 ·refine fkI (fun h=>?_) (fun h=>?_)
  ·have hyes:isOp R=true∨isW wFragment' R=true∨isW wExtend' R=true:=by
    rw[hbb] at h
    simpa [or_assoc] using h
   refine fkI (fun ht=>?_) (fun ht=>?_)
   ·have hdt:dd=true:=by
     cases dd with
     |true=>rfl
     |false=>rw[htl] at ht;simp at ht
    subst hdt
    refine a1.back' (by rw[hat1];simp) (fun _ _=>?_) fun σ2 H2 hb2 a2=>a2.retQ (y:=(none,0,0)) hb Born.nil (Nat.zero_le _) (by omega) fun h=>not_bad hb2 h
    rw[hR,hat1,if_pos rfl,Nat.add_sub_cancel,hL]
    unfold gDefined
    rw[if_neg (by rw[h15'];simp),if_pos ⟨rfl,hyes⟩]
   ·have hdf:dd=false:=by
     cases dd with
     |false=>rfl
     |true=>rw[htl] at ht;simp at ht
    refine⟨σ1.unsure,a1.of fun _ _ res hr=>?_,fun _=>hdf⟩
    rw[hR] at hr⊢
    rw[gDefined_eq h15' (by rw[hdf];simp) (by rw[hdf];simp)]
    exact hr
  ·have hno: ¬(isOp R=true∨isW wFragment' R=true∨isW wExtend' R=true):=by
    rw[hbb] at h
    simpa [or_assoc,and_assoc] using h
   refine⟨fun _ H'=> ∃u,Acc E H H σ (gDefinition n) σ.deep (gD2 n) 2010 m1 lo1 (fun _=>True) [tx] {σ1 with unsure:=u} H',fkI (fun hs=>?_) (fun hs=>?_),?_⟩
   ·refine⟨σ1.unsure,lcO a1.sp.obj rfl,fkI (fun _=>a1.mark _ (fun _=>rfl) (fun h=>by cases h) fun H' a'=>⟨_,a'⟩) (fun hu=>?_)⟩
    refine a1.mark _ (fun h=>absurd (h.symm.trans hu) (by decide)) (fun h _ res hr=>?_) fun H' a'=>⟨_,a'⟩
    have hdf:dd=false:=by
     cases dd with
     |false=>rfl
     |true=>rw[htl] at h;simp at h
    rw[hR] at hr⊢
    rw[gDefined_eq h15' (by rw[hdf];simp) (by rw[hdf];simp)]
    exact hr
   ·have hs':isW wSchema' R=false:=hs
    refine⟨σ1.unsure,a1.of fun _ _ res hr=>?_⟩
    rw[hR] at hr⊢
    rw[gDefined_eq h15' (fun h=>hno h.2) (by rw[hs'];simp)]
    exact hr
   ·rintro⟨_⟩ H2 ⟨u,a2⟩
    exact⟨u,a2,fun h=>absurd h hno⟩
 rintro⟨b41,_⟩ H2 ⟨u,a2,hdf⟩
 generalize hσ2:({σ1 with unsure:=u}:St)=σ2 at a2
 have hb2:σ2.bad=false:=by rw[←hσ2];exact hb1
 have hat2:σ2.at_=σ1.at_:=by rw[←hσ2]
 have hd2:σ2.deep=σ.deep:=by rw[←hσ2];exact hd1
 have hR2:E.rest σ2.at_=R:=by rw[hat2];exact hR
 have hge:σ.at_≤σ2.at_:=by rw[hat2,hat1];omega
 clear hσ2
 refine nameS a2.sp (fun _ _ H3 x3 s3=>?_) (fun hno=>hno.elim (fun h=>not_bad h hb2) (fun h=>absurd (by rw[hR2];exact h15') h))
 have a3:Acc E H H σ (gDefinition n) σ.deep (fun _=>gD2 n R) 2012 (m1+2) (lo1+1) (fun _=>True) [tx] {σ2 with at_:=σ2.at_+1} H3:=a2.ahead (fun _ _ res hr=>by rw[hR2];exact hr) x3 s3
 have hrt:E.rest (σ2.at_+1)=R.tail:=by rw[←rest_tail,hR2]
 have hval2: ∀w:ByteArray,((E.val σ2.at_).toList==w.toList)=isW w R:=by rw[hat2];exact hval
 rw[hval2,hval2,hval2,hval2,hval2,hval2,hval2,hval2,hval2,hval2,hval2,hval2,hval2]
 refine⟨fun y H'=>y.1=isOp R∧H'=H3,fkI (fun h=>⟨?_,rfl⟩) (fun h=>?_),?_⟩
 ·have h':isW wQuery R=true:=h
  rw[hop,h'];rfl
 ·have h':isW wQuery R=false:=h
  refine⟨fun y H'=>y.1=(isW wMutation R||isW wSubscription R)∧H'=H3,fkI (fun h=>⟨?_,rfl⟩) (fun h=>⟨?_,rfl⟩),?_⟩
  ·have h2:isW wMutation R=true:=h
   rw[h2];rfl
  ·have h2:isW wMutation R=false:=h
   rw[h2];rfl
  ·rintro⟨y,_⟩ _ ⟨hy,rfl⟩
   exact⟨by rw[hop,h'];exact hy,rfl⟩
 rintro⟨b56,_⟩ H3 ⟨hb56,rfl⟩
 dsimp only at hb56⊢
 have htl1:tx.2.1≤1:=by rw[htl];split<;>omega
 have hbt:Born H H3 (NewsOk tx):=a3.kids tx (by simp)
 have dn:({σ2 with at_:=σ2.at_+1}:St).deep+n=60:=by show σ2.deep+n=60;rw[hd2];exact hd
 have ddir: ∀ {C:Heap} {σ':St} {g':Gr} {B m lo:Nat} {F:Heap→Prop} {ks:List Sli} {H':Heap},Acc E H C σ (gDefinition n) σ.deep g' B m lo F ks σ' H'→σ'.bad=false→σ'.deep+n=60:=fun a h=>by have:=(a.ok h).1;omega
 have hlt3:σ.at_<({σ2 with at_:=σ2.at_+1}:St).at_:=by show σ.at_<σ2.at_+1;omega
 refine⟨fun _ H'=>H'=H3∧gD2 n R=some (false,R),fkI (fun h=>?_) (fun h=>?_),?_⟩
 ·rw[hb56] at h
  have hat3:=a3.at_le
  refine⟨((σ2.at_+1:Nat):Int),lcO a3.sp.obj rfl,?_⟩
  dsimp only
  have hw:IntKind.i64.wrap (((σ2.at_+1:Nat):Int) -1)=(σ2.at_:Int):=by rw[i64w (by omega)];omega
  rw[hw]
  refine swI a3.sp.obj (by simp) rfl rfl fun H4 e4 h4 x4 s4=>?_
  have hle2:=a2.sp.le
  have s4':SP E H4 σ2:=a3.sp.set x4 h4 hle2 a2.sp.deep
  have a4:Acc E H H σ (gDefinition n) σ.deep (gD2 n) 2010 m1 lo1 (fun _=>True) [tx] σ2 H4:=a2.move (x3.trans x4) s4' id a2.ok a2.lim (Nat.le_refl _) fun _ hi=>hi
  exact(a4.of (g':=gOperation n) fun _ _ res hr=>by rw[hR2] at hr⊢;unfold gD2;rw[if_pos h];exact hr).goP hb (operationF hn σ2 hb2 (by rw[hd2];exact hd) (by rw[hR2];exact h)) (by omega) hge
 ·rw[hb56] at h
  have n0: ¬isOp R=true:=by rw[h];simp
  refine fkI (fun h1=>?_) (fun h1=>?_)
  ·have h1':isW wFragment' R=true:=h1
   exact(a3.of (g':=gFragment n) fun _ _ res hr=>by rw[hrt] at hr;unfold gD2;rw[if_neg n0,if_pos h1'];exact hr).goP hb (fragmentF hn _ hb2 dn) (by omega) (Nat.le_of_lt hlt3)
  have n1: ¬isW wFragment' R=true:=by have h':isW wFragment' R=false:=h1;rw[h'];simp
  refine fkI (fun h2=>?_) (fun h2=>?_)
  ·have h2':isW wSchema' R=true:=h2
   exact(a3.of (g':=gSchema n) fun _ _ res hr=>by rw[hrt] at hr;unfold gD2;rw[if_neg n0,if_neg n1,if_pos h2'];exact hr).goT (Bf:=bV n+10060) hb (schemaF hn _ (by exact hb2) (by exact dn) tx H H3 a3.sp sp.lt a3.ext.size hbt htl1) (by omega) hlt3
  have n2: ¬isW wSchema' R=true:=by have h':isW wSchema' R=false:=h2;rw[h'];simp
  refine fkI (fun h3=>?_) (fun h3=>?_)
  ·have h3':isW wScalar' R=true:=h3
   refine(a3.of (g':=gThen gName (gThen (gDirs n) gEnd)) fun _ _ res hr=>?_).name fun s σ4 H4 a4 h4 _=>?_
   ·rw[hrt] at hr
    unfold gD2;rw[if_neg n0,if_neg n1,if_neg n2,if_pos h3']
    rw[←gThen_assoc,gThen_end] at hr
    exact hr
   refine a4.call (directivesF hn _ (ddir a4)) fun y σ5 H5 a5 h5=>?_
   refine nbI fun H6 e6 hb6 x6 s6=>?_
   have a6:=a5.grow x6
   refine a6.madeK (n:=⟨26,s,bs [],bs [],0,0⟩) hb6 (by simp) (by have:=a6.lim;simp[sumL];omega) (by simp) fun w H7 a7 hw hbw=>?_
   have hw':w.2.1=1+(tx.2.1+y.2.1):=by simpa [sumL] using hw
   exact a7.retQ hb hbw (by omega) (by omega) fun h=>by have h5:=h5 h;have h4:σ4.at_=σ2.at_+1+1:=(h4 h5.1).2.2.1;omega
  have n3: ¬isW wScalar' R=true:=by have h':isW wScalar' R=false:=h3;rw[h'];simp
  refine fkI (fun h4=>?_) (fun h4=>?_)
  ·have h4':isW wType' R=true:=h4
   exact(a3.of (g':=gObject n) fun _ _ res hr=>by rw[hrt] at hr;unfold gD2;rw[if_neg n0,if_neg n1,if_neg n2,if_neg n3,if_pos h4'];exact hr).goT (Bf:=bV n+10060) hb (objectF hn _ (by exact hb2) (by exact dn) tx H H3 a3.sp sp.lt a3.ext.size hbt htl1) (by omega) hlt3
  have n4: ¬isW wType' R=true:=by have h':isW wType' R=false:=h4;rw[h'];simp
  refine fkI (fun h5=>?_) (fun h5=>?_)
  ·have h5':isW wInterface' R=true:=h5
   refine(a3.of (g':=gThen gName (fun r=>if isW wImplements' r=true then none else gThen (gDirs n) (gFields n) r)) fun _ _ res hr=>?_).name fun s σ4 H4 a4 h4 _=>?_
   ·rw[hrt] at hr
    unfold gD2;rw[if_neg n0,if_neg n1,if_neg n2,if_neg n3,if_neg n4,if_pos h5']
    exact hr
   refine a4.orWord (w:=wImplements') (gThen (gDirs n) (gFields n)) (fun hw res hr=>by rw[if_neg (by rw[hw];decide)];exact hr) fun u2 H5 a5=>?_
   refine a5.call (directivesF hn _ (ddir a5)) fun y σ6 H6 a6 h6=>?_
   refine a6.last.call (fieldsF hn _ (ddir a6)) fun y2 σ7 H7 a7 h7=>?_
   refine nbI fun H8 e8 hb8 x8 s8=>?_
   have a8:=a7.grow x8
   refine a8.madeK (n:=⟨31,s,bs [],bs [],0,0⟩) hb8 (by simp) (by have:=a8.lim;simp[sumL];omega) (by simp) fun w H9 a9 hw hbw=>?_
   have hw':w.2.1=1+(tx.2.1+(y.2.1+y2.2.1)):=by simpa [sumL] using hw
   exact a9.retQ hb hbw (by omega) (by omega) fun h=>by have h7:=h7 h;have h6:=h6 h7.1;have h4:σ4.at_=σ2.at_+1+1:=(h4 h6.1).2.2.1;have h6':σ4.at_≤σ6.at_:=h6.2;omega
  have n5: ¬isW wInterface' R=true:=by have h':isW wInterface' R=false:=h5;rw[h'];simp
  refine fkI (fun h6=>?_) (fun h6=>?_)
  ·have h6':isW wUnion' R=true:=h6
   exact(a3.of (g':=gUnion n) fun _ _ res hr=>by rw[hrt] at hr;unfold gD2;rw[if_neg n0,if_neg n1,if_neg n2,if_neg n3,if_neg n4,if_neg n5,if_pos h6'];exact hr).goT (Bf:=bV n+10060) hb (unionF hn _ (by exact hb2) (by exact dn) tx H H3 a3.sp sp.lt a3.ext.size hbt htl1) (by omega) hlt3
  have n6: ¬isW wUnion' R=true:=by have h':isW wUnion' R=false:=h6;rw[h'];simp
  refine fkI (fun h7=>?_) (fun h7=>?_)
  ·have h7':isW wEnum' R=true:=h7
   exact(a3.of (g':=gEnum n) fun _ _ res hr=>by rw[hrt] at hr;unfold gD2;rw[if_neg n0,if_neg n1,if_neg n2,if_neg n3,if_neg n4,if_neg n5,if_neg n6,if_pos h7'];exact hr).goT (Bf:=bV n+10060) hb (enumF hn _ (by exact hb2) (by exact dn) tx H H3 a3.sp sp.lt a3.ext.size hbt htl1) (by omega) hlt3
  have n7: ¬isW wEnum' R=true:=by have h':isW wEnum' R=false:=h7;rw[h'];simp
  refine fkI (fun h8=>?_) (fun h8=>?_)
  ·have h8':isW wInput' R=true:=h8
   refine(a3.of (g':=gThen gName (gThen (gDirs n) (gInputs n 12 14))) fun _ _ res hr=>?_).name fun s σ4 H4 a4 h4 _=>?_
   ·rw[hrt] at hr
    unfold gD2;rw[if_neg n0,if_neg n1,if_neg n2,if_neg n3,if_neg n4,if_neg n5,if_neg n6,if_neg n7,if_pos h8']
    exact hr
   refine a4.call (directivesF hn _ (ddir a4)) fun y σ6 H6 a6 h6=>?_
   refine a6.last.call (inputsF (o:=12) (c:=14) (by decide) (by decide) hn _ (ddir a6)) fun y2 σ7 H7 a7 h7=>?_
   refine nbI fun H8 e8 hb8 x8 s8=>?_
   have a8:=a7.grow x8
   refine a8.madeK (n:=⟨36,s,bs [],bs [],0,0⟩) hb8 (by simp) (by have:=a8.lim;simp[sumL];omega) (by simp) fun w H9 a9 hw hbw=>?_
   have hw':w.2.1=1+(tx.2.1+(y.2.1+y2.2.1)):=by simpa [sumL] using hw
   exact a9.retQ hb hbw (by omega) (by omega) fun h=>by have h7:=h7 h;have h6:=h6 h7.1;have h4:σ4.at_=σ2.at_+1+1:=(h4 h6.1).2.2.1;omega
  have n8: ¬isW wInput' R=true:=by have h':isW wInput' R=false:=h8;rw[h'];simp
  refine fkI (fun h9=>?_) (fun h9=>?_)
  ·have h9':isW wDirective' R=true:=h9
   exact(a3.of (g':=gDirDef n) fun _ _ res hr=>by rw[hrt] at hr;unfold gD2;rw[if_neg n0,if_neg n1,if_neg n2,if_neg n3,if_neg n4,if_neg n5,if_neg n6,if_neg n7,if_neg n8,if_pos h9'];exact hr).goT (Bf:=bV n+10060) hb (definedF hn _ (by exact hb2) (by exact dn) tx H H3 a3.sp sp.lt a3.ext.size hbt htl1) (by omega) hlt3
  have n9: ¬isW wDirective' R=true:=by have h':isW wDirective' R=false:=h9;rw[h'];simp
  refine fkI (fun h10=>?_) (fun h10=>⟨rfl,?_⟩)
  ·have h10':isW wExtend' R=true:=h10
   refine a3.orNot (w:=wType') (fun r=>if isW wType' r=true then gObject n r.tail else some (false,r)) (fun hw res hr=>?_) fun u2 H5 a5=>?_
   ·dsimp only at hr hw
    rw[hrt] at hr hw
    rw[if_pos hw] at hr
    unfold gD2;rw[if_neg n0,if_neg n1,if_neg n2,if_neg n3,if_neg n4,if_neg n5,if_neg n6,if_neg n7,if_neg n8,if_neg n9,if_pos h10']
    unfold gExtend
    rw[if_pos hw]
    exact hr
   refine a5.word wType' (fkI (fun hw=>a5.failQ hb (fun _ _=>?_) (by omega)) (fun hw=>?_))
   ·have hw':isW wType' (E.rest (σ2.at_+1))=false:=by simpa using hw
    dsimp only
    rw[if_neg (by rw[hw'];decide)]
   have hw':isW wType' (E.rest (σ2.at_+1))=true:=by simpa using hw
   refine a5.next (gThen (gObject n) gEnd) (by dsimp only;rw[isW_kd hw'];decide) (fun _ _ res hr=>?_) fun H6 a6=>?_
   ·dsimp only at hr⊢
    rw[if_pos hw',rest_tail,←gThen_end (gObject n)]
    exact hr
   have a6n:=a6.noK
   refine a6n.callH (Bf:=bV n+10060) (objectF hn _ (by exact hb2) (by show σ2.deep+n=60;rw[hd2];exact hd) (none,0,0) H H6 a6.sp sp.lt a6.ext.size Born.nil (Nat.zero_le _)) fun y σ7 H7 a7 h7=>?_
   refine nbI fun H8 e8 hb8 x8 s8=>?_
   have a8:=a7.grow x8
   refine a8.madeK (n:=⟨39,bs [],bs [],bs [],0,0⟩) hb8 (by simp) (by have:=a8.lim;simp[sumL];omega) (by simp) fun w H9 a9 hw hbw=>?_
   have hw':w.2.1=1+y.2.1:=by simpa [sumL] using hw
   exact a9.retQ hb hbw (by omega) (by omega) fun h=>by have h7:σ2.at_+1+1≤σ7.at_:=(h7 h).2;omega
  ·have n10: ¬isW wExtend' R=true:=by have h':isW wExtend' R=false:=h10;rw[h'];simp
   unfold gD2;rw[if_neg n0,if_neg n1,if_neg n2,if_neg n3,if_neg n4,if_neg n5,if_neg n6,if_neg n7,if_neg n8,if_neg n9,if_neg n10]
 ·rintro⟨b61,_⟩ H4 ⟨rfl,hnone⟩
  refine a3.back' (by dsimp only;omega) (fun _ _=>?_) fun σ5 H5 hb5 a5=>a5.retQ (y:=(none,0,0)) hb Born.nil (Nat.zero_le _) (by omega) fun h=>not_bad hb5 h
  dsimp only
  rw[hnone,Nat.add_sub_cancel,hR2]
def σz:St:=⟨0,0,0,false,false⟩
def DocS (E:SEnv) (A:Heap) (v:Value) (H:Heap):Prop:= ∃(y:Sli) (σ:St),v= .slice y.1 y.2.1 y.2.2∧Ext [E.p] A H∧SP E H σ∧(σ.unsure=false→ ∀G:Bool×List PTk→Prop,(∀res,gDocument (E.rest 0)=some res→G res)→G (E.res σ))
theorem documentF {E:SEnv} {H:Heap} (sp:SP E H σz):Fn PP fq9 (spArg E) H (DocS E H):=by
 have hnn:=sp.n
 refine spDocument.enter _ H _ ?_
 unfold spDocument.W
 have hb:σz.bad=false:=rfl
 -- what is done at the end
 have last: ∀ {A C:Heap} {g g':Gr} {B m lo:Nat} {F:Heap→Prop} {ks:List Sli} {σ:St} {z:Sli} {l:List Sli} {D H':Heap},Acc E A C σz g σz.deep g' B m lo F ks σ H'→A=H→g=gDocument→KM A D H' z l→sumL l≤500000→l.length≤2000→(z.2.1≠0→σ.bad=false→ ∀res,gEnd (E.rest σ.at_)=some res→g' (E.rest σ.at_)=some res)→
  forkB (((z.2.1:Nat):Int)==0)
  (storeW H' ⟨E.p,5,none⟩ [(.bool true)] fun H19=>
    callW PP fq13 #[(.pointer (some ⟨E.p,0,none⟩))] H19 pSlc fun(x20:(Option Addr×Nat×Nat)) H21=>
    retK (some [(.slice x20.1 x20.2.1 x20.2.2)]) H21 (DocS E H))
  (callW PP fq14 #[(.agg #[(.int .i64 1),(.string (bs [])),(.string (bs [])),(.string (bs [])),(.int .i64 0),(.int .i64 0)]),(.slice z.1 z.2.1 z.2.2)] H' pSlc fun(x22:(Option Addr×Nat×Nat)) H23=>
    retK (some [(.slice x22.1 x22.2.1 x22.2.2)]) H23 (DocS E H)):=by
  intro A C g g' B m lo F ks σ z l D H' a hA hg hz hs hl he
  subst hA hg
  refine fkI (fun h=>?_) (fun h=>?_)
  ·refine a.mark (fun l=>some (false,l)) (fun _=>rfl) (fun h=>by cases h) fun H2 a2=>?_
   refine a2.fail (fun _ _=>rfl) fun H3 a3=>rkI ⟨_,_,rfl,a3.ext,a3.sp,fun hu=>?_⟩
   have:(St.fail {σ with unsure:=true}).unsure=true:=(mono_fail _).un rfl
   rw[this] at hu;cases hu
  ·have h':z.2.1≠0:=by simpa using h
   have a2:=a.of (g':=gEnd) fun h1 _=>he h' h1
   refine a2.made (n:=⟨1,bs [],bs [],bs [],0,0⟩) hz.slc.1 hz.slc.2 (by omega) (by omega) fun w H3 a3 hw hbw=>?_
   exact rkI ⟨w,σ,rfl,a3.ext,a3.sp,fun hu G hG=>(a3.acc G hG).fin hu⟩
 by_cases hE:E.ts.length=0
 ·refine⟨fun z H'=>z=((none,0,0),())∧H'=H,fun _ _=>0,⟨rfl,rfl⟩,?_⟩
  rintro _ H' ⟨rfl,rfl⟩
  refine⟨false,lcO sp.obj rfl,fkI (fun _=>?_) (fun h=>by cases h)⟩
  refine⟨((0:Nat):Int),lcO sp.obj rfl,(E.ta,E.ts.length,E.tc),lcO sp.obj rfl,fkI (fun h=>by simp[hE] at h) (fun _=>?_)⟩
  exact last (z:=(none,0,0)) (Acc.start (g:=gDocument) sp hb) rfl rfl (KM.nil H' H' _) (by simp[sumL]) (by simp) fun h=>absurd rfl h
 have a0:Acc E H H σz gDocument σz.deep gDocument 2000 0 σz.at_ (fun _=>True) [] σz H:=Acc.start sp hb
 have hB:bS 60=365820:=rfl
 have a1:=((a0.of (g':=gDocGo 60 (E.ts.length+1)) fun _ _ res hr=>by
  have hl:=rest_length E 0
  unfold gDocument
  have hne:E.rest σz.at_≠ []:=fun h=>by have h':E.rest 0=[]:=h;rw[h'] at hl;simp at hl;omega
  rw[if_neg hne,show(E.rest σz.at_).length=E.ts.length from by rw[rest_length];rfl]
  exact hr).leB (B':=379930) (by omega)).setF (F':=fun G=>KM H H G (none,0,0) []∧True) ⟨KM.nil _ _ _,trivial⟩ fun G G' x h=>⟨KM.stable a0.p a0.p G G' x h.1,trivial⟩
 refine Acc.loop (Y:=List Sli) [] (fun f=>gDocGo 60 f) (fun z l G=>KM H H G z.1 l∧True) (fun z l _ f m=>sumL l≤m∧l.length+f≤1002) a1 ⟨by simp[sumL],by simp;omega⟩ (fun _=>by omega) ?_
 rintro⟨z,_⟩ l σ1 H1 f1 m1 lo1 next a2 ⟨hs1,hs2⟩ hf1 hnext
 have hz:=a2.fr.1
 dsimp only at hz
 have hlim:=a2.lim
 have hle:=a2.sp.le
 have exitK:(σ1.bad=false→E.ts.length≤σ1.at_)→(z.2.1≠0→σ1.bad=false→ ∀res,gEnd (E.rest σ1.at_)=some res→gDocGo 60 f1 (E.rest σ1.at_)=some res):=by
  intro h _ hb1 res hr
  have hr0:=rest_ge (E:=E) (h hb1)
  obtain⟨f',rfl⟩: ∃f',f1=f'+1:=⟨f1 -1,by have:=hf1 hb1;omega⟩
  rw[hr0] at hr⊢
  exact hr
 refine⟨σ1.bad,lcO a2.sp.obj rfl,fkI (fun h=>?_) (fun h=>?_)⟩
 ·have hb1:σ1.bad=false:=by simpa using h
  refine⟨(σ1.at_:Int),lcO a2.sp.obj rfl,(E.ta,E.ts.length,E.tc),lcO a2.sp.obj rfl,fkI (fun hlt=>?_) (fun hge=>?_)⟩
  ·have hlt':σ1.at_<E.ts.length:=by simp at hlt;omega
   obtain⟨f',rfl⟩: ∃f',f1=f'+1:=⟨f1 -1,by have:=hf1 hb1;omega⟩
   have hd1:=(a2.ok hb1).1
   have a3:=(a2.fresh hb1 (Nat.le_refl 2000)).of (g':=gThen (gDefinition 60) (gDocGo 60 f')) fun _ _ res hr=>by
    have hne:E.rest σ1.at_≠ []:=by rw[rest_lt hlt'];simp
    show(if E.rest σ1.at_=[] then _ else _)=_
    rw[if_neg hne];exact hr
   refine(definitionF (n:=60) (Nat.le_refl _) σ1 hb1 (by rw[hd1];rfl) a3.sp).mono ?_
   rintro _ H2 ⟨y,σ2,rfl,o,hp⟩
   refine⟨y,rfl,?_⟩
   have hat:=a3.at_le
   have hl2:=o.l2
   have a4:Acc E H H1 σz gDocument σz.deep (gDocGo 60 f') 379930 (m1+y.2.1) (σ1.at_+1) (fun G=>KM H H G z l∧True) [] σ2 H2:=by
    refine a3.move o.ext o.sp o.mono.un (fun h=>?_) ?_ (by omega) fun G hi=>hi.step o
    ·obtain⟨h1,h2,h3,h4⟩:=a3.ok hb1
     obtain⟨h5,h6⟩:=o.mono.ok h
     have h7:=o.l1 h
     have h8:=hp h
     exact⟨h5.trans h1,by omega,by omega,by omega⟩
    ·obtain⟨h1,h2,h3,h4⟩:=a3.ok hb1
     omega
   have hby:Born H1 H2 (NewsOk y):=o.nodes
   refine a4.pushI hz a2.ext.size a2.p hby (by omega) (fun _ _=>trivial) (fun _ _ _ _=>trivial) fun ad cc H3 a5=>?_
   exact hnext _ (l++[y]) σ2 H3 f' _ _ a5.rebase ⟨by rw[sumL_snoc];omega,by simp;omega⟩ (fun h=>by have:=hf1 hb1;have:=hp h;omega) hb1 hp
  ·exact last (z:=z) a2 rfl rfl hz (by omega) (by omega) (exitK fun _=>by simp at hge;omega)
 ·have hb1:σ1.bad=true:=by simpa using h
  exact last (z:=z) a2 rfl rfl hz (by omega) (by omega) (exitK fun h=>not_bad hb1 h)
def RefS (s:ByteArray) (A:Heap) (v:Value) (H:Heap):Prop:=Ext [] A H∧ ∃(place:Int) (sure:Bool),v= .tuple #[.int .i64 place,.bool sure]∧
 (sure=true→ ∃(ts:List Tk) (r:List PTk),TokFrom s 0 ts∧ts.length≤s.size∧gDocument (ts.map Tk.p)=some (false,r)∧place=((startOf s r:Nat):Int)∧startOf s r≤s.size)
theorem tkFull_le {s:ByteArray} {t:Tk} (h:TkFull s t):t.start≤s.size:=by
 have st: ∀(p:Nat) (q:ByteArray),startsM s p q=true→p≤s.size:=fun p q h=>by
  unfold startsM at h
  have:=(Bool.and_eq_true _ _).mp h
  have h1:p+q.size≤s.size:=by simpa using this.1
  omega
 cases h with
 |dots p h1=>exact st p _ h1
 |sign p h1 _=>exact Nat.le_of_lt h1
 |name p e h1 h2 _ _ _=>dsimp only;omega
 |num k p e _ _ h1 h2 _ _=>dsimp only;omega
 |str v p e h1 _ _ _=>exact Nat.le_of_lt h1
 |blk v p e h1 _=>exact st p _ h1
theorem tokFrom_le {s:ByteArray} {p:Nat} {ts:List Tk} (h:TokFrom s p ts): ∀t∈ts,t.start≤s.size:=by
 induction h with
 |done=>intro t h;cases h
 |white _ _ _ _ _ ih=>exact ih
 |comment _ _ _ _ _ _ _ ih=>exact ih
 |tok t l h1 _ ih=>
  intro t' h
  rcases List.mem_cons.1 h with h|h
  ·rw[h];exact tkFull_le h1
  ·exact ih t' h
theorem RefusedAt_ok (s:ByteArray) (H:Heap) (hs:s.size≤1000) (ha:Ascii s):Fn PP fq6 #[.string s] H (RefS s H):=by
 refine RefusedAt.enter s H _ ?_
 unfold RefusedAt.W
 refine(LexR_ok s H (by omega) ha).mono ?_
 rintro _ H1 ⟨ta,n,tc,ok,sure,ts,rfl,x1,own,htok,hn⟩
 refine⟨((ta,n,tc),ok,sure),rfl,?_⟩
 refine⟨(!ok||!sure,()),fkI (fun h=>⟨?_,rfl⟩) (fun h=>⟨?_,rfl⟩),?_⟩
 ·have h':ok=false:=by simpa using h
  rw[h'];rfl
 ·have h':ok=true:=by simpa using h
  rw[h'];rfl
 refine fkI (fun _=>rkI ⟨x1,0,false,rfl,fun h=>by cases h⟩) (fun h=>?_)
 have hos:ok=true∧sure=true:=by
  have h':(!ok||!sure)=false:=h
  revert h'
  cases ok<;>cases sure<;>simp
 have hlen:n=ts.length:=by
  have h1:=own.1
  have h2:(tkL ts).length=ts.length*4:=by
   clear own htok h1
   induction ts with
   |nil=>rfl
   |cons t r ih=>
    have e:tkL (t::r)=t.vals++tkL r:=rfl
    rw[e,List.length_append,ih]
    show 4+r.length*4=(r.length+1)*4
    omega
  omega
 subst hlen
 have hn':=hn hos.1
 refine nbI fun H2 e2 hb2 x2 s2=>?_
 have own2:=own.ext x2 (by simp)
 have sp:SP ⟨H1.size,ts,ta,tc⟩ H2 σz:=⟨hb2,own2,fun h=>by
  obtain⟨cur,_,hg,_⟩:=own.row h
  have:=lt_of_get hg
  dsimp only at this;omega,Nat.zero_le _,by show ts.length≤1000;omega,fun _=>⟨by decide,by decide⟩⟩
 refine(documentF sp).mono ?_
 rintro _ H3 ⟨y,σ,rfl,x3,sp3,hdoc⟩
 refine⟨y,rfl,?_⟩
 have xA:Ext [] H H3:=by
  have x2':=x1.trans x2
  refine⟨by have:=x2'.size;have:=x3.size;omega,fun k o hk _=>x3.get _ _ (x2'.get _ _ hk (by simp)) ?_⟩
  have:=lt_of_get hk
  have:=x1.size
  simp;omega
 refine⟨(!σ.bad||σ.unsure,()),⟨σ.bad,lcO sp3.obj rfl,fkI (fun h=>⟨?_,rfl⟩) (fun h=>⟨σ.unsure,lcO sp3.obj rfl,?_,rfl⟩)⟩,?_⟩
 ·have h':σ.bad=false:=by simpa using h
  rw[h'];rfl
 ·have h':σ.bad=true:=by simpa using h
  rw[h'];rfl
 refine fkI (fun _=>rkI ⟨xA,0,false,rfl,fun h=>by cases h⟩) (fun h=>?_)
 have hbu:σ.bad=true∧σ.unsure=false:=by
  have h':(!σ.bad||σ.unsure)=false:=h
  revert h'
  cases σ.bad<;>cases σ.unsure<;>simp
 have hd:=hdoc hbu.2
 have hrest:SEnv.rest ⟨H1.size,ts,ta,tc⟩ 0=ts.map Tk.p:=rfl
 have hres:SEnv.res ⟨H1.size,ts,ta,tc⟩ σ=(false,SEnv.rest ⟨H1.size,ts,ta,tc⟩ σ.wrong):=by unfold SEnv.res;rw[if_pos hbu.1]
 have hg:gDocument (ts.map Tk.p)=some (false,SEnv.rest ⟨H1.size,ts,ta,tc⟩ σ.wrong):=by
  rw[hrest] at hd
  cases hgd:gDocument (ts.map Tk.p) with
  |none=>exact(hd (fun _=>False) (fun res h=>by rw[hgd] at h;cases h)).elim
  |some r0=>
   have:=hd (fun r=>r=r0) (fun res h=>by rw[hgd] at h;exact(Option.some.inj h).symm)
   rw[←this,hres]
 refine⟨(σ.wrong:Int),lcO sp3.obj rfl,fkI (fun hlt=>?_) (fun hge=>?_)⟩
 ·have hlt':σ.wrong<ts.length:=by simp at hlt;omega
  refine⟨(σ.wrong:Int),lcO sp3.obj rfl,?_⟩
  have hc:=sp3.cell (i:=σ.wrong) hlt' (j:=2) (o:=offOf ta+((σ.wrong:Nat):Int).toNat*4+2) (by omega) (by dsimp only;omega) (v:= .int .i64 ts[σ.wrong].start) rfl
  refine⟨hc.1,(ts[σ.wrong].start:Int),hc.2,rkI ⟨xA,_,true,rfl,fun _=>⟨ts,_,htok hos.1 hos.2,hn',hg,?_⟩⟩⟩
  rw[rest_lt (E:=⟨H1.size,ts,ta,tc⟩) hlt']
  exact⟨rfl,tokFrom_le (htok hos.1 hos.2) _ (List.getElem_mem hlt')⟩
 ·have hge':ts.length≤σ.wrong:=by simp at hge;omega
  refine rkI ⟨xA,_,true,rfl,fun _=>⟨ts,_,htok hos.1 hos.2,hn',hg,?_⟩⟩
  rw[rest_ge (E:=⟨H1.size,ts,ta,tc⟩) hge']
  exact⟨rfl,Nat.le_refl _⟩
end Go.Vx
