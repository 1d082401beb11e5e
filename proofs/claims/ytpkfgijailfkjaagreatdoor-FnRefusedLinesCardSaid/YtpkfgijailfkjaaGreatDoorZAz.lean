/- A part of the proof of what the last text of this claim says: SP13, SP14, SP15, PX2, PX3, PX4, PX5. Conditions: none. -/
import Derived.Test.YtpkfgijailfkjaaGreatDoorZAf
import Derived.Test.YtpkfgijailfkjaaGreatDoorZAu
import Derived.Test.YtpkfgijailfkjaaGreatDoorZAy
set_option maxRecDepth 10000
namespace Go.Vx
open Go Go.Proofs
theorem OutS.leaf {E:SEnv} {σ:St} {B:Nat} {g:Gr} {H H4 H5:Heap} {y:Sli} (x4:Ext [E.p] H H4) (sp4:SP E H4 {σ with at_:=σ.at_+1}) (x5:Ext [] H4 H5) (hl:y.2.1=1) (hb:Born H4 H5 (NewsOk y)) (hB:1≤B)
 (hg:σ.bad=false→g (E.rest σ.at_)=some (true,E.rest (σ.at_+1))):OutS E σ B g H y {σ with at_:=σ.at_+1} H5 where
 ext:=x4.trans x5.of_nil
 sp:=sp4.grow x5
 nodes:=fun G hG=>hb G fun k o hk ho=>hG k o (by have:=x4.size;omega) ho
 mono:=mono_next σ
 l0:=fun _=>by omega
 l1:=fun _=>by dsimp only;omega
 l2:=by omega
 gr:=fun _ h1 h2 _=>res_next h1 fun hb=>h2 hb _ (hg hb)
theorem OutS.no {E:SEnv} {σ:St} {B:Nat} {g:Gr} {H H':Heap} (x:Ext [E.p] H H') (sp:SP E H' σ.fail) (hg:σ.bad=false→g (E.rest σ.at_)=some (false,E.rest σ.at_)):OutS E σ B g H (none,0,0) σ.fail H' where
 ext:=x
 sp:=sp
 nodes:=Born.nil
 mono:=mono_fail σ
 l0:=fun _=>Nat.zero_le _
 l1:=fun _=>Nat.zero_le _
 l2:=Nat.zero_le _
 gr:=fun G h1 h2 _=>by
  unfold SEnv.res
  rw[if_pos (fail_bad σ)]
  rcases bad_or σ with hb|hb
  ·rw[((mono_fail σ).bad hb).2];exact h1 hb
  ·have hf:σ.fail= {σ with bad:=true,wrong:=σ.at_}:=by unfold St.fail;rw[if_neg (by rw[hb];decide)]
   rw[hf]
   exact h2 hb _ (hg hb)
structure Acc (E:SEnv) (A C:Heap) (σ0:St) (g0:Gr) (d:Int) (g:Gr) (B m lo:Nat) (F:Heap→Prop) (ks:List Sli) (σ:St) (H:Heap):Prop where
 p:E.p<A.size
 t: ∀q,rowOf E.ta=some q→q<A.size
 ext:Ext [E.p] A H
 sp:SP E H σ
 un:σ0.unsure=true→σ.unsure=true
 ok:σ.bad=false→σ.deep=d∧σ0.at_≤lo∧lo≤σ.at_∧m≤2*(σ.at_ -σ0.at_)
 lim:m≤B
 base:2000≤B
 acc: ∀G:Bool×List PTk→Prop,(∀res,g0 (E.rest σ0.at_)=some res→G res)→Inv E G g σ
 fr:F H
 fst: ∀G G',Ext [E.p] G G'→F G→F G'
 cz:A.size≤C.size
 cx:Ext [E.p] C H
 kids: ∀b∈ks,Born C H (NewsOk b)
theorem Born.ext {A H H':Heap} {P:Heap→Prop} {p:Nat} (h:Born A H P) (x:Ext [p] H H') (hp:p<A.size):Born A H' P:=
 fun G hG=>h G fun k o hk ho=>hG k o hk (x.get _ _ ho (by simp;omega))
theorem Born.older {A B H:Heap} {P:Heap→Prop} (h:Born B H P) (x:A.size≤B.size):Born A H P:=
 fun G hG=>h G fun k o hk ho=>hG k o (by omega) ho
theorem SP.trow {E:SEnv} {H:Heap} {σ:St} (sp:SP E H σ): ∀q,rowOf E.ta=some q→q<H.size:=by
 intro q hq
 obtain⟨cur,_,hg,_⟩:=sp.tok.row hq
 exact lt_of_get hg
theorem not_bad {σ:St} {P:Prop} (h:σ.bad=true) (h':σ.bad=false):P:=by rw[h] at h';cases h'
section
variable {E:SEnv} {A C:Heap} {σ0:St} {g0:Gr} {d:Int} {g:Gr} {B m lo:Nat} {F:Heap→Prop} {ks:List Sli} {σ:St} {H:Heap}
theorem Acc.ch (a:Acc E A C σ0 g0 d g B m lo F ks σ H):C.size≤H.size:=a.cx.size
theorem Acc.start (sp:SP E H σ) (hb:σ.bad=false):Acc E H H σ g σ.deep g 2000 0 σ.at_ (fun _=>True) [] σ H where
 p:=sp.lt
 t:=sp.trow
 ext:=Ext.refl _ _
 sp:=sp
 un:=id
 ok:=fun _=>⟨rfl,Nat.le_refl _,Nat.le_refl _,Nat.zero_le _⟩
 lim:=Nat.zero_le _
 base:=Nat.le_refl _
 acc:=fun _ hG=>Inv.start (fun h=>not_bad h hb) fun _=>hG
 fr:=trivial
 fst:=fun _ _ _ _=>trivial
 cz:=Nat.le_refl _
 cx:=Ext.refl _ _
 kids:=fun _ h=>by cases h
theorem Acc.move (a:Acc E A C σ0 g0 d g B m lo F ks σ H) {g':Gr} {B' m' lo':Nat} {σ':St} {H':Heap} (x:Ext [E.p] H H') (sp:SP E H' σ') (hu:σ.unsure=true→σ'.unsure=true)
 (hok:σ'.bad=false→σ'.deep=d∧σ0.at_≤lo'∧lo'≤σ'.at_∧m'≤2*(σ'.at_ -σ0.at_)) (hl:m'≤B') (hB:B≤B') (hi: ∀G,Inv E G g σ→Inv E G g' σ'):Acc E A C σ0 g0 d g' B' m' lo' F ks σ' H' where
 p:=a.p
 t:=a.t
 ext:=a.ext.trans x
 sp:=sp
 un:=fun h=>hu (a.un h)
 ok:=hok
 lim:=hl
 base:=Nat.le_trans a.base hB
 acc:=fun G hG=>hi G (a.acc G hG)
 fr:=a.fst _ _ x a.fr
 fst:=a.fst
 cz:=a.cz
 cx:=a.cx.trans x
 kids:=fun b hb=>(a.kids b hb).ext x (by have:=a.p;have:=a.cz;omega)
theorem Acc.grow (a:Acc E A C σ0 g0 d g B m lo F ks σ H) {H':Heap} (x:Ext [] H H'):Acc E A C σ0 g0 d g B m lo F ks σ H':=
 a.move x.of_nil (a.sp.grow x) id a.ok a.lim (Nat.le_refl _) fun _ h=>h
theorem Acc.of (a:Acc E A C σ0 g0 d g B m lo F ks σ H) {g':Gr} (hg:σ.bad=false→σ.unsure=false→ ∀res,g' (E.rest σ.at_)=some res→g (E.rest σ.at_)=some res):Acc E A C σ0 g0 d g' B m lo F ks σ H:=
 {a with acc:=fun G hG=>(a.acc G hG).of hg}
theorem Acc.leB (a:Acc E A C σ0 g0 d g B m lo F ks σ H) {B':Nat} (h:B≤B'):Acc E A C σ0 g0 d g B' m lo F ks σ H:=
 {a with lim:=Nat.le_trans a.lim h,base:=Nat.le_trans a.base h}
theorem Acc.setF (a:Acc E A C σ0 g0 d g B m lo F ks σ H) {F':Heap→Prop} (h:F' H) (hs: ∀G G',Ext [E.p] G G'→F' G→F' G'):Acc E A C σ0 g0 d g B m lo F' ks σ H:=
 {a with fr:=h,fst:=hs}
theorem Acc.setK (a:Acc E A C σ0 g0 d g B m lo F ks σ H) {ks':List Sli} (h: ∀b∈ks',Born C H (NewsOk b)):Acc E A C σ0 g0 d g B m lo F ks' σ H:=
 {a with kids:=h}
theorem Acc.noK (a:Acc E A C σ0 g0 d g B m lo F ks σ H):Acc E A C σ0 g0 d g B m lo F [] σ H:=a.setK fun _ h=>by cases h
theorem Acc.rebase (a:Acc E A C σ0 g0 d g B m lo F ks σ H):Acc E A H σ0 g0 d g B m lo F [] σ H:=
 {a with cz:=a.ext.size,cx:=Ext.refl _ _,kids:=fun _ h=>by cases h}
theorem Acc.at_le (a:Acc E A C σ0 g0 d g B m lo F ks σ H):σ.at_≤1000:=by have:=a.sp.le;have:=a.sp.n;omega
theorem Acc.fresh (a:Acc E A C σ0 g0 d g B m lo F ks σ H) (hb:σ.bad=false) {B':Nat} (hB:2000≤B'):Acc E A C σ0 g0 d g B' m σ.at_ F ks σ H:=
 {a with
  ok:=fun h=>by obtain⟨h1,h2,h3,h4⟩:=a.ok h;exact⟨h1,by omega,Nat.le_refl _,h4⟩
  lim:=by obtain⟨h1,h2,h3,h4⟩:=a.ok hb;have:=a.at_le;omega
  base:=hB}
theorem Acc.less (a:Acc E A C σ0 g0 d g B m lo F ks σ H) {m':Nat} (h:m'≤m):Acc E A C σ0 g0 d g B m' lo F ks σ H:=
 {a with
  ok:=fun hb=>by obtain⟨h1,h2,h3,h4⟩:=a.ok hb;exact⟨h1,h2,h3,by omega⟩
  lim:=Nat.le_trans h a.lim}
theorem Acc.must {k:Int} (a:Acc E A C σ0 g0 d (gThen (gSign k) g) B m lo F ks σ H) (h1:k≠1) {K:Unit→Heap→Prop}
 (hk: ∀σ' H',Acc E A C σ0 g0 d g (B+2) (m+2) (lo+1) F ks σ' H'→(σ'.bad=false→σ.bad=false∧kd (E.rest σ.at_)=k∧σ'.at_=σ.at_+1)→K () H'):
 callW PP fq53 #[.pointer (some ⟨E.p,0,none⟩),.int .i64 k] H ⟨Unit,fun _=> .tuple #[]⟩ K:=by
 have hlim:=a.lim
 refine mustS a.sp h1 (fun hb hk' H1 x1 s1=>hk _ _ (a.move x1 s1 id (fun _=>?_) (by omega) (by omega) fun G hi=>hi.sign hb hk') fun _=>⟨hb,hk',rfl⟩)
  (fun hno H1 x1 s1=>hk _ _ (a.move x1 s1 (mono_fail _).un (fun h=>not_bad (fail_bad _) h) (by omega) (by omega) fun G hi=>hi.nosign hno) fun h=>not_bad (fail_bad _) h)
 obtain⟨h1,h2,h3,h4⟩:=a.ok hb
 exact⟨h1,by omega,by dsimp only;omega,by dsimp only;omega⟩
theorem Acc.name (a:Acc E A C σ0 g0 d (gThen gName g) B m lo F ks σ H) {K:ByteArray→Heap→Prop}
 (hk: ∀s σ' H',Acc E A C σ0 g0 d g (B+2) (m+2) (lo+1) F ks σ' H'→(σ'.bad=false→σ.bad=false∧kd (E.rest σ.at_)=15∧σ'.at_=σ.at_+1∧s=E.val σ.at_)→(σ'.unsure=σ.unsure∧σ.at_≤σ'.at_)→K s H'):
 callW PP fq22 #[.pointer (some ⟨E.p,0,none⟩)] H pStr K:=by
 have hlim:=a.lim
 refine nameS a.sp (fun hb hk' H1 x1 s1=>hk _ _ _ (a.move x1 s1 id (fun _=>?_) (by omega) (by omega) fun G hi=>hi.sign (k:=15) hb hk') (fun _=>⟨hb,hk',rfl,rfl⟩) ⟨rfl,Nat.le_succ _⟩)
  (fun hno H1 x1 s1=>hk _ _ _ (a.move x1 s1 (mono_fail _).un (fun h=>not_bad (fail_bad _) h) (by omega) (by omega) fun G hi=>hi.nosign (k:=15) hno) (fun h=>not_bad (fail_bad _) h) ⟨by unfold St.fail;split<;>rfl,Nat.le_of_eq (fail_at _).symm⟩)
 obtain⟨h1,h2,h3,h4⟩:=a.ok hb
 exact⟨h1,by omega,by dsimp only;omega,by dsimp only;omega⟩
theorem Acc.ahead (a:Acc E A C σ0 g0 d g B m lo F ks σ H) {g':Gr} (hg:σ.bad=false→σ.unsure=false→ ∀res,g' (E.rest (σ.at_+1))=some res→g (E.rest σ.at_)=some res) {H':Heap} (x:Ext [E.p] H H')
 (sp:SP E H' {σ with at_:=σ.at_+1}):Acc E A C σ0 g0 d g' (B+2) (m+2) (lo+1) F ks {σ with at_:=σ.at_+1} H':=by
 have hlim:=a.lim
 refine a.move x sp id (fun h=>?_) (by omega) (by omega) fun G hi hu=>⟨fun h=>(hi hu).1 h,fun hb res hr=>(hi hu).2 hb res (hg hb hu res hr)⟩
 obtain⟨h1,h2,h3,h4⟩:=a.ok h
 exact⟨h1,by omega,by dsimp only;omega,by dsimp only;omega⟩
theorem Acc.taken (a:Acc E A C σ0 g0 d g B m lo F ks σ H) {k:Int} (h1:k≠1) (g':Gr) (hg:σ.bad=false→kd (E.rest σ.at_)=k→ ∀res,g' (E.rest (σ.at_+1))=some res→g (E.rest σ.at_)=some res) {K:Bool→Heap→Prop}
 (hy:σ.bad=false→kd (E.rest σ.at_)=k→ ∀H',Acc E A C σ0 g0 d g' (B+2) (m+2) (lo+1) F ks {σ with at_:=σ.at_+1} H'→K true H') (hn:(σ.bad=true∨kd (E.rest σ.at_)≠k)→K false H):
 callW PP fq55 #[.pointer (some ⟨E.p,0,none⟩),.int .i64 k] H pBool K:=
 takenS a.sp h1 (fun hb hk H1 x1 s1=>hy hb hk H1 (a.ahead (fun _ _=>hg hb hk) x1 s1)) hn
theorem Acc.next (a:Acc E A C σ0 g0 d g B m lo F ks σ H) (g':Gr) (hk1:kd (E.rest σ.at_)≠1) (hg:σ.bad=false→σ.unsure=false→ ∀res,g' (E.rest (σ.at_+1))=some res→g (E.rest σ.at_)=some res) {K:Heap→Prop}
 (hk: ∀H',Acc E A C σ0 g0 d g' (B+2) (m+2) (lo+1) F ks {σ with at_:=σ.at_+1} H'→K H'):
 loadW H false 1 ⟨E.p,1,none⟩ (pInt .i64) fun(x:Int)=>storeW H ⟨E.p,1,none⟩ [.int .i64 (IntKind.i64.wrap (x+1))] K:=by
 have hat:=a.at_le
 have hlt:=kd_rest hk1
 refine⟨(σ.at_:Int),lcO a.sp.obj rfl,?_⟩
 dsimp only
 rw[wrap1 (k:=σ.at_) (by omega)]
 refine swI a.sp.obj (by simp) rfl rfl fun H1 e1 h1 x1 s1=>?_
 exact hk H1 (a.ahead hg x1 (a.sp.set x1 h1 (by dsimp only;omega) a.sp.deep))
theorem Acc.mark (a:Acc E A C σ0 g0 d g B m lo F ks σ H) {u:Bool} (g':Gr) (hu:σ.unsure=true→u=true) (hg:u=false→σ.bad=false→ ∀res,g' (E.rest σ.at_)=some res→g (E.rest σ.at_)=some res) {K:Heap→Prop}
 (hk: ∀H',Acc E A C σ0 g0 d g' B m lo F ks {σ with unsure:=u} H'→K H'):storeW H ⟨E.p,5,none⟩ [.bool u] K:=by
 refine a.sp.unsure fun H1 x1 s1=>hk H1 (a.move x1 s1 hu a.ok a.lim (Nat.le_refl _) fun G hi hu'=>?_)
 have hs:σ.unsure=false:=by
  cases h:σ.unsure with
  |false=>rfl
  |true=>exact absurd ((hu h).symm.trans hu') (by decide)
 exact⟨(hi hs).1,fun hb res hr=>(hi hs).2 hb res (hg hu' hb res hr)⟩
theorem Acc.fail (a:Acc E A C σ0 g0 d g B m lo F ks σ H) (hg:σ.bad=false→σ.unsure=false→g (E.rest σ.at_)=some (false,E.rest σ.at_)) {K:Sli→Heap→Prop}
 (hk: ∀H',Acc E A C σ0 g0 d gEnd B m lo F ks σ.fail H'→K (none,0,0) H'):callW PP fq13 #[.pointer (some ⟨E.p,0,none⟩)] H pSlc K:=by
 refine failS a.sp fun H1 x1 s1=>hk H1 (a.move x1 s1 (mono_fail _).un (fun h=>not_bad (fail_bad _) h) a.lim (Nat.le_refl _) fun G hi hu=>⟨fun _=>?_,fun h=>not_bad (fail_bad _) h⟩)
 have hu':σ.unsure=false:=unsure_back (mono_fail σ) hu
 rcases bad_or σ with hb|hb
 ·rw[((mono_fail σ).bad hb).2];exact(hi hu').1 hb
 ·have:σ.fail= {σ with bad:=true,wrong:=σ.at_}:=by unfold St.fail;rw[if_neg (by rw[hb];decide)]
  rw[this]
  exact(hi hu').2 hb _ (hg hb hu')
theorem Acc.back (a:Acc E A C σ0 g0 d g B m lo F ks σ H) (h1:1≤σ.at_) (hb:σ.bad=false) (hg:σ.unsure=false→g (E.rest σ.at_)=some (false,E.rest (σ.at_ -1))) {K:Sli→Heap→Prop}
 (hk: ∀σ' H',σ'.bad=true→Acc E A C σ0 g0 d gEnd B m lo F ks σ' H'→K (none,0,0) H'):loadW H false 1 ⟨E.p,1,none⟩ (pInt .i64) fun(x:Int)=>storeW H ⟨E.p,1,none⟩ [.int .i64 (IntKind.i64.wrap (x -1))] fun H2=>
 callW PP fq13 #[.pointer (some ⟨E.p,0,none⟩)] H2 pSlc K:=by
 have hat:=a.at_le
 have hle:=a.sp.le
 refine⟨(σ.at_:Int),lcO a.sp.obj rfl,?_⟩
 dsimp only
 have hw:IntKind.i64.wrap ((σ.at_:Int) -1)=((σ.at_ -1:Nat):Int):=by rw[i64w (by omega)];omega
 rw[hw]
 refine swI a.sp.obj (by simp) rfl rfl fun H1 e1 h1 x1 s1=>?_
 have sp1:SP E H1 {σ with at_:=σ.at_ -1}:=a.sp.set x1 h1 (by dsimp only;omega) a.sp.deep
 refine failS sp1 fun H2 x2 s2=>?_
 have hf:St.fail {σ with at_:=σ.at_ -1}= {σ with at_:=σ.at_ -1,bad:=true,wrong:=σ.at_ -1}:=by unfold St.fail;rw[if_neg (by dsimp only;rw[hb];decide)]
 rw[hf] at s2
 exact hk _ H2 rfl (a.move (x1.trans x2) s2 id (fun h=>by cases h) a.lim (Nat.le_refl _) fun G hi hu=>⟨fun _=>(hi hu).2 hb _ (hg hu),fun h=>by cases h⟩)
theorem Acc.someP (L:List PTk) {k:Int} (a:Acc E A C σ0 g0 d (fun l=>if kd l=k then some (false,L) else g l) B m lo F ks σ H) (hL:σ.bad=false→1≤σ.at_∧L=E.rest (σ.at_ -1)) {K:Unit→Heap→Prop}
 (hk: ∀σ' H',Acc E A C σ0 g0 d g B m lo F ks σ' H'→(σ'.bad=false→σ'=σ∧kd (E.rest σ'.at_)≠k)→K () H'):callW PP fq54 #[.pointer (some ⟨E.p,0,none⟩),.int .i64 k] H ⟨Unit,fun _=> .tuple #[]⟩ K:=by
 refine someS a.sp (fun hb=>(hL hb).1) (fun hb hk' H1 x1 s1=>hk _ H1 (a.move x1 s1 id (fun h=>by cases h) a.lim (Nat.le_refl _) fun G hi hu=>⟨fun _=>?_,fun h=>by cases h⟩) fun h=>by cases h)
  (fun hno=>hk _ H (a.of fun hb _ res hr=>?_) fun hb=>⟨rfl,?_⟩)
 ·refine(hi hu).2 hb _ ?_
  show(if kd (E.rest σ.at_)=k then some (false,L) else g (E.rest σ.at_))=_
  rw[if_pos hk',(hL hb).2]
 ·show(if kd (E.rest σ.at_)=k then some (false,L) else g (E.rest σ.at_))=_
  rw[if_neg (hno.resolve_left fun h=>not_bad h hb)]
  exact hr
 ·exact hno.resolve_left fun h=>not_bad h hb
theorem Acc.text (a:Acc E A C σ0 g0 d g B m lo F ks σ H) (g':Gr) (hg:kd (E.rest σ.at_)≠18→kd (E.rest σ.at_)≠19→ ∀res,g' (E.rest σ.at_)=some res→g (E.rest σ.at_)=some res) {K:Unit→Heap→Prop}
 (hk: ∀u H',Acc E A C σ0 g0 d g' B m lo F ks {σ with unsure:=u} H'→K () H'):callW PP fq59 #[.pointer (some ⟨E.p,0,none⟩)] H ⟨Unit,fun _=> .tuple #[]⟩ K:=by
 refine textS a.sp fun H1 u x1 s1 hu h18=>hk u H1 (a.move x1 s1 hu a.ok a.lim (Nat.le_refl _) fun G hi hu'=>?_)
 have hu2:u=false:=hu'
 have hs:σ.unsure=false:=by
  cases h:σ.unsure with
  |false=>rfl
  |true=>exact absurd ((hu h).symm.trans hu2) (by decide)
 refine⟨(hi hs).1,fun hb res hr=>(hi hs).2 hb res (hg (fun h=>?_) (fun h=>?_) res hr)⟩
 ·exact absurd ((h18 (.inl h)).symm.trans hu2) (by decide)
 ·exact absurd ((h18 (.inr h)).symm.trans hu2) (by decide)
theorem Acc.kind (a:Acc E A C σ0 g0 d g B m lo F ks σ H) {K:Int→Heap→Prop} (hk:K (kd (E.rest σ.at_)) H):callW PP fq19 #[.pointer (some ⟨E.p,0,none⟩),.int .i64 0] H (pInt .i64) K:=
 kindS a.sp 0 (by omega) (by rw[Nat.add_zero];exact hk)
theorem Acc.word (a:Acc E A C σ0 g0 d g B m lo F ks σ H) (w:ByteArray) {K:Bool→Heap→Prop} (hk:K (isW w (E.rest σ.at_)) H):callW PP fq28 #[.pointer (some ⟨E.p,0,none⟩),.int .i64 0,.string w] H pBool K:=
 wordS a.sp w hk
theorem Acc.call {fn:FuncId} {args:Array Value} {f:Gr} {Bf:Nat} (a:Acc E A C σ0 g0 d (gThen f g) B m lo F ks σ H) (hf:SpF E fn args σ Bf f) {K:Sli→Heap→Prop}
 (hk: ∀y σ' H',Acc E A C σ0 g0 d g (max (B+1) (2000+Bf)) (m+y.2.1) lo F (ks++[y]) σ' H'→(σ'.bad=false→σ.bad=false∧σ.at_≤σ'.at_)→K y H'):callW PP fn args H pSlc K:=by
 refine hf.call a.sp fun y H' σ' o=>hk y σ' H' ?_ (fun h=>?_)
 ·have a1:Acc E A C σ0 g0 d g (max (B+1) (2000+Bf)) (m+y.2.1) lo F ks σ' H':=by
   have hlim:=a.lim
   have hat:=a.at_le
   have h2:=o.l2
   refine a.move o.ext o.sp o.mono.un (fun h=>?_) ?_ (by omega) fun G hi=>hi.step o
   ·have hb:σ.bad=false:=by
     rcases bad_or σ with h'|h'
     ·exact not_bad (o.mono.bad h').1 h
     ·exact h'
    obtain⟨h1,h2,h3,h4⟩:=a.ok hb
    obtain⟨h5,h6⟩:=o.mono.ok h
    have h7:=o.l1 h
    exact⟨h5.trans h1,h2,by omega,by omega⟩
   ·rcases bad_or σ with hb|hb
    ·have:=o.l0 hb;omega
    ·obtain⟨h1,h2,h3,h4⟩:=a.ok hb;omega
  refine a1.setK fun b hb=>?_
  rcases List.mem_append.1 hb with hb|hb
  ·exact a1.kids b hb
  ·rw[List.mem_singleton.1 hb]
   exact o.nodes.older a.ch
 ·have hb:σ.bad=false:=by
   rcases bad_or σ with h'|h'
   ·exact not_bad (o.mono.bad h').1 h
   ·exact h'
  exact⟨hb,(o.mono.ok h).2⟩
theorem Acc.made {n:Nd} {kids:Option Addr} {kn kc:Nat} (a:Acc E A C σ0 g0 d g B m lo F ks σ H) {bs:List Sli} (hs:SlcAt H kids kn (bs.map sliV)) (hb: ∀b∈bs,NewsOk b H) (hlen:bs.length≤100000) (hsum:sumL bs≤1000000) {K:Sli→Heap→Prop}
 (hk: ∀y H',Acc E A C σ0 g0 d g B m lo F ks σ H'→y.2.1=1+sumL bs→Born C H' (NewsOk y)→K y H'):
 callW PP fq14 #[.agg #[.int .i64 n.kind,.string n.name,.string n.alias,.string n.text,.int .i64 n.flag,.int .i64 n.size],.slice kids kn kc] H pSlc K:=
 madeS hs hb hlen hsum fun y H' x hl hbn=>hk y H' (a.grow x) hl (hbn.older a.ch)
theorem slc_lit {b:Nat} {e:TypeId} {bs:List Sli} (h:H[b]?=some (.cells (bs.map sliV).toArray e)):SlcAt H (some ⟨b,0,none⟩) bs.length (bs.map sliV):=by
 refine⟨by simp,.inr ⟨b,0,_,_,_,rfl,h,fun i s hi=>?_⟩⟩
 rw[Nat.zero_add]
 simpa using hi
theorem Acc.madeK {n:Nd} {b:Nat} (a:Acc E A C σ0 g0 d g B m lo F ks σ H) (hb:H[b]?=some (.cells (ks.map sliV).toArray tq36)) (hlen:ks.length≤100000) (hsum:sumL ks≤1000000) {kn kc:Nat} (hkn:kn=ks.length) {K:Sli→Heap→Prop}
 (hk: ∀y H',Acc E A C σ0 g0 d g B m lo F ks σ H'→y.2.1=1+sumL ks→Born C H' (NewsOk y)→K y H'):
 callW PP fq14 #[.agg #[.int .i64 n.kind,.string n.name,.string n.alias,.string n.text,.int .i64 n.flag,.int .i64 n.size],.slice (some ⟨b,0,none⟩) kn kc] H pSlc K:=by
 subst hkn
 exact a.made (slc_lit hb) (fun b hb=>(a.kids b hb).self') hlen hsum hk
theorem Acc.out (a:Acc E A C σ0 g0 σ0.deep gEnd B m lo F ks σ H) (hb:σ0.bad=false) {y:Sli} (hy:Born C H (NewsOk y)) (hl:y.2.1≤m) {B':Nat} (hB:B≤B'):OutS E σ0 B' g0 A y σ H where
 ext:=a.ext
 sp:=a.sp
 nodes:=hy.older a.cz
 mono:=⟨a.un,fun h=>not_bad h hb,fun h=>by obtain⟨h1,h2,h3,h4⟩:=a.ok h;exact⟨h1,by omega⟩⟩
 l0:=fun h=>not_bad h hb
 l1:=fun h=>by obtain⟨h1,h2,h3,h4⟩:=a.ok h;omega
 l2:=by have:=a.lim;omega
 gr:=fun G _ h2 hu=>(a.acc G (h2 hb)).fin hu
end
def ndCells (k:Int) (nm al tx:ByteArray) (fl sz:Int):Obj:= .cells #[.int .i64 k,.string nm,.string al,.string tx,.int .i64 fl,.int .i64 sz] tq63
def NB (p b:Nat) (o:Obj) (G:Heap):Prop:=b≠p∧G[b]?=some o
theorem NB.ext {p b:Nat} {o:Obj}: ∀G G',Ext [p] G G'→NB p b o G→NB p b o G':=
 fun _ _ x h=>⟨h.1,x.get _ _ h.2 (by simpa using h.1)⟩
section
variable {E:SEnv} {A C:Heap} {σ0:St} {g0:Gr} {d:Int} {g:Gr} {B m lo:Nat} {F:Heap→Prop} {ks:List Sli} {σ:St} {H:Heap}
theorem Acc.node (a:Acc E A C σ0 g0 d g B m lo F ks σ H) {k:Int} {nm al tx:ByteArray} {fl sz:Int} {K:Nat→Heap→Prop}
 (hk: ∀b H',H.size≤b→Acc E A C σ0 g0 d g B m lo (fun G=>F G∧NB E.p b (ndCells k nm al tx fl sz) G) ks σ H'→K b H'):
 newB H (.cells #[.int .i64 0,.string (bs []),.string (bs []),.string (bs []),.int .i64 0,.int .i64 0] tq63) fun b H1=>
 storeW H1 ⟨b,0,none⟩ [.int .i64 k,.string nm,.string al,.string tx,.int .i64 fl,.int .i64 sz] fun H2=>K b H2:=by
 refine nbI fun H1 e1 hb1 x1 s1=>?_
 refine swI hb1 (by simp) rfl rfl fun H2 e2 hb2 x2 s2=>?_
 have hb2':H2[H.size]?=some (ndCells k nm al tx fl sz):=hb2
 have y2:Ext [] H H2:=by rw[e2];exact x1.setNew (Nat.le_refl _) _
 have hp:=a.p
 have hz:=a.ext.size
 have a2:=a.grow y2
 exact hk _ _ (Nat.le_refl _) (a2.setF ⟨a2.fr,by omega,hb2'⟩ fun G G' x h=>⟨a2.fst G G' x h.1,NB.ext G G' x h.2⟩)
theorem Acc.setN {b:Nat} {o:Obj} (a:Acc E A C σ0 g0 d g B m lo (fun G=>F G∧NB E.p b o G) ks σ H) {c:Array Value} {i:Nat} {v:Value} {o':Obj} (ho:o= .cells c tq63) (hi:i<c.size) (h1:oneL [v]=true) (ho':o'= .cells (writeAt c i [v]) tq63)
 (hC:C.size≤b) (hF: ∀G',Ext [b] H G'→F H→F G') (hFs: ∀G G',Ext [E.p] G G'→F G→F G') {K:Heap→Prop}
 (hk: ∀H',Acc E A C σ0 g0 d g B m lo (fun G=>F G∧NB E.p b o' G) [] σ H'→K H'):storeW H ⟨b,i,none⟩ [v] K:=by
 subst ho
 obtain⟨hf,hne,hb⟩:=a.fr
 refine swI hb (by simp;omega) (by simp[freeFrom]) h1 fun H1 e1 h1' x1 s1=>hk H1 ?_
 subst ho'
 have hA:=Nat.le_trans a.cz hC
 have xA:Ext [E.p] A H1:=by rw[e1];exact a.ext.setNew hA _
 exact{a with ext:=xA,cx:=by rw[e1];exact a.cx.setNew hC _,sp:=⟨x1.get _ _ a.sp.obj (by simpa using fun h=>hne h.symm),a.sp.tok.ext x1 fun r hr hm=>by have:=a.t r hr;have:=List.mem_singleton.1 hm;omega,a.sp.row,a.sp.le,a.sp.n,a.sp.deep⟩,fr:=⟨hF _ x1 hf,hne,h1'⟩,fst:=fun G G' x h=>⟨hFs G G' x h.1,NB.ext G G' x h.2⟩,kids:=fun _ h=>by cases h}
theorem Acc.orKind (a:Acc E A C σ0 g0 d g B m lo F ks σ H) {c:Int} (g':Gr) (hg:kd (E.rest σ.at_)≠c→ ∀res,g' (E.rest σ.at_)=some res→g (E.rest σ.at_)=some res) {P:Heap→Prop}
 (hk: ∀u H',Acc E A C σ0 g0 d g' B m lo F ks {σ with unsure:=u} H'→(kd (E.rest σ.at_)=c→u=true)→P H'):
 loadW H false 1 ⟨E.p,5,none⟩ pBool fun(x:Bool)=>forkB x (storeW H ⟨E.p,5,none⟩ [.bool true] P)
  (callW PP fq19 #[.pointer (some ⟨E.p,0,none⟩),.int .i64 0] H (pInt .i64) fun(x2:Int) H2=>storeW H2 ⟨E.p,5,none⟩ [.bool (x2==c)] P):=by
 refine⟨σ.unsure,lcO a.sp.obj rfl,fkI (fun _=>a.mark g' (fun _=>rfl) (fun h=>by cases h) fun H' a'=>hk _ H' a' fun _=>rfl) (fun hu=>?_)⟩
 refine a.kind (a.mark g' (fun h=>absurd (h.symm.trans hu) (by decide)) (fun h _=>hg ?_) fun H' a'=>hk _ H' a' fun h=>by simpa using h)
 simpa using h
theorem Acc.orWord (a:Acc E A C σ0 g0 d g B m lo F ks σ H) {w:ByteArray} (g':Gr) (hg:isW w (E.rest σ.at_)=false→ ∀res,g' (E.rest σ.at_)=some res→g (E.rest σ.at_)=some res) {P:Heap→Prop}
 (hk: ∀u H',Acc E A C σ0 g0 d g' B m lo F ks {σ with unsure:=u} H'→P H'):
 loadW H false 1 ⟨E.p,5,none⟩ pBool fun(x:Bool)=>forkB x (storeW H ⟨E.p,5,none⟩ [.bool true] P)
  (callW PP fq28 #[.pointer (some ⟨E.p,0,none⟩),.int .i64 0,.string w] H pBool fun(x2:Bool) H2=>storeW H2 ⟨E.p,5,none⟩ [.bool x2] P):=by
 refine⟨σ.unsure,lcO a.sp.obj rfl,fkI (fun _=>a.mark g' (fun _=>rfl) (fun h=>by cases h) fun H' a'=>hk _ H' a') (fun hu=>?_)⟩
 exact a.word w (a.mark g' (fun h=>absurd (h.symm.trans hu) (by decide)) (fun h _=>hg h) fun H' a'=>hk _ H' a')
theorem Acc.orAsks (a:Acc E A C σ0 g0 d g B m lo F ks σ H) {fixed:Bool} {P:Heap→Prop} (hk: ∀u H',Acc E A C σ0 g0 d g B m lo F ks {σ with unsure:=u} H'→P H'):
 loadW H false 1 ⟨E.p,5,none⟩ pBool fun(x:Bool)=>forkB x (storeW H ⟨E.p,5,none⟩ [.bool true] P)
  (forkB fixed (callW PP fq60 #[.pointer (some ⟨E.p,0,none⟩)] H pBool fun(x2:Bool) H2=>storeW H2 ⟨E.p,5,none⟩ [.bool x2] P) (storeW H ⟨E.p,5,none⟩ [.bool false] P)):=by
 refine⟨σ.unsure,lcO a.sp.obj rfl,fkI (fun _=>a.mark g (fun _=>rfl) (fun h=>by cases h) fun H' a'=>hk _ H' a') (fun hu=>?_)⟩
 exact fkI (fun _=>asksS a.sp fun b=>a.mark g (fun h=>absurd (h.symm.trans hu) (by decide)) (fun _ _ _ h=>h) fun H' a'=>hk _ H' a')
  (fun _=>a.mark g (fun h=>absurd (h.symm.trans hu) (by decide)) (fun _ _ _ h=>h) fun H' a'=>hk _ H' a')
theorem gMany_stop {it:Gr} {c:Int} {f:Nat} {l:List PTk} (h:kd l=c):gMany it c (f+1) l=some (true,l.tail):=by
 show(if kd l=c then _ else _)=_
 rw[if_pos h]
theorem gMany_go {it:Gr} {c:Int} {f:Nat} {l:List PTk} (h:kd l≠c):gMany it c (f+1) l=gThen it (gMany it c f) l:=by
 show(if kd l=c then _ else _)=_
 rw[if_neg h]
theorem Acc.head1 {it:Gr} {c:Int} {f:Nat} (a:Acc E A C σ0 g0 d (gMany it c f) B m lo F ks σ H) (h1:c≠1) (hf:σ.bad=false→E.ts.length+1≤f+σ.at_) {first:Bool} (hfst:first=true→σ.bad=false→kd (E.rest σ.at_)≠c) {K:Bool×Unit→Heap→Prop}
 (hgo: ∀f',f=f'+1→σ.bad=false→Acc E A C σ0 g0 d (gThen it (gMany it c f')) 2000 m σ.at_ F ks σ H→K (true,()) H)
 (hstop: ∀σ' H' lo',Acc E A C σ0 g0 d gEnd (B+2) m lo' F ks σ' H'→(σ'.bad=false→σ.bad=false∧lo<lo')→K (false,()) H'):
 joinK (Bool×Unit) (fun J8=>loadW H false 1 ⟨E.p,4,none⟩ pBool fun(x11:Bool)=>
  forkB (!x11) (forkB first (J8 (true,()) H)
   (callW PP fq55 #[(.pointer (some ⟨E.p,0,none⟩)),(.int .i64 c)] H pBool fun(x12:Bool) H13=>J8 ((!x12),()) H13))
  (J8 (false,()) H)) K:=by
 have hn:=a.at_le
 have hle:=a.sp.le
 have hff:σ.bad=false→ ∃f',f=f'+1:=fun hb=>⟨f -1,by have:=hf hb;omega⟩
 refine⟨fun y H'=>K y H',⟨σ.bad,lcO a.sp.obj rfl,fkI (fun hb=>?_) (fun hb=>?_)⟩,fun _ _ h=>h⟩
 ·have hb':σ.bad=false:=by simpa using hb
  obtain⟨f',rfl⟩:=hff hb'
  have go:kd (E.rest σ.at_)≠c→K (true,()) H:=fun hc=>hgo f' rfl hb' ((a.fresh hb' (Nat.le_refl _)).of fun _ _ res hr=>by rw[gMany_go hc];exact hr)
  refine fkI (fun h=>go (hfst h hb')) (fun _=>?_)
  refine a.taken h1 gEnd (fun _ hk res hr=>by rw[gMany_stop hk,rest_tail];exact hr) (fun _ hk H' a'=>hstop _ H' _ (a'.less (by omega)) fun h=>⟨h,by omega⟩) (fun hc=>go (hc.resolve_left fun h=>not_bad h hb'))
 ·have hb':σ.bad=true:=by simpa using hb
  exact hstop σ H lo ((a.of fun h=>not_bad hb' h).leB (by omega)) fun h=>not_bad hb' h
theorem Acc.head2 {it:Gr} {c:Int} {f:Nat} (a:Acc E A C σ0 g0 d (gMany it c f) B m lo F ks σ H) (h1:c≠1) (hf:σ.bad=false→E.ts.length+1≤f+σ.at_) {K:Bool×Unit→Heap→Prop}
 (hgo: ∀f',f=f'+1→σ.bad=false→Acc E A C σ0 g0 d (gThen it (gMany it c f')) 2000 m σ.at_ F ks σ H→K (true,()) H)
 (hstop: ∀σ' H' lo',Acc E A C σ0 g0 d gEnd (B+2) m lo' F ks σ' H'→(σ'.bad=false→σ.bad=false∧lo<lo')→K (false,()) H'):
 joinK (Bool×Unit) (fun J8=>loadW H false 1 ⟨E.p,4,none⟩ pBool fun(x11:Bool)=>
  forkB (!x11) (callW PP fq55 #[(.pointer (some ⟨E.p,0,none⟩)),(.int .i64 c)] H pBool fun(x12:Bool) H13=>J8 ((!x12),()) H13)
  (J8 (false,()) H)) K:=by
 have h:=a.head1 h1 hf (first:=false) (fun h=>by cases h) hgo hstop
 exact h
def muE (p:Nat) (H:Heap):Nat:=match H[p]? with
 |some (.cells c _ _)=>match(c[4]?:Option Value),(c[1]?:Option Value) with
  |some (.bool false),some (.int _ n)=>1002 -n.toNat
  |_,_=>0
 |_=>0
theorem SP.mu (sp:SP E H σ):muE E.p H=if σ.bad=true then 0 else 1002 -σ.at_:=by
 unfold muE
 rw[sp.obj]
 show(match some (Value.bool σ.bad),some (Value.int .i64 (σ.at_:Int)) with|some (.bool false),some (.int _ n)=>1002 -n.toNat|_,_=>0)=_
 cases σ.bad<;>simp
theorem Acc.loop {X Y:Type} {x0:X} (y0:Y) {BI f:Nat} (gg:Nat→Gr) (F:X→Y→Heap→Prop) (S:X→Y→St→Nat→Nat→Prop) (a:Acc E A C σ0 g0 d (gg f) BI m lo (F x0 y0) ks σ H) (hs:S x0 y0 σ f m)
 (hf:σ.bad=false→E.ts.length+1≤f+σ.at_) {BODY:X→Heap→(X→Heap→Prop)→Prop}
 (hbody: ∀z y σ H f m lo (next:X→Heap→Prop),Acc E A H σ0 g0 d (gg f) BI m lo (F z y) [] σ H→S z y σ f m→(σ.bad=false→E.ts.length+1≤f+σ.at_)→
   (∀z' y' σ' H' f' m' lo',Acc E A H' σ0 g0 d (gg f') BI m' lo' (F z' y') [] σ' H'→S z' y' σ' f' m'→(σ'.bad=false→E.ts.length+1≤f'+σ'.at_)→σ.bad=false→(σ'.bad=false→σ.at_<σ'.at_)→next z' H')→BODY z H next):
 loopK X x0 H BODY:=by
 refine⟨fun z H=> ∃y σ f m lo,Acc E A H σ0 g0 d (gg f) BI m lo (F z y) [] σ H∧S z y σ f m∧(σ.bad=false→E.ts.length+1≤f+σ.at_),fun _ H=>muE E.p H,⟨y0,σ,f,m,lo,a.rebase,hs,hf⟩,?_⟩
 rintro z H1 ⟨y,σ1,f1,m1,lo1,a1,hs1,hf1⟩
 refine hbody z y σ1 H1 f1 m1 lo1 _ a1 hs1 hf1 fun z' y' σ' H' f' m' lo' a' hs' hf' hb hlt=>⟨⟨y',σ',f',m',lo',a',hs',hf'⟩,?_⟩
 have e1:muE E.p H1=1002 -σ1.at_:=by rw[a1.sp.mu,if_neg (by rw[hb];decide)]
 have h2:=a1.at_le
 have h3:muE E.p H'<1002 -σ1.at_:=by
  rcases bad_or σ' with h|h
  ·rw[a'.sp.mu,if_pos h];omega
  ·have:=hlt h
   have:=a'.at_le
   rw[a'.sp.mu,if_neg (by rw[h];decide)];omega
 exact Nat.lt_of_lt_of_eq h3 e1.symm
theorem NL.stable {A:Heap} {x:Sli} {p:Nat} (hp:p<A.size): ∀G G',Ext [p] G G'→NL A G x→NL A G' x:=fun _ _ x h=>h.step x fun k hk=>by rw[List.mem_singleton.1 hk];exact hp
structure KM (A D H:Heap) (x:Sli) (bs:List Sli):Prop where
 own:OwnS H tq36 1 x.1 x.2.1 x.2.2 (bs.map sliV)
 row: ∀r,rowOf x.1=some r→A.size≤r
 facts: ∀b∈bs,Fact D H (rowOf x.1) (NewsOk b)
theorem KM.nil (A D H:Heap):KM A D H (none,0,0) []:=⟨OwnS.nil _ _ _,fun r hr=>(by cases hr),fun b hb=>(by cases hb)⟩
theorem KM.len {A D H:Heap} {x:Sli} {bs:List Sli} (h:KM A D H x bs):x.2.1=bs.length:=by
 have:=h.own.1
 simp only[List.length_map,Nat.mul_one] at this
 omega
theorem KM.stable {A D:Heap} {x:Sli} {l:List Sli} {p:Nat} (hA:p<A.size) (hD:p<D.size): ∀G G',Ext [p] G G'→KM A D G x l→KM A D G' x l:=fun G G' he h=>
 ⟨h.own.ext he fun r hr hm=>by have:=h.row r hr;have:=List.mem_singleton.1 hm;omega,h.row,fun b hb=>(h.facts b hb).step he fun k hk=>by rw[List.mem_singleton.1 hk];exact hD⟩
theorem KM.slc {A D H:Heap} {x:Sli} {bs:List Sli} (h:KM A D H x bs):SlcAt H x.1 x.2.1 (bs.map sliV)∧ ∀b∈bs,NewsOk b H:=
 ⟨SlcAt.of_own h.own,fun b hb=>Born.self' (h.facts b hb).born⟩
theorem KM.rowlt {A D H:Heap} {x:Sli} {bs:List Sli} (h:KM A D H x bs): ∀r,rowOf x.1=some r→r<H.size:=fun r hr=>by
 obtain⟨cur,_,hg,_⟩:=h.own.row hr
 exact lt_of_get hg
theorem KM.lit {A D H:Heap} {ks:List Sli} (hA:A.size≤H.size) (_hD:D.size≤H.size) (hk: ∀y∈ks,Born D H (NewsOk y)) (hl:ks.length≤100) {n:Nat} (hn:n=ks.length) {K:Nat→Heap→Prop}
 (h: ∀H',Ext [] H H'→KM A D H' (some ⟨H.size,0,none⟩,n,n) ks→K H.size H'):newB H (.cells (ks.map sliV).toArray tq36) K:=by
 subst hn
 refine nbI fun H1 e1 hb1 x1 s1=>h H1 x1 ⟨⟨by simp,.inr ⟨H.size,_,rfl,hb1,Nat.le_refl _,?_,by simp,?_⟩⟩,fun r hr=>?_,fun b hb=>?_⟩
 ·have:1000≤maxLen:=by decide
  dsimp only;omega
 ·simp[List.take_of_length_le]
 ·cases hr;exact hA
 ·exact⟨D,H,Nat.le_refl _,x1.size,hk b hb,fun k o _ ho=>x1.get _ _ ho (by simp),fun r hr=>by cases hr;exact .inr (Nat.le_refl _)⟩
theorem Acc.app {z y:Sli} (a:Acc E A C σ0 g0 d g B m lo F ks σ H) (hz:NL A H z) (hy:NewsOk y H) (hl:z.2.1+y.2.1≤1000000) {K:Option Addr→Nat→Heap→Prop}
 (hk: ∀ad c H',Acc E A H' σ0 g0 d g B m lo (fun G=>NL A G (ad,z.2.1+y.2.1,c)) [] σ H'→K ad c H'):appK H tq63 6 72 z.1 z.2.1 z.2.2 y.1 y.2.1 K:=by
 refine hz.app a.ext a.sp a.p a.t hy hl fun ad c H' hn x s=>hk ad c H' ?_
 exact{a with ext:=x,sp:=s,cz:=x.size,cx:=Ext.refl _ _,fr:=hn,fst:=NL.stable a.p,kids:=fun _ h=>by cases h}
theorem Acc.push {D:Heap} {z y:Sli} {l:List Sli} {F1:Heap→Prop} (a:Acc E A C σ0 g0 d g B m lo F ks σ H) (hz:KM A D H z l) (hrow: ∀r,rowOf z.1=some r→r<C.size) (hD:D.size≤C.size) (hDp:E.p<D.size) (hy:Born C H (NewsOk y)) (hlen:l.length≤100000)
 (hF1: ∀G',(∀k o,H[k]?=some o→rowOf z.1≠some k→G'[k]?=some o)→F1 G') (hF1s: ∀G G',Ext [E.p] G G'→F1 G→F1 G') {K:Option Addr→Nat→Heap→Prop}
 (hk: ∀ad c H',Acc E A H' σ0 g0 d g B m lo (fun G=>KM A D G (ad,z.2.1+1,c) (l++[y])∧F1 G) [] σ H'→K ad c H'):
 newB H (.cells #[.slice y.1 y.2.1 y.2.2] tq36) fun b2 H2=>appK H2 tq36 1 24 z.1 z.2.1 z.2.2 (some ⟨b2,0,none⟩) 1 K:=by
 refine nbI fun H1 e1 hb1 x1 s1=>?_
 have hn:=hz.len
 have hml:1000000≤maxLen:=by decide
 have own1:=hz.own.ext x1 (by simp)
 refine .inr ⟨_,_,own1,NewsS.of_block hb1 rfl,?_,by omega,by omega,?_⟩
 ·intro u hu
  simp at hu
  subst hu
  rfl
 intro ad c H2 ho hg _ hrow2
 have hr2:rowOf ad=rowOf z.1∨rowOf ad=some H1.size:=hrow2
 have y1:Ext [E.p] A H1:=a.ext.trans x1.of_nil
 have keep: ∀k o,H[k]?=some o→rowOf z.1≠some k→H2[k]?=some o:=fun k o hk hne=>by
  have h3:=x1.get _ _ hk (by simp)
  rw[hg.block k (lt_of_get h3) fun eq=>hne eq.symm,h3]
 have fy:Fact D H (rowOf z.1) (NewsOk y):=Fact.new hy hD hrow
 have yA:Ext [E.p] A H2:=⟨by have:=y1.size;have:=hg.size;omega,fun q o hq hne=>by
  have h3:=y1.get _ _ hq hne
  rw[hg.block q (lt_of_get h3) fun eq=>?_,h3]
  have:=hz.row q eq.symm
  have:=lt_of_get hq
  omega⟩
 refine hk ad c H2 {a with ext:=yA,sp:=(a.sp.grow x1).rowed hg hz.row a.p a.t,cz:=yA.size,cx:=Ext.refl _ _,fr:=⟨⟨?_,fun r hr=>?_,fun b hb=>?_⟩,hF1 _ keep⟩,fst:=fun G G' x h=>⟨KM.stable a.p hDp G G' x h.1,hF1s G G' x h.2⟩,kids:=fun _ h=>by cases h}
 ·rw[List.map_append]
  simpa [sliV] using ho
 ·rcases hr2 with h3|h3
  ·exact hz.row r (by rw[←h3];exact hr)
  ·rw[h3] at hr;cases hr;exact y1.size
 ·rcases List.mem_append.1 hb with hb|hb
  ·exact((hz.facts b hb).step x1 (by simp)).grow hg hr2
  ·rw[List.mem_singleton.1 hb]
   exact(fy.step x1 (by simp)).grow hg hr2
end
theorem advanceX (E:PEnv) (t:PTk) (l:List PTk) (H:Heap) (px:PX E H (t::l)):
 Fn PP fq69 #[.pointer (some ⟨E.p,0,none⟩)] H fun v H'=>v= .nilIface∧Ext E.S H H'∧PX E H' l:=by
 rcases px.p with⟨pe,en,h0,_⟩|⟨pe,t',v,en,r,hl,hv,h1,hp,hen,hs,hr⟩
 ·cases h0
 cases hl
 have hn9:l.length≤1000:=by have:=px.n;simp only[List.length_cons] at this;omega
 obtain⟨k,V,st',en',hx,hfin⟩: ∃(k:Int) (V:ByteArray→Prop) (st' en':Nat),LxX E.toSrc en k V st' en'∧ ∀(G:Heap) (w:ByteArray),V w→LS E G→G[E.p]?=some (E.obj en (k,w) st' en')→PX E G l:=by
  cases l with
  |nil=>
   obtain⟨en',hx⟩:=hr
   exact⟨1,_,E.text.size,en',hx,fun G w hw ls hg=>⟨ls,.inl ⟨en,en',rfl,by rw[hw] at hg;exact hg⟩,hn9⟩⟩
  |cons t2 r2=>
   obtain⟨en2,hne,hle2,hx,hr2⟩:=hr
   refine⟨t2.1,_,t2.2.2,en2,hx,fun G w hw ls hg=>⟨ls,.inr ⟨en,t2,w,en2,r2,rfl,hw,hne,hg,hx.2.2.1,hle2,hr2⟩,hn9⟩⟩
 have hlt:=px.lt
 obtain⟨n,hprev⟩:=px.ls.prev
 have hpp:E.prev≠E.p:=cells_ne hprev hp (by decide)
 refine advance.enter _ H _ ?_
 unfold advance.W
 refine⟨(en:Int),lcO hp rfl,?_⟩
 refine swI hp (by simp) rfl rfl fun H1 e1 hp1 x1 s1=>?_
 have hp1':H1[E.p]?=some (E.obj en (t.1,v) t.2.2 en):=hp1
 have ls1:=px.ls.keep x1 ⟨_,_,hp⟩
 refine⟨(E.prev,E.srcb),lcO hp1' rfl,(en:Int),lcO hp1' rfl,?_,?_⟩
 ·refine(LexI1_X ls1 en en hx (.inl ⟨rfl,by omega⟩)).mono ?_
  rintro _ H2 ⟨u,hu,rfl,x2,n2,hn2⟩
  refine⟨(k,(st':Int),(en':Int),u),rfl,?_⟩
  dsimp only
  have hp2:=x2.get _ _ hp1' (ne_mem hpp.symm)
  have z2:=x2.size
  refine nbI fun H3 e3 hb3 x3 s3=>?_
  have hp3:=x3.get _ _ hp2 (by simp)
  refine⟨lcO hp3 rfl,lcO hp3 rfl,?_⟩
  refine swI hb3 (by simp) rfl rfl fun H4 e4 hb4 x4 s4=>?_
  have hb4':H4[H2.size]?=some (.cells #[.int .i64 k,.int .i64 st',.int .i64 en',.string u] tq87):=hb4
  have hp4:=x4.get _ _ hp3 (ne_mem (by omega))
  refine⟨(k,(st':Int),(en':Int),u),lcO hb4' rfl,?_⟩
  dsimp only
  refine swI hp4 (by simp) rfl rfl fun H5 e5 hp5 x5 s5=>?_
  have hp5':H5[E.p]?=some (E.obj en (k,u) st' en'):=hp5
  have hn5:=x5.get _ _ (x4.get _ _ (x3.get _ _ hn2 (by simp)) (ne_mem (by omega))) (ne_mem hpp)
  have a4:Ext [] H2 H4:=by rw[e4];exact x3.setNew (Nat.le_refl _) _
  have hS:Ext E.S H H5:=(x1.mono (by simp[PEnv.S])).trans ((x2.mono (by simp[PEnv.S])).trans (a4.of_nil.trans (x5.mono (by simp[PEnv.S]))))
  have keep: ∀(k:Nat) (d:Array Value) (e:TypeId) (fr:Nat×Nat),H[k]?=some (.cells d e fr)→e≠tq90→e≠tq3→H5[k]?=some (.cells d e fr):=by
   intro k d e fr hk h1 h2
   refine hS.get _ _ hk ?_
   have:=cells_ne hk hp h1
   have:=cells_ne hk hprev h2
   simp only[PEnv.S,List.mem_cons,List.not_mem_nil,or_false,not_or]
   exact⟨by assumption,by assumption⟩
  refine rkI ⟨rfl,hS,hfin H5 u hu ⟨⟨n2,hn5⟩,keep _ _ _ _ px.ls.srcb (by decide) (by decide),px.ls.src.keep (fun k c e fr hk ho=>keep _ _ _ _ hk ?_ ?_) (fun k o hk ho=>hS.get _ _ ho (by have:=px.ls.lo;simp only[PEnv.S,List.mem_cons,List.not_mem_nil,or_false,not_or];omega)),px.ls.lo⟩ hp5'⟩
  ·rcases ho with rfl|rfl<;>decide
  ·rcases ho with rfl|rfl<;>decide
 ·refine nbI fun H2 e2 hb2 x2 s2=>?_
  have hp2:=x2.get _ _ hp1' (by simp)
  refine⟨lcO hp2 rfl,lcO hp2 rfl,?_⟩
  have ls2:=ls1.keep x2.of_nil ⟨_,_,hp1'⟩
  refine(LexI1_X ls2 en en hx (.inl ⟨rfl,by omega⟩)).mono ?_
  rintro _ H3 ⟨u,hu,rfl,x3,n3,hn3⟩
  refine⟨(k,(st':Int),(en':Int),u),rfl,?_⟩
  dsimp only
  have hp3:=x3.get _ _ hp2 (ne_mem hpp.symm)
  have z1:=s1
  have z3:=x3.size
  have hlp:=lt_of_get hprev
  have hb3:=x3.get _ _ hb2 (ne_mem (by omega))
  refine swI hb3 (by simp) rfl rfl fun H4 e4 hb4 x4 s4=>?_
  have hb4':H4[H1.size]?=some (.cells #[.int .i64 k,.int .i64 st',.int .i64 en',.string u] tq87):=hb4
  have hp4:=x4.get _ _ hp3 (ne_mem (by omega))
  refine⟨(k,(st':Int),(en':Int),u),lcO hb4' rfl,?_⟩
  dsimp only
  refine swI hp4 (by simp) rfl rfl fun H5 e5 hp5 x5 s5=>?_
  have hp5':H5[E.p]?=some (E.obj en (k,u) st' en'):=hp5
  have hn5:=x5.get _ _ (x4.get _ _ hn3 (ne_mem (by omega))) (ne_mem hpp)
  have a4:Ext E.S H H4:=by
   rw[e4]
   exact((x1.mono (by simp[PEnv.S])).trans (x2.of_nil.trans (x3.mono (by simp[PEnv.S])))).setNew (by omega) _
  have hS:Ext E.S H H5:=a4.trans (x5.mono (by simp[PEnv.S]))
  have keep: ∀(k:Nat) (d:Array Value) (e:TypeId) (fr:Nat×Nat),H[k]?=some (.cells d e fr)→e≠tq90→e≠tq3→H5[k]?=some (.cells d e fr):=by
   intro k d e fr hk h1 h2
   refine hS.get _ _ hk ?_
   have:=cells_ne hk hp h1
   have:=cells_ne hk hprev h2
   simp only[PEnv.S,List.mem_cons,List.not_mem_nil,or_false,not_or]
   exact⟨by assumption,by assumption⟩
  refine rkI ⟨rfl,hS,hfin H5 u hu ⟨⟨n3,hn5⟩,keep _ _ _ _ px.ls.srcb (by decide) (by decide),px.ls.src.keep (fun k c e fr hk ho=>keep _ _ _ _ hk ?_ ?_) (fun k o hk ho=>hS.get _ _ ho (by have:=px.ls.lo;simp only[PEnv.S,List.mem_cons,List.not_mem_nil,or_false,not_or];omega)),px.ls.lo⟩ hp5'⟩
  ·rcases ho with rfl|rfl<;>decide
  ·rcases ho with rfl|rfl<;>decide
theorem advX {E:PEnv} {t:PTk} {l:List PTk} {H:Heap} {K:Unit→Heap→Prop} (px:PX E H (t::l)) (hk: ∀H',Ext E.S H H'→PX E H' l→K () H'):
 callW PP fq69 #[.pointer (some ⟨E.p,0,none⟩)] H ⟨Unit,fun _=> .nilIface⟩ K:=by
 refine(advanceX E t l H px).mono ?_
 rintro _ H' ⟨rfl,x,p⟩
 exact⟨(),rfl,hk H' x p⟩
theorem PX.kind {E:PEnv} {H:Heap} {l:List PTk} (h:PX E H l):loadC H false 1 ⟨E.p,5,none⟩=some (.int .i64 (kd l)):=by
 obtain⟨pe,v,en,hp,_⟩:=h.obj
 exact lcO hp rfl
theorem PX.start {E:PEnv} {H:Heap} {l:List PTk} (h:PX E H l):loadC H false 1 ⟨E.p,6,none⟩=some (.int .i64 ((startOf E.text l:Nat):Int)):=by
 obtain⟨pe,v,en,hp,_⟩:=h.obj
 exact lcO hp rfl
theorem kd_cons {l:List PTk} (h:kd l≠1): ∃t r,l=t::r:=by
 cases l with
 |nil=>exact absurd rfl h
 |cons t r=>exact⟨t,r,rfl⟩
theorem peekX {E:PEnv} {H:Heap} {l:List PTk} {k:Int} {K:Bool→Heap→Prop} (px:PX E H l) (hk:K (kd l==k) H):
 callW PP fq70 #[.pointer (some ⟨E.p,0,none⟩),.int .i64 k] H pBool K:=by
 refine(show Fn PP _ _ H fun v H'=>v= .bool (kd l==k)∧H'=H from ?_).mono ?_
 ·refine peek.enter _ _ H _ ?_
  unfold peek.W
  exact⟨_,px.kind,rkI ⟨rfl,rfl⟩⟩
 ·rintro _ _ ⟨rfl,rfl⟩
  exact⟨_,rfl,hk⟩
theorem skipX {E:PEnv} {H:Heap} {l:List PTk} {k:Int} {K:Bool→Heap→Prop} (h1:k≠1) (px:PX E H l) (hy:kd l=k→ ∀H',Ext E.S H H'→PX E H' l.tail→K true H') (hn:kd l≠k→K false H):
 callW PP fq35 #[.pointer (some ⟨E.p,0,none⟩),.int .i64 k] H ⟨Bool,fun x=> .tuple #[.bool x,.nilIface]⟩ K:=by
 by_cases hk:kd l=k
 ·obtain⟨t,r,rfl⟩:=kd_cons (l:=l) (by omega)
  refine(show Fn PP _ _ H fun v H'=>v= .tuple #[.bool true,.nilIface]∧Ext E.S H H'∧PX E H' r from ?_).mono ?_
  ·refine skip.enter _ _ H _ ?_
   unfold skip.W
   refine⟨_,px.kind,fkI (fun _=>?_) (fun hh=>by simp[hk] at hh)⟩
   exact advX px fun H' x p=>rkI ⟨rfl,x,p⟩
  ·rintro _ H' ⟨rfl,x,p⟩
   exact⟨true,rfl,hy hk H' x p⟩
 ·refine(show Fn PP _ _ H fun v H'=>v= .tuple #[.bool false,.nilIface]∧H'=H from ?_).mono ?_
  ·refine skip.enter _ _ H _ ?_
   unfold skip.W
   exact⟨_,px.kind,fkI (fun hh=>absurd (by simpa using hh) hk) (fun _=>rkI ⟨rfl,rfl⟩)⟩
  ·rintro _ _ ⟨rfl,rfl⟩
   exact⟨false,rfl,hn hk⟩
theorem locX {E:PEnv} {H:Heap} {l:List PTk} {st:Int} {K:Nat→Heap→Prop} (px:PX E H l) (hk: ∀b H',Ext [] H H'→PX E H' l→K b H'):
 callW PP fq40 #[.pointer (some ⟨E.p,0,none⟩),.int .i64 st] H pBlk K:=by
 obtain⟨pe,v,en,hp,_⟩:=px.obj
 refine(show Fn PP _ _ H fun v H'=> ∃b:Nat,v= .pointer (some ⟨b,0,none⟩)∧Ext [] H H' from ?_).mono ?_
 ·refine loc.enter _ _ H _ ?_
  unfold loc.W
  refine⟨false,lcO hp rfl,fkI (fun hh=>by simp at hh) (fun _=>⟨false,lcO hp rfl,fkI (fun hh=>by simp at hh) (fun _=>?_)⟩)⟩
  refine⟨_,lcO hp rfl,E.src,lcO hp rfl,?_⟩
  refine nbI fun H1 e1 hb1 x1 s1=>?_
  refine(NewLocation_mk _ _ _ H1 H.size hb1).mono ?_
  rintro _ H2 ⟨b,rfl,x2,_⟩
  refine⟨b,rfl,rkI ⟨b,rfl,Ext.newer x1 x2 (Nat.le_refl _)⟩⟩
 ·rintro _ H' ⟨b,rfl,x⟩
  exact⟨b,rfl,hk b H' x (px.grow x)⟩
abbrev TV:=Int×Int×Int×ByteArray
abbrev pTV:Pat:=⟨Int×Int×Int×ByteArray,fun x=>(.tuple #[(.agg #[(.int .i64 x.1),(.int .i64 x.2.1),(.int .i64 x.2.2.1),(.string x.2.2.2)]),.nilIface])⟩
abbrev pTE:Pat:=⟨Int×Int×Int×ByteArray×Nat,fun x=>(.tuple #[(.agg #[(.int .i64 x.1),(.int .i64 x.2.1),(.int .i64 x.2.2.1),(.string x.2.2.2.1)]),(.iface tq49 (.pointer (some ⟨x.2.2.2.2,0,none⟩)))])⟩
def TokIs (s:ByteArray) (l:List PTk) (x:TV):Prop:=x.1=kd l∧x.2.1=(startOf s l:Nat)∧ ∀w,kd l=15→(x.2.2.2.toList==w.toList)=isW w l
theorem nin_of {E:PEnv} {H:Heap} (h:E.p<H.size∧E.prev<H.size) {b:Nat} (hb:H.size≤b):b∉E.S:=by
 simp only[PEnv.S,List.mem_cons,List.not_mem_nil,or_false,not_or]
 omega
theorem expX {E:PEnv} {H:Heap} {l:List PTk} {k:Int} {K:TV→Heap→Prop} {L:Int×Int×Int×ByteArray×Nat→Heap→Prop} (h1:k≠1) (px:PX E H l)
 (hy:kd l=k→ ∀x H',TokIs E.text l x→Ext E.S H H'→PX E H' l.tail→K x H') (hn:kd l≠k→ ∀y H',Ext [] H H'→ErrX E y.2.2.2.2 l H'→L y H'):
 call2W PP fq100 #[.pointer (some ⟨E.p,0,none⟩),.int .i64 k] H pTV pTE K L:=by
 obtain⟨pe,v,en,hp,hle,_,hw⟩:=px.obj
 have hlt:=px.lt
 refine expectX.enter _ _ H _ ?_
 unfold expectX.W
 refine nbI fun H1 e1 hb1 x1 s1=>?_
 have hp1:=x1.get _ _ hp (by simp)
 refine⟨(kd l,((startOf E.text l:Nat):Int),(en:Int),v),lcO hp1 rfl,?_⟩
 dsimp only
 refine nbI fun H2 e2 hb2 x2 s2=>?_
 refine swI hb2 (by simp) rfl rfl fun H3 e3 hb3 x3 s3=>?_
 have hb3':H3[H1.size]?=some (.cells #[.int .i64 (kd l),.int .i64 (startOf E.text l:Nat),.int .i64 en,.string v] tq87):=hb3
 have hb13:=x3.get _ _ (x2.get _ _ hb1 (by simp)) (ne_mem (by omega))
 have y3:Ext [] H H3:=by rw[e3];exact(x1.trans x2).setNew (by omega) _
 refine⟨kd l,lcO hb3' rfl,fkI (fun hk=>?_) (fun hk=>?_)⟩
 ·have hk':kd l=k:=by simpa using hk
  obtain⟨t,r,rfl⟩:=kd_cons (l:=l) (by omega)
  refine⟨(kd (t::r),((startOf E.text (t::r):Nat):Int),(en:Int),v),lcO hb3' rfl,?_⟩
  dsimp only
  refine advX (px.grow y3) fun H4 x4 p4=>?_
  have hb4:=x4.get _ _ hb3' (nin_of hlt (by omega))
  have hb14:=x4.get _ _ hb13 (nin_of hlt (by omega))
  refine⟨lcO hb4 rfl,?_⟩
  refine swI hb14 (by simp) rfl rfl fun H5 e5 hb5 x5 s5=>?_
  have y45:Ext E.S H H5:=by rw[e5];exact(y3.of_nil.trans x4).setNew (Nat.le_refl _) _
  have p5:PX E H5 r:=by
   have hlo:=px.ls.lo
   exact p4.off x5 (by omega) (by omega) (fun c e fr hc=>by rw[hb14] at hc;cases hc;exact⟨by decide,by decide,by decide,by decide,by decide⟩)
  refine⟨[.agg #[.int .i64 (kd (t::r)),.int .i64 (startOf E.text (t::r):Nat),.int .i64 en,.string v],.nilIface],by rw[lcO hb5 rfl];rfl,.inl ⟨(kd (t::r),((startOf E.text (t::r):Nat):Int),(en:Int),v),rfl,?_⟩⟩
  exact hy hk' _ H5 ⟨rfl,rfl,hw⟩ y45 p5
 ·have hk':kd l≠k:=by simpa using hk
  have hp3:=y3.get _ _ hp (by simp)
  refine⟨(kd l,((startOf E.text l:Nat):Int),(en:Int),v),lcO hb3' rfl,E.src,lcO hp3 rfl,((startOf E.text l:Nat):Int),lcO hb3' rfl,?_⟩
  have hsm:=px.ls.src.small
  refine(NewSyntaxError_ok (px.ls.src.ext y3) (startOf E.text l) (by omega) _).mono ?_
  rintro _ H4 ⟨b,rfl,x4,he⟩
  have hb4:=x4.get _ _ hb3' (by simp)
  refine⟨b,rfl,lcO hb4 rfl,?_⟩
  have hb14:=x4.get _ _ hb13 (by simp)
  refine swI hb14 (by simp) rfl rfl fun H5 e5 hb5 x5 s5=>?_
  refine⟨[.agg #[.int .i64 (kd l),.int .i64 (startOf E.text l:Nat),.int .i64 en,.string v],.iface tq49 (.pointer (some ⟨b,0,none⟩))],by rw[lcO hb5 rfl];rfl,.inr ⟨(kd l,((startOf E.text l:Nat):Int),(en:Int),v,b),rfl,?_⟩⟩
  refine hn hk' _ H5 ?_ ?_
  ·rw[e5];exact(y3.trans x4).setNew (Nat.le_refl _) _
  ·exact he.off x5 (fun c e fr hc=>by rw[hb14] at hc;cases hc;exact⟨by decide,by decide⟩)
theorem expKW {E:PEnv} {H:Heap} {l:List PTk} {w:ByteArray} {K:TV→Heap→Prop} {L:Int×Int×Int×ByteArray×Nat→Heap→Prop} (px:PX E H l)
 (hy:isW w l=true→ ∀x H',Ext E.S H H'→PX E H' l.tail→K x H') (hn:isW w l=false→ ∀y H',Ext [] H H'→ErrX E y.2.2.2.2 l H'→L y H'):
 call2W PP fq137 #[.pointer (some ⟨E.p,0,none⟩),.string w] H pTV pTE K L:=by
 obtain⟨pe,v,en,hp,hle,_,hw⟩:=px.obj
 have hlt:=px.lt
 refine expectKeyWordX.enter _ _ H _ ?_
 unfold expectKeyWordX.W
 refine nbI fun H1 e1 hb1 x1 s1=>?_
 have hp1:=x1.get _ _ hp (by simp)
 refine⟨(kd l,((startOf E.text l:Nat):Int),(en:Int),v),lcO hp1 rfl,?_⟩
 dsimp only
 refine nbI fun H2 e2 hb2 x2 s2=>?_
 refine swI hb2 (by simp) rfl rfl fun H3 e3 hb3 x3 s3=>?_
 have hb3':H3[H1.size]?=some (.cells #[.int .i64 (kd l),.int .i64 (startOf E.text l:Nat),.int .i64 en,.string v] tq87):=hb3
 have hb13:=x3.get _ _ (x2.get _ _ hb1 (by simp)) (ne_mem (by omega))
 have y3:Ext [] H H3:=by rw[e3];exact(x1.trans x2).setNew (by omega) _
 refine⟨(isW w l,()),?_,?_⟩
 ·refine⟨kd l,lcO hb3' rfl,fkI (fun hk=>⟨v,lcO hb3' rfl,?_,rfl⟩) (fun hk=>⟨?_,rfl⟩)⟩
  ·rw[hw w (by simpa using hk)]
  ·have hk':kd l≠15:=by simpa using hk
   have:isW w l=false:=by
    cases l with
    |nil=>rfl
    |cons t r=>
     have:(t.1==15)=false:=by simpa [kd] using hk'
     simp[isW,this]
   rw[this]
 refine fkI (fun hk'=>?_) (fun hk'=>?_)
 ·have hk':isW w l=true:=hk'
  obtain⟨t,r,rfl⟩: ∃t r,l=t::r:=by
   cases l with
   |nil=>cases hk'
   |cons t r=>exact⟨t,r,rfl⟩
  refine⟨(kd (t::r),((startOf E.text (t::r):Nat):Int),(en:Int),v),lcO hb3' rfl,?_⟩
  dsimp only
  refine advX (px.grow y3) fun H4 x4 p4=>?_
  have hb4:=x4.get _ _ hb3' (nin_of hlt (by omega))
  have hb14:=x4.get _ _ hb13 (nin_of hlt (by omega))
  refine⟨lcO hb4 rfl,?_⟩
  refine swI hb14 (by simp) rfl rfl fun H5 e5 hb5 x5 s5=>?_
  have y45:Ext E.S H H5:=by rw[e5];exact(y3.of_nil.trans x4).setNew (Nat.le_refl _) _
  have p5:PX E H5 r:=by
   have hlo:=px.ls.lo
   exact p4.off x5 (by omega) (by omega) (fun c e fr hc=>by rw[hb14] at hc;cases hc;exact⟨by decide,by decide,by decide,by decide,by decide⟩)
  refine⟨[.agg #[.int .i64 (kd (t::r)),.int .i64 (startOf E.text (t::r):Nat),.int .i64 en,.string v],.nilIface],by rw[lcO hb5 rfl];rfl,.inl ⟨(kd (t::r),((startOf E.text (t::r):Nat):Int),(en:Int),v),rfl,?_⟩⟩
  exact hy hk' _ H5 y45 p5
 ·have hk':isW w l=false:=hk'
  have hp3:=y3.get _ _ hp (by simp)
  refine⟨(kd l,((startOf E.text l:Nat):Int),(en:Int),v),lcO hb3' rfl,E.src,lcO hp3 rfl,((startOf E.text l:Nat):Int),lcO hb3' rfl,?_⟩
  have hsm:=px.ls.src.small
  refine(NewSyntaxError_ok (px.ls.src.ext y3) (startOf E.text l) (by omega) _).mono ?_
  rintro _ H4 ⟨b,rfl,x4,he⟩
  have hb4:=x4.get _ _ hb3' (by simp)
  refine⟨b,rfl,lcO hb4 rfl,?_⟩
  have hb14:=x4.get _ _ hb13 (by simp)
  refine swI hb14 (by simp) rfl rfl fun H5 e5 hb5 x5 s5=>?_
  refine⟨[.agg #[.int .i64 (kd l),.int .i64 (startOf E.text l:Nat),.int .i64 en,.string v],.iface tq49 (.pointer (some ⟨b,0,none⟩))],by rw[lcO hb5 rfl];rfl,.inr ⟨(kd l,((startOf E.text l:Nat):Int),(en:Int),v,b),rfl,?_⟩⟩
  refine hn hk' _ H5 ?_ ?_
  ·rw[e5];exact(y3.trans x4).setNew (Nat.le_refl _) _
  ·exact he.off x5 (fun c e fr hc=>by rw[hb14] at hc;cases hc;exact⟨by decide,by decide⟩)
theorem und_tok:PP.underlying tq87=some (.struct #[{name:= "Kind",type:=tq85,offset:=0,embedded:=false,tag:= "",pkgPath:= "",byteOffset:=0},
 {name:= "Start",type:=tq3,offset:=1,embedded:=false,tag:= "",pkgPath:= "",byteOffset:=8},
 {name:= "End",type:=tq3,offset:=2,embedded:=false,tag:= "",pkgPath:= "",byteOffset:=16},
 {name:= "Value",type:=tq9,offset:=3,embedded:=false,tag:= "",pkgPath:= "",byteOffset:=24}]):=by kernel_rfl
theorem und_tkind:PP.underlying tq85=some (.int .i64):=by kernel_rfl
theorem part_tkind (xs:Array Value) (o:Nat) (w:World) (x:Value) (hx:xs[o]?=some x):(part tq85 xs o).run PP w= .ok x w:=by
 have h:pureV PP (isAgg tq85)=some false:=by kernel_rfl
 have h2:=pureV_run PP _ _ h w
 simp[part,Sem.run_bind,h2,hx]
def tokEq (x y:TV):Bool:=x.1==y.1&&(x.2.1==y.2.1&&(x.2.2.1==y.2.2.1&&x.2.2.2.toList==y.2.2.2.toList))
theorem tok_eq (x y:TV) (X Y:Operand) (w:World):(eqS .eql tq87 X Y (.agg #[.int .i64 x.1,.int .i64 x.2.1,.int .i64 x.2.2.1,.string x.2.2.2]) (.agg #[.int .i64 y.1,.int .i64 y.2.1,.int .i64 y.2.2.1,.string y.2.2.2])).run PP w= .ok (.bool (tokEq x y)) w:=by
 have hm:PP.eqGuardType PP.depth tq87=false:=by kernel_rfl
 have hp:PP.stoodInHeld tq87=false:=by kernel_rfl
 have hS:PP.underlying tq87=some (.struct (PP.fieldsOf tq87)):=by rw[Program.fieldsOf,und_tok]
 unfold eqS
 rw[Sem.run_bind,run_eqGuard_agg _ _ _ _ _ _ _ hm,Result.andThen_ok,run_eql_struct,show(10000:Nat)=9999+1 from rfl,run_equalIn_agg w 9999 tq87 _ _ hS hp]
 have hE:(Op.eqFields 9999 #[.int .i64 x.1,.int .i64 x.2.1,.int .i64 x.2.2.1,.string x.2.2.2] #[.int .i64 y.1,.int .i64 y.2.1,.int .i64 y.2.2.1,.string y.2.2.2] (PP.fieldsOf tq87).toList).run PP w= .ok (tokEq x y) w:=by
  simp only[Program.fieldsOf,und_tok]
  unfold tokEq
  have ek: ∀(a b:Int) (w:World),(Op.equalIn 9999 tq85 (.int .i64 a) (.int .i64 b)).run PP w= .ok (a==b) w:=fun a b w=>run_equalIn_int w 9998 tq85 .i64 .i64 a b und_tkind
  have ei: ∀(a b:Int) (w:World),(Op.equalIn 9999 tq3 (.int .i64 a) (.int .i64 b)).run PP w= .ok (a==b) w:=fun a b w=>run_equalIn_int w 9998 tq3 .i64 .i64 a b und_int
  have es: ∀(a b:ByteArray) (w:World),(Op.equalIn 9999 tq9 (.string a) (.string b)).run PP w= .ok (a.toList==b.toList) w:=fun a b w=>run_equalIn_string w 9998 tq9 a b und_string
  have step: ∀(nm:String) (ty:TypeId) (o:Nat) (q:Nat) (rest:List Field) (xs ys:Array Value) (a b:Value) (r s:Bool),nm≠ "_" →(part ty xs o).run PP w= .ok a w→(part ty ys o).run PP w= .ok b w→
   (Op.equalIn 9999 ty a b).run PP w= .ok r w→(Op.eqFields 9999 xs ys rest).run PP w= .ok s w→
   (Op.eqFields 9999 xs ys ({name:=nm,type:=ty,offset:=o,embedded:=false,tag:= "",pkgPath:= "",byteOffset:=q}::rest)).run PP w= .ok (r&&s) w:=by
   intro nm ty o q rest xs ys a b r s hn h1 h2 h3 h4
   simp only[Op.eqFields,hn,ne_eq,not_false_eq_true,if_true]
   rw[Sem.run_bind,h1,Result.andThen_ok,Sem.run_bind,h2,Result.andThen_ok,Sem.run_bind,h3,Result.andThen_ok]
   cases r
   ·simp
   ·simpa using h4
  refine step _ _ _ _ _ _ _ _ _ _ _ (by decide) (part_tkind _ _ w _ rfl) (part_tkind _ _ w _ rfl) (ek _ _ w) ?_
  refine step _ _ _ _ _ _ _ _ _ _ _ (by decide) (part_int _ _ w _ rfl) (part_int _ _ w _ rfl) (ei _ _ w) ?_
  refine step _ _ _ _ _ _ _ _ _ _ _ (by decide) (part_int _ _ w _ rfl) (part_int _ _ w _ rfl) (ei _ _ w) ?_
  have last:=step "Value" tq9 3 24 [] (#[.int .i64 x.1,.int .i64 x.2.1,.int .i64 x.2.2.1,.string x.2.2.2]) (#[.int .i64 y.1,.int .i64 y.2.1,.int .i64 y.2.2.1,.string y.2.2.2]) _ _ _ true (by decide) (part_string _ _ w _ rfl) (part_string _ _ w _ rfl) (es x.2.2.2 y.2.2.2 w) (by simp[Op.eqFields])
  rw[Bool.and_true] at last
  exact last
 rw[hE,Result.andThen_ok]
abbrev pErr:Pat:=⟨Nat,fun x=>(.iface tq49 (.pointer (some ⟨x,0,none⟩)))⟩
def tok0:TV:=(0,0,0,bs [])
theorem unexpX {E:PEnv} {H:Heap} {l l':List PTk} (px:PX E H l) (t:TV) (hs:(t=tok0∧l'=l)∨(tokEq t tok0=false∧t.2.1=(startOf E.text l':Nat)∧startOf E.text l'≤E.text.size)) {K:Nat→Heap→Prop}
 (hk: ∀b H',Ext [] H H'→ErrX E b l' H'→K b H'):
 callW PP fq38 #[.pointer (some ⟨E.p,0,none⟩),.agg #[.int .i64 t.1,.int .i64 t.2.1,.int .i64 t.2.2.1,.string t.2.2.2]] H pErr K:=by
 obtain⟨pe,v,en,hp,hle,_,hw⟩:=px.obj
 have hsm:=px.ls.src.small
 refine(show Fn PP _ _ H fun v H'=> ∃b:Nat,v= .iface tq49 (.pointer (some ⟨b,0,none⟩))∧Ext [] H H'∧ErrX E b l' H' from ?_).mono ?_
 ·refine unexpectedX.enter _ t H _ ?_
  unfold unexpectedX.W
  refine nbI fun H1 e1 hb1 x1 s1=>?_
  refine⟨t,lcO hb1 rfl,?_⟩
  refine nbI fun H2 e2 hb2 x2 s2=>?_
  refine swI hb2 (by simp) rfl rfl fun H3 e3 hb3 x3 s3=>?_
  have hb3':H3[H1.size]?=some (.cells #[.int .i64 t.1,.int .i64 t.2.1,.int .i64 t.2.2.1,.string t.2.2.2] tq87):=hb3
  have hb13:=x3.get _ _ (x2.get _ _ hb1 (by simp)) (ne_mem (by omega))
  have y3:Ext [] H H3:=by rw[e3];exact(x1.trans x2).setNew (by omega) _
  have hp3:=y3.get _ _ hp (by simp)
  refine⟨t,lcO hb13 rfl,?_⟩
  refine⟨tokEq t tok0,fun X Y w=>tok_eq t tok0 X Y w,fkI (fun hz=>?_) (fun hz=>?_)⟩
  ·rcases hs with⟨rfl,rfl⟩|⟨hne,_⟩
   ·refine⟨(kd l',((startOf E.text l':Nat):Int),(en:Int),v),lcO hp3 rfl,?_⟩
    dsimp only
    refine swI hb3' (by simp) rfl rfl fun H4 e4 hb4 x4 s4=>?_
    have hb4':H4[H1.size]?=some (.cells #[.int .i64 (kd l'),.int .i64 (startOf E.text l':Nat),.int .i64 en,.string v] tq87):=hb4
    have y4:Ext [] H H4:=by rw[e4];exact y3.setNew (by omega) _
    refine⟨E.src,lcO (y4.get _ _ hp (by simp)) rfl,((startOf E.text l':Nat):Int),lcO hb4' rfl,?_⟩
    refine(NewSyntaxError_ok (px.ls.src.ext y4) (startOf E.text l') (by omega) _).mono ?_
    rintro _ H5 ⟨b,rfl,x5,he⟩
    exact⟨b,rfl,rkI ⟨b,rfl,y4.trans x5,he⟩⟩
   ·rw[hne] at hz;cases hz
  ·rcases hs with⟨rfl,_⟩|⟨_,hst,hle'⟩
   ·exact absurd hz (by simp[tokEq,tok0])
   ·refine⟨E.src,lcO hp3 rfl,t.2.1,lcO hb3' rfl,?_⟩
    rw[hst]
    refine(NewSyntaxError_ok (px.ls.src.ext y3) (startOf E.text l') (by omega) _).mono ?_
    rintro _ H5 ⟨b,rfl,x5,he⟩
    exact⟨b,rfl,rkI ⟨b,rfl,y3.trans x5,he⟩⟩
 ·rintro _ H' ⟨b,rfl,x,he⟩
  exact⟨b,rfl,hk b H' x he⟩
theorem unexpEmptyX {E:PEnv} {H:Heap} {l l':List PTk} (px:PX E H l) (ok ck:Int) (hle:startOf E.text l'≤E.text.size) {K:Nat→Heap→Prop} (hk: ∀b H',Ext [] H H'→ErrX E b l' H'→K b H'):
 callW PP fq128 #[.pointer (some ⟨E.p,0,none⟩),.int .i64 (startOf E.text l':Nat),.int .i64 ok,.int .i64 ck] H pErr K:=by
 obtain⟨pe,v,en,hp,_,_,hw⟩:=px.obj
 have hsm:=px.ls.src.small
 refine(show Fn PP _ _ H fun v H'=> ∃b:Nat,v= .iface tq49 (.pointer (some ⟨b,0,none⟩))∧Ext [] H H'∧ErrX E b l' H' from ?_).mono ?_
 ·refine unexpectedEmptyX.enter _ _ _ _ H _ ?_
  unfold unexpectedEmptyX.W
  refine⟨E.src,lcO hp rfl,?_⟩
  refine(NewSyntaxError_ok px.ls.src (startOf E.text l') (by omega) _).mono ?_
  rintro _ H5 ⟨b,rfl,x5,he⟩
  exact⟨b,rfl,rkI ⟨b,rfl,x5,he⟩⟩
 ·rintro _ H' ⟨b,rfl,x,he⟩
  exact⟨b,rfl,hk b H' x he⟩
abbrev vB (b:Nat):Value:= .tuple #[.pointer (some ⟨b,0,none⟩),.nilIface]
abbrev vBe (b:Nat):Value:= .tuple #[.pointer none,.iface tq49 (.pointer (some ⟨b,0,none⟩))]
abbrev vI (T:TypeId) (b:Nat):Value:= .tuple #[.iface T (.pointer (some ⟨b,0,none⟩)),.nilIface]
abbrev vIe (b:Nat):Value:= .tuple #[.nilIface,.iface tq49 (.pointer (some ⟨b,0,none⟩))]
abbrev vF (x:Nat×Nat):Value:= .tuple #[.iface x.1 (.pointer (some ⟨x.2,0,none⟩)),.nilIface]
abbrev vFe (x:Value×Nat):Value:= .tuple #[x.1,.iface tq49 (.pointer (some ⟨x.2,0,none⟩))]
abbrev vS (x:Option Addr×Nat×Nat):Value:= .tuple #[.slice x.1 x.2.1 x.2.2,.nilIface]
abbrev vSe (x:(Option Addr×Nat×Nat)×Nat):Value:= .tuple #[.slice x.1.1 x.1.2.1 x.1.2.2,.iface tq49 (.pointer (some ⟨x.2,0,none⟩))]
abbrev RdB (E:PEnv) (f:FuncId) (args:Array Value) (g:Gr):Prop:=Rd E f args vB vBe (fun b=>b) g fun _ _=>True
abbrev RdI (E:PEnv) (f:FuncId) (args:Array Value) (T:TypeId) (g:Gr):Prop:=Rd E f args (vI T) vIe (fun b=>b) g fun _ _=>True
abbrev RdS (E:PEnv) (f:FuncId) (args:Array Value) (g:Gr):Prop:=Rd E f args vS vSe (fun y=>y.2) g fun _ _=>True
theorem gSign_yes {k:Int} {l:List PTk} (h:kd l=k):gSign k l=some (true,l.tail):=by unfold gSign;rw[if_pos h]
theorem gSign_no {k:Int} {l:List PTk} (h:kd l≠k):gSign k l=some (false,l):=by unfold gSign;rw[if_neg h]
theorem gThen_sign {k:Int} {g2:Gr} {l:List PTk} {res:Bool×List PTk} (hg:gThen (gSign k) g2 l=some res):(kd l=k∧g2 l.tail=some res)∨(kd l≠k∧res=(false,l)):=by
 unfold gThen at hg
 by_cases h:kd l=k
 ·rw[gSign_yes h] at hg;exact .inl ⟨h,hg⟩
 ·rw[gSign_no h] at hg;exact .inr ⟨h,(Option.some.inj hg).symm⟩
theorem gThen_word {w:ByteArray} {g2:Gr} {l:List PTk} {res:Bool×List PTk} (hg:gThen (gWord w) g2 l=some res):(isW w l=true∧g2 l.tail=some res)∨(isW w l=false∧res=(false,l)):=by
 unfold gThen gWord at hg
 by_cases h:isW w l=true
 ·rw[if_pos h] at hg;exact .inl ⟨h,hg⟩
 ·rw[if_neg h] at hg;exact .inr ⟨by simpa using h,(Option.some.inj hg).symm⟩
theorem signX {E:PEnv} {H:Heap} {l:List PTk} {k:Int} {g2:Gr} {res:Bool×List PTk} {K:TV→Heap→Prop} {L:Int×Int×Int×ByteArray×Nat→Heap→Prop} (h1:k≠1) (px:PX E H l) (hg:gThen (gSign k) g2 l=some res)
 (hy: ∀x H',TokIs E.text l x→Ext E.S H H'→PX E H' l.tail→kd l=k→g2 l.tail=some res→K x H') (hn: ∀y H',Ext E.S H H'→res=(false,l)→ErrX E y.2.2.2.2 l H'→L y H'):
 call2W PP fq100 #[.pointer (some ⟨E.p,0,none⟩),.int .i64 k] H pTV pTE K L:=by
 rcases gThen_sign hg with⟨h,h2⟩|⟨h,h2⟩
 ·exact expX h1 px (fun _ x H' ht x1 p1=>hy x H' ht x1 p1 h h2) (fun hn=>absurd h hn)
 ·exact expX h1 px (fun hh=>absurd hh h) (fun _ y H' x1 he=>hn y H' x1.of_nil h2 he)
theorem wordX {E:PEnv} {H:Heap} {l:List PTk} {w:ByteArray} {g2:Gr} {res:Bool×List PTk} {K:TV→Heap→Prop} {L:Int×Int×Int×ByteArray×Nat→Heap→Prop} (px:PX E H l) (hg:gThen (gWord w) g2 l=some res)
 (hy: ∀x H',Ext E.S H H'→PX E H' l.tail→isW w l=true→g2 l.tail=some res→K x H') (hn: ∀y H',Ext E.S H H'→res=(false,l)→ErrX E y.2.2.2.2 l H'→L y H'):
 call2W PP fq137 #[.pointer (some ⟨E.p,0,none⟩),.string w] H pTV pTE K L:=by
 rcases gThen_word hg with⟨h,h2⟩|⟨h,h2⟩
 ·exact expKW px (fun _ x H' x1 p1=>hy x H' x1 p1 h h2) (fun hn=>by rw[h] at hn;cases hn)
 ·exact expKW px (fun hh=>by rw[h] at hh;cases hh) (fun _ y H' x1 he=>hn y H' x1.of_nil h2 he)
theorem PX.le {E:PEnv} {H:Heap} {l:List PTk} (h:PX E H l):startOf E.text l≤E.text.size:=by
 obtain⟨_,_,_,_,h,_⟩:=h.obj;exact h
theorem PostX.read {E:PEnv} {H H':Heap} {α β:Type} {val:α→Value} {no:β→Value} {err:β→Nat} {Q:α→Heap→Prop} {res:Bool×List PTk} {r:List PTk} (hr:res=(true,r)) (x:α) (he:Ext E.S H H') (px:PX E H' r) (hq:Q x H'):
 PostX E H val no err Q res (val x) H':=by
 subst hr;exact⟨he,.inl ⟨rfl,x,rfl,px,hq⟩⟩
theorem PostX.no {E:PEnv} {H H':Heap} {α β:Type} {val:α→Value} {no:β→Value} {err:β→Nat} {Q:α→Heap→Prop} {res:Bool×List PTk} {r:List PTk} (hr:res=(false,r)) (y:β) (he:Ext E.S H H') (hx:ErrX E (err y) r H'):
 PostX E H val no err Q res (no y) H':=by
 subst hr;exact⟨he,.inr ⟨rfl,y,rfl,hx⟩⟩
theorem tokX {H:Heap} {a b c d:Value} {K:Heap→Prop} (h1:oneL [a,b,c,d]=true) (hk: ∀b2 H',Ext [] H H'→H'[b2]?=some (.cells #[a,b,c,d] tq87)→H.size≤b2→K H'):
 newB H (.cells #[(.int .i64 0),(.int .i64 0),(.int .i64 0),(.string (bs []))] tq87) fun b3 H4=>storeW H4 ⟨b3,0,none⟩ [a,b,c,d] fun H5=>K H5:=by
 refine nbI fun H1 e1 hb1 x1 s1=>?_
 refine swI hb1 (by simp) rfl h1 fun H2 e2 hb2 x2 s2=>?_
 have y:Ext [] H H2:=by rw[e2];exact x1.setNew (Nat.le_refl _) _
 exact hk H.size H2 y hb2 (Nat.le_refl _)
theorem tokB {H:Heap} {a b c d:Value} {K:Nat→Heap→Prop} (h1:oneL [a,b,c,d]=true) (hk: ∀b2 H',Ext [] H H'→H'[b2]?=some (.cells #[a,b,c,d] tq87)→H.size≤b2→K b2 H'):
 newB H (.cells #[(.int .i64 0),(.int .i64 0),(.int .i64 0),(.string (bs []))] tq87) fun b3 H4=>storeW H4 ⟨b3,0,none⟩ [a,b,c,d] fun H5=>K b3 H5:=by
 refine nbI fun H1 e1 hb1 x1 s1=>?_
 refine swI hb1 (by simp) rfl h1 fun H2 e2 hb2 x2 s2=>?_
 have y:Ext [] H H2:=by rw[e2];exact x1.setNew (Nat.le_refl _) _
 exact hk H.size H2 y hb2 (Nat.le_refl _)
theorem nodeX {E:PEnv} {H:Heap} {l:List PTk} {f:FuncId} {c c':Array Value} {T:TypeId} (hm:MkOk f c c' T) {K:Nat→Heap→Prop} (px:PX E H l) (hk: ∀b H',Ext [] H H'→PX E H' l→K b H'):
 newB H (.cells c T) fun b1 H1=>callW PP f #[.pointer (some ⟨b1,0,none⟩)] H1 pBlk K:=by
 refine nbI fun H1 e1 hb1 x1 s1=>?_
 refine(hm H1 H.size hb1).mono ?_
 rintro _ H2 ⟨b,rfl,x2,_⟩
 have y:Ext [] H H2:=Ext.newer x1 x2 (Nat.le_refl _)
 exact⟨b,rfl,hk b H2 y (px.grow y)⟩
theorem parseNameR (E:PEnv):RdB E fq74 #[.pointer (some ⟨E.p,0,none⟩)] gName:=by
 intro H l res px hg
 refine parseNameX.enter _ H _ ?_
 unfold parseNameX.W
 have hg':gThen (gSign 15) gEnd l=some res:=by rw[gThen_end];exact hg
 refine signX (by decide) px hg' (fun x H1 ht x1 p1 hk h2=>?_) (fun y H1 x1 hr he=>?_)
 ·refine tokB rfl fun b2 H2 x2 hb2 hlt=>?_
  refine⟨x.2.2.2,lcO hb2 rfl,x.2.1,lcO hb2 rfl,?_⟩
  refine locX (p1.grow x2) fun lb H3 x3 p3=>?_
  refine⟨lcO (x3.get _ _ hb2 (by simp)) rfl,?_⟩
  refine nodeX (NewName_mk _ _) p3 fun b H4 x4 p4=>?_
  exact rkI (PostX.read (Option.some.inj h2).symm b (x1.trans ((x2.trans x3).trans x4).of_nil) p4 trivial)
 ·refine tokX rfl fun b2 H2 x2 hb2 _=>?_
  exact rkI (PostX.no hr _ (x1.trans x2.of_nil) (he.grow x2))
theorem parseNamedR (E:PEnv):RdB E fq139 #[.pointer (some ⟨E.p,0,none⟩)] gName:=by
 intro H l res px hg
 refine parseNamedX.enter _ H _ ?_
 unfold parseNamedX.W
 refine⟨_,px.start,?_⟩
 refine Rd.last (p:=⟨Nat,vB⟩) (q:=⟨Nat,vBe⟩) (parseNameR E) px hg (fun x H1 r x1 p1 _ hr=>?_) (fun y H1 r x1 hr he=>?_)
 ·refine locX p1 fun lb H3 x3 p3=>?_
  refine nodeX (NewNamed_mk _ _) p3 fun b H4 x4 p4=>?_
  exact rkI (PostX.read hr b (x1.trans (x3.trans x4).of_nil) p4 trivial)
 ·exact rkI (PostX.no hr _ x1 he)
theorem PX.row {E:PEnv} {H H':Heap} {l:List PTk} (h:PX E H l) {r:Option Nat} (he:Grow H H' r) (hr: ∀q,r=some q→ ∃c e fr,H[q]?=some (.cells c e fr)∧e≠tq90∧e≠tq3∧e≠tq52∧e≠tq68∧e≠tq5) (hq: ∀q,r=some q→E.p≤q):PX E H' l:=by
 have key: ∀(k:Nat) (d:Array Value) (e:TypeId) (fr:Nat×Nat),H[k]?=some (.cells d e fr)→(e=tq90∨e=tq3∨e=tq52∨e=tq68∨e=tq5)→H'[k]?=some (.cells d e fr):=by
  intro k d e fr hk ho
  rw[he.block k (lt_of_get hk) fun eq=>?_,hk]
  obtain⟨c,e',fr',hc,h1,h2,h3,h4,h5⟩:=hr k eq.symm
  rw[hk] at hc;cases hc
  rcases ho with h|h|h|h|h
  ·exact h1 h
  ·exact h2 h
  ·exact h3 h
  ·exact h4 h
  ·exact h5 h
 obtain⟨n,hn⟩:=h.ls.prev
 refine⟨⟨⟨n,key _ _ _ _ hn (by simp)⟩,key _ _ _ _ h.ls.srcb (by simp),h.ls.src.keep (fun k c e fr hk ho=>key _ _ _ _ hk ?_) (fun k o hk ho=>by
  rw[he.block k (lt_of_get ho) fun eq=>?_,ho]
  have:=hq k eq.symm;have:=h.ls.lo;omega),h.ls.lo⟩,?_,h.n⟩
 ·rcases ho with rfl|rfl<;>simp
 ·rcases h.p with⟨pe,en,h1,hp⟩|⟨pe,t,v,en,r',h1,hv,h2,hp,h3⟩
  ·exact .inl ⟨pe,en,h1,key _ _ _ _ hp (by simp)⟩
  ·exact .inr ⟨pe,t,v,en,r',h1,hv,h2,key _ _ _ _ hp (by simp),h3⟩
structure LstX {α:Type} (E:PEnv) (A H:Heap) (l:List PTk) (e:TypeId) (x:Option Addr×Nat×Nat) (val:α→Value) (bs:List α):Prop where
 px:PX E H l
 ext:Ext E.S A H
 pa:E.p<A.size∧E.prev<A.size
 own:OwnS H e 1 x.1 x.2.1 x.2.2 (bs.map val)
 row: ∀r,rowOf x.1=some r→A.size≤r
section
variable {α:Type} {E:PEnv} {A H:Heap} {l l':List PTk} {e:TypeId} {x:Option Addr×Nat×Nat} {val:α→Value} {bs:List α}
theorem LstX.lt (h:LstX E A H l e x val bs): ∀k∈E.S,k<A.size:=by
 intro k hk
 have:=h.pa
 simp only[PEnv.S,List.mem_cons,List.not_mem_nil,or_false] at hk
 rcases hk with rfl|rfl<;>omega
theorem LstX.len (h:LstX E A H l e x val bs):x.2.1=bs.length:=by
 have hn:=h.own.1
 simp only[List.length_map,Nat.mul_one] at hn
 omega
theorem LstX.step (h:LstX E A H l e x val bs) {H':Heap} (he:Ext E.S H H') (px:PX E H' l'):LstX E A H' l' e x val bs where
 px:=px
 ext:=h.ext.trans he
 pa:=h.pa
 own:=h.own.ext he fun r hr hm=>by have:=h.lt r hm;have:=h.row r hr;omega
 row:=h.row
theorem LstX.pushK (h:LstX E A H l e x val bs) (he:plainT e) (hv: ∀a,(val a).oneCell'=true) (bytes:Nat) (hby:bytes≤1000) (hlen:bs.length≤100000) {b:α}
 {K:Option Addr→Nat→Heap→Prop} (hk: ∀a c H',LstX E A H' l e (a,x.2.1+1,c) val (bs++[b])→(∀q o,H[q]?=some o→rowOf x.1≠some q→H'[q]?=some o)→(∀r,rowOf a=some r→rowOf x.1=some r∨H.size≤r)→H.size≤H'.size→K a c H'):
 newB H (.cells #[val b] e) fun b2 H2=>appK H2 e 1 bytes x.1 x.2.1 x.2.2 (some ⟨b2,0,none⟩) 1 K:=by
 refine nbI fun H1 e1 hb1 x1 s1=>?_
 have hn:=h.own.1
 simp only[List.length_map,Nat.mul_one] at hn
 have hml:1000000≤maxLen:=by decide
 have hbytes:(x.2.1+1)*bytes≤140737488355328:=by
  have:(x.2.1+1)*bytes≤100001*1000:=Nat.mul_le_mul (by omega) hby
  omega
 have own1:=h.own.ext x1 (by simp)
 refine .inr ⟨_,_,own1,NewsS.of_block hb1 rfl,?_,by omega,hbytes,?_⟩
 ·intro u hu
  simp at hu
  subst hu
  exact hv b
 intro a c H2 ho hg _ hrow
 have hne: ∀q,rowOf x.1=some q→ ∃c e' fr,H1[q]?=some (.cells c e' fr)∧e'≠tq90∧e'≠tq3∧e'≠tq52∧e'≠tq68∧e'≠tq5:=by
  intro q hq
  obtain⟨cur,_,hg',_⟩:=own1.row hq
  exact⟨_,_,_,hg',he⟩
 have hr2:rowOf a=rowOf x.1∨rowOf a=some H1.size:=hrow
 refine hk a c H2 ⟨(h.px.grow x1).row hg hne (fun q hq=>by have:=h.row q hq;have:=h.pa;omega),?_,h.pa,?_,?_⟩ ?_ ?_ (by have:=x1.size;have:=hg.size;omega)
 ·refine⟨by have:=h.ext.size;have:=x1.size;have:=hg.size;omega,fun k o hk hn=>?_⟩
  have h2:=x1.get _ _ (h.ext.get _ _ hk hn) (by simp)
  rw[hg.block k (lt_of_get h2) fun eq=>?_,h2]
  have:=h.row k eq.symm
  have:=lt_of_get hk
  omega
 ·rw[List.map_append]
  simpa using ho
 ·intro r hr
  rcases hr2 with h3|h3
  ·exact h.row r (by rw[←h3];exact hr)
  ·rw[h3] at hr;cases hr;have:=h.ext.size;omega
 ·intro q o hq hne'
  have h2:=x1.get _ _ hq (by simp)
  rw[hg.block q (lt_of_get h2) fun eq=>hne' eq.symm,h2]
 ·intro r hr
  rcases hr2 with h3|h3
  ·exact .inl (by rw[←h3];exact hr)
  ·rw[h3] at hr;cases hr;exact .inr (by omega)
theorem LstX.push (h:LstX E A H l e x val bs) (he:plainT e) (hv: ∀a,(val a).oneCell'=true) (bytes:Nat) (hby:bytes≤1000) (hlen:bs.length≤100000) {b:α}
 {K:Option Addr→Nat→Heap→Prop} (hk: ∀a c H',LstX E A H' l e (a,x.2.1+1,c) val (bs++[b])→K a c H'):
 newB H (.cells #[val b] e) fun b2 H2=>appK H2 e 1 bytes x.1 x.2.1 x.2.2 (some ⟨b2,0,none⟩) 1 K:=
 h.pushK he hv bytes hby hlen fun a c H' h' _ _ _=>hk a c H' h'
theorem LstX.fin (h:LstX E A H l e x val bs):Born A H (SlAt x (bs.map val)):=by
 intro G hG
 have:=SlcAt.of_own h.own
 refine⟨this.1,this.2.imp id ?_⟩
 rintro⟨g,o,c,e',fr,ha,hg,hr⟩
 exact⟨g,o,c,e',fr,ha,hG _ _ (h.row g (by rw[ha];rfl)) hg,hr⟩
end
theorem LstX.nil {α:Type} (E:PEnv) {H:Heap} {l:List PTk} (px:PX E H l) (e:TypeId) (val:α→Value):LstX E H H l e (none,0,0) val []:=
 ⟨px,Ext.refl _ _,px.lt,OwnS.nil _ _ _,(by simp[rowOf])⟩
theorem LstX.row0 {α:Type} {E:PEnv} {H:Heap} {l:List PTk} (px:PX E H l) (e:TypeId) (val:α→Value) {K:Nat→Heap→Prop}
 (hk: ∀b H',LstX E H H' l e (some ⟨b,0,none⟩,0,0) val []→K b H'):newB H (.cells #[] e) K:=by
 refine nbI fun H1 e1 hb1 x1 s1=>hk _ _ ⟨px.grow x1,x1.of_nil,px.lt,⟨by simp,.inr ⟨H.size,#[],rfl,hb1,Nat.le_refl _,Nat.zero_le _,rfl,rfl⟩⟩,?_⟩
 intro r hr
 cases hr
 exact Nat.le_refl _
theorem LstX.row1 {α:Type} {E:PEnv} {H:Heap} {l:List PTk} (px:PX E H l) (e:TypeId) (val:α→Value) {K:Nat→Heap→Prop}
 (hk: ∀b H',Ext [] H H'→LstX E H H' l e (some ⟨b,0,none⟩,0,0) val []→K b H'):newB H (.cells #[] e) K:=by
 refine nbI fun H1 e1 hb1 x1 s1=>hk _ _ x1 ⟨px.grow x1,x1.of_nil,px.lt,⟨by simp,.inr ⟨H.size,#[],rfl,hb1,Nat.le_refl _,Nat.zero_le _,rfl,rfl⟩⟩,?_⟩
 intro r hr
 cases hr
 exact Nat.le_refl _
theorem lt_row {α:Type} {E:PEnv} {A H:Heap} {l:List PTk} {e:TypeId} {b:Nat} {val:α→Value} (h:LstX E A H l e (some ⟨b,0,none⟩,0,0) val []):b<H.size:=by
 obtain⟨cur,_,hg,_⟩:=h.own.row (r:=b) rfl
 exact lt_of_get hg
theorem parseDirectivesR (E:PEnv) (n:Nat) (hd:RdB E fq103 #[.pointer (some ⟨E.p,0,none⟩)] (gDir n)):RdS E fq76 #[.pointer (some ⟨E.p,0,none⟩)] (gDirs n):=by
 intro H l res px hg
 refine parseDirectivesX.enter _ H _ ?_
 unfold parseDirectivesX.W
 have hlen:=px.n
 refine LstX.row0 px tq170 ptV fun b1 H2 l2=>?_
 refine⟨fun z H'=> ∃(f:Nat) (l':List PTk) (bs:List Nat),gDirsGo n f l'=some res∧bs.length+f≤1001∧LstX E H H' l' tq170 z.1 ptV bs,fun z _=>1001 -z.1.2.1,⟨l.length+1,l,[],hg,by simpa using hlen,l2⟩,?_⟩
 rintro⟨⟨xa,xn,xc⟩,_⟩ H3 ⟨f,l',bs,hg3,hf,l3⟩
 dsimp only at l3⊢
 have hn:=l3.len
 dsimp only at hn
 cases f with
 |zero=>cases hg3
 |succ f=>
 unfold gDirsGo at hg3
 refine peekX l3.px ?_
 refine fkI (fun hh=>?_) (fun hh=>?_)
 ·have hk:kd l'=9:=by simpa using hh
  rw[if_pos hk] at hg3
  refine Rd.call (p:=⟨Nat,vB⟩) (q:=⟨Nat,vBe⟩) hd l3.px hg3 (fun x H4 r x4 p4 _ _ h2=>?_) (fun y H4 r x4 hr he=>?_)
  ·refine(l3.step x4 p4).push (b:=x) (by unfold plainT;decide) (fun _=>rfl) 8 (by decide) (by omega) fun a c H5 l5=>?_
   refine⟨⟨f,r,bs++[x],h2,by simp only[List.length_append,List.length_cons,List.length_nil];omega,l5⟩,?_⟩
   omega
  ·exact rkI (PostX.no hr ((xa,xn,xc),y) (l3.ext.trans x4) he)
 ·have hk:kd l'≠9:=by simpa using hh
  rw[if_neg hk] at hg3
  exact rkI (PostX.read (Option.some.inj hg3).symm (xa,xn,xc) l3.ext l3.px trivial)
theorem sepX {f:FuncId} {eT:TypeId} (he:plainT eT) {E:PEnv} {k:Int} (h1:k≠1) (hd:RdB E f #[.pointer (some ⟨E.p,0,none⟩)] gName) {A H3:Heap} {l:List PTk} {res:Bool×List PTk} {b0:Nat} (hg:gSepL gName k l=some res)
 (l0:LstX E A H3 l eT (some ⟨b0,0,none⟩,0,0) ptV []) {R:Value→Heap→Prop} (hR: ∀v H',PostX E A vS vSe (fun y=>y.2) (fun _ _=>True) res v H'→R v H'):
 loopK ((Option Addr×Nat×Nat)×Unit) (((some ⟨b0,0,none⟩),0,0),()) H3 fun z3 H4 next5=>
 call2W PP f #[(.pointer (some ⟨E.p,0,none⟩))] H4 ⟨Nat,vB⟩ ⟨Nat,vBe⟩ (fun(x6:Nat) H8=>
 newB H8 (.cells #[(.pointer (some ⟨x6,0,none⟩))] eT) fun b9 H10=>
  appK H10 eT 1 8 z3.1.1 z3.1.2.1 z3.1.2.2 (some ⟨b9,0,none⟩) 1 fun a11 c12 H13=>
  callW PP fq35 #[(.pointer (some ⟨E.p,0,none⟩)),(.int .i64 k)] H13 ⟨Bool,fun x=>(.tuple #[(.bool x),.nilIface])⟩ fun(x14:Bool) H15=>
  forkB (!x14)
  (retK (some [(.slice a11 (z3.1.2.1+1) c12),.nilIface]) H15 R)
  (next5 ((a11,(z3.1.2.1+1),c12),()) H15))
 (fun(e7:Nat) H8=>
 retK (some [(.slice z3.1.1 z3.1.2.1 z3.1.2.2),(.iface tq49 (.pointer (some ⟨e7,0,none⟩)))]) H8 R):=by
 have hlen:=l0.px.n
 refine⟨fun z H'=> ∃(f:Nat) (l':List PTk) (bs:List Nat),gSep gName k f l'=some res∧bs.length+f≤1001∧LstX E A H' l' eT z.1 ptV bs,fun z _=>1001 -z.1.2.1,⟨l.length+1,l,[],hg,by simpa using hlen,l0⟩,?_⟩
 rintro⟨⟨xa,xn,xc⟩,_⟩ H4 ⟨n,l',bs,hg4,hf,l4⟩
 dsimp only at l4⊢
 have hn:=l4.len
 dsimp only at hn
 cases n with
 |zero=>cases hg4
 |succ n=>
 unfold gSep at hg4
 refine Rd.call (p:=⟨Nat,vB⟩) (q:=⟨Nat,vBe⟩) hd l4.px hg4 (fun x H5 r x5 p5 _ _ h2=>?_) (fun y H5 r x5 hr he=>?_)
 ·refine(l4.step x5 p5).push (b:=x) he (fun _=>rfl) 8 (by decide) (by omega) fun a c H6 l6=>?_
  refine skipX h1 l6.px (fun hk H7 x7 p7=>?_) (fun hk=>?_)
  ·refine fkI (fun hh=>absurd hh (by decide)) (fun _=>?_)
   rw[if_pos hk] at h2
   refine⟨⟨n,r.tail,bs++[x],h2,by simp only[List.length_append,List.length_cons,List.length_nil];omega,l6.step x7 p7⟩,?_⟩
   omega
  ·refine fkI (fun _=>?_) (fun hh=>absurd hh (by decide))
   rw[if_neg hk] at h2
   exact rkI (hR _ _ (PostX.read (Option.some.inj h2).symm (a,xn+1,c) l6.ext l6.px trivial))
 ·exact rkI (hR _ _ (PostX.no hr ((xa,xn,xc),y) (l4.ext.trans x5) he))
theorem parseUnionMembersR (E:PEnv):RdS E fq149 #[.pointer (some ⟨E.p,0,none⟩)] (gSepL gName 13):=by
 intro H l res px hg
 refine parseUnionMembersX.enter _ H _ ?_
 unfold parseUnionMembersX.W
 refine LstX.row0 px tq216 ptV fun b1 H2 l2=>?_
 exact sepX (by unfold plainT;decide) (by decide) (parseNamedR E) hg l2 fun _ _ h=>h
theorem parseDirectiveLocationsR (E:PEnv):RdS E fq157 #[.pointer (some ⟨E.p,0,none⟩)] (gSepL gName 13):=by
 intro H l res px hg
 refine parseDirectiveLocationsX.enter _ H _ ?_
 unfold parseDirectiveLocationsX.W
 refine LstX.row0 px tq116 ptV fun b1 H2 l2=>?_
 exact sepX (by unfold plainT;decide) (by decide) (parseNameR E) hg l2 fun _ _ h=>h
end Go.Vx
