/- A part of the proof of what the last text of this claim says: QT7, QV11, PX8, PX9, SP16, SP17, SP18, SP19, SP20, SP21, SP22, SP23, SP24, SP25. Conditions: none. -/
import Derived.Test.YtpkfgijailfkjaaGreatDoorZAz
import Derived.Test.YtpkfgijailfkjaaGreatDoorZBb
import Derived.Test.YtpkfgijailfkjaaGreatDoorZBd
import Derived.Test.YtpkfgijailfkjaaGreatDoorZBe
set_option maxRecDepth 10000
namespace Go.Vx
open Go Go.Proofs
section
variable {G:Heap} {b lb nb:Nat} {t:Tr}
end
def SelT (T:Nat):Prop:=T=tq192∨T=tq292∨T=tq288
theorem selT_as (x:Nat×Nat) (h:SelT x.1): ∀w,(Instr.typeAssert (ifV x) tq20 tq161 false).run PP w= .ok (asV (ifV x) false) w:=by
 obtain⟨T,b⟩:=x
 rcases h with rfl|rfl|rfl
 all_goals
  intro w
  kernel_rfl
theorem plain_Selection:plainT tq161:=by unfold plainT;decide
def gFragName:Gr:=fun l=>if isW wOn l=true then some (false,l) else gName l
theorem parseFragmentNameR (E:PEnv):RdB E fq138 #[.pointer (some ⟨E.p,0,none⟩)] gFragName:=by
 intro H l res px hg
 obtain⟨pe,v,en,hp,hle,hno,hw⟩:=px.obj
 refine parseFragmentNameX.enter _ H _ ?_
 unfold parseFragmentNameX.W
 unfold gFragName at hg
 refine⟨v,lcO hp rfl,?_⟩
 refine fkI (fun hh=>?_) (fun hh=>?_)
 ·have hr:res=(false,l):=by
   by_cases hk:kd l=15
   ·have h2:isW wOn l=true:=(hw wOn hk).symm.trans hh
    rw[if_pos h2] at hg
    exact(Option.some.inj hg).symm
   ·rw[if_neg (by rw[isW_no hk];decide)] at hg
    unfold gName at hg
    rw[gSign_no hk] at hg
    exact(Option.some.inj hg).symm
  exact unexpX px tok0 (.inl ⟨rfl,rfl⟩) fun b H3 x3 he=>rkI (PostX.no hr b x3.of_nil he)
 ·have h2:isW wOn l=false:=by
   by_cases hk:kd l=15
   ·exact(hw wOn hk).symm.trans hh
   ·exact isW_no hk
  rw[if_neg (by rw[h2];decide)] at hg
  exact Rd.last (p:=⟨Nat,vB⟩) (q:=⟨Nat,vBe⟩) (parseNameR E) px hg (fun x H1 r y p _ hr=>rkI (PostX.read hr x y p trivial)) (fun z _ _ y hr he=>rkI (PostX.no hr z y he))
theorem parseFragmentR (E:PEnv) (n:Nat) (sels:Gr) (hs:RdB E fq71 #[.pointer (some ⟨E.p,0,none⟩)] sels):Rd E fq129 #[.pointer (some ⟨E.p,0,none⟩)] vF vIe (fun b=>b) (gThen (gSign 6) (gSpread n sels)) fun x _=>SelT x.1:=by
 intro H l res px hg
 refine parseFragmentX.enter _ H _ ?_
 unfold parseFragmentX.W
 refine⟨_,px.start,?_⟩
 refine signX (by decide) px hg (fun x1 H1 _ y1 p1 _ h1=>?_) (fun z _ y hr he=>rkI (PostX.no hr z.2.2.2.2 y he))
 generalize l.tail=l1 at p1 h1
 obtain⟨pe,v,en,hp,hle,hno,hw⟩:=p1.obj
 have hval:loadC H1 false 1 ⟨E.p,8,none⟩=some (.string v):=lcO hp rfl
 refine⟨fun y H'=>y.1=(kd l1==15&&!(v.toList==wOn.toList))∧H'=H1,?_,?_⟩
 ·exact peekX p1 (fkI (fun hh=>⟨v,hval,by rw[hh];rfl,rfl⟩) (fun hh=>⟨by rw[hh];rfl,rfl⟩))
 rintro⟨y,_⟩ H2 ⟨hy,rfl⟩
 dsimp only at hy⊢
 subst hy
 unfold gSpread at h1
 refine fkI (fun hh=>?_) (fun hh=>?_)
 ·obtain⟨hk,hv⟩:kd l1=15∧(v.toList==wOn.toList)=false:=by
   rw[Bool.and_eq_true] at hh
   exact⟨by simpa using hh.1,by simpa using hh.2⟩
  have hw1:isW wOn l1=false:=(hw wOn hk).symm.trans hv
  rw[if_pos ⟨hk,hw1⟩] at h1
  have h2:gThen gFragName (gDirs n) l1=some res:=by
   unfold gThen gFragName gName
   rw[if_neg (by rw[hw1];decide),gSign_yes hk]
   exact h1
  refine Rd.call (p:=⟨Nat,vB⟩) (q:=⟨Nat,vBe⟩) (parseFragmentNameR E) p1 h2 (fun x3 H3 r3 y3 p3 _ _ h3=>?_) (fun z _ _ y hr he=>rkI (PostX.no hr z (y1.trans y) he))
  refine Rd.last (p:=⟨(Option Addr×Nat×Nat),vS⟩) (q:=⟨(Option Addr×Nat×Nat)×Nat,vSe⟩) (dirsQ E n) p3 h3 (fun x4 H4 r4 y4 p4 _ hr=>?_) (fun z _ _ y hr he=>rkI (PostX.no hr z.2 (y1.trans (y3.trans y)) he))
  refine locX p4 fun _ _ y5 p5=>?_
  refine nodeX (NewFragmentSpread_mk _ _ _ _ _) p5 fun b _ y6 p6=>?_
  exact rkI (PostX.read hr (tq288,b) (y1.trans (y3.trans (y4.trans (y5.trans y6).of_nil))) p6 (by simp[SelT]))
 ·refine⟨v,hval,?_⟩
  refine fkI (fun hv=>?_) (fun hv=>?_)
  ·have hk18: ¬(kd l1=18∨kd l1=19):=by
    intro hk
    have h15: ¬(kd l1=15∧isW wOn l1=false):=by omega
    rw[if_neg h15,if_pos hk] at h1
    cases h1
   have hk:isW wOn l1=true:=by
    by_cases hk:kd l1=15
    ·exact(hw wOn hk).symm.trans hv
    ·have:=(hno hk (by omega) (by omega)).1
     have hv':(v.toList==wOn.toList)=true:=hv
     rw[this] at hv';cases hv'
   rw[if_neg (fun hh=>by rw[hk] at hh;cases hh.2),if_neg hk18,if_pos hk] at h1
   obtain⟨t,r,rfl⟩:=kd_cons (l:=l1) (by have:=isW_kd hk;omega)
   refine advX p1 fun H3 y3 p3=>?_
   have e3:=y1.trans y3
   refine Rd.call (p:=⟨Nat,vB⟩) (q:=⟨Nat,vBe⟩) (parseNamedR E) p3 h1 (fun x4 H4 r4 y4 p4 _ _ h4=>?_) (fun z _ _ y hr he=>rkI (PostX.no hr z (e3.trans y) he))
   have e4:=e3.trans y4
   refine Rd.call (p:=⟨(Option Addr×Nat×Nat),vS⟩) (q:=⟨(Option Addr×Nat×Nat)×Nat,vSe⟩) (dirsQ E n) p4 h4 (fun x5 H5 r5 y5 p5 _ _ h5=>?_) (fun z _ _ y hr he=>rkI (PostX.no hr z.2 (e4.trans y) he))
   have e5:=e4.trans y5
   refine Rd.last (p:=⟨Nat,vB⟩) (q:=⟨Nat,vBe⟩) hs p5 h5 (fun x6 H6 r6 y6 p6 _ hr=>?_) (fun z _ _ y hr he=>rkI (PostX.no hr z (e5.trans y) he))
   refine locX p6 fun _ _ y7 p7=>?_
   refine nodeX (NewInlineFragment_mk _ _ _ _ _ _) p7 fun b _ y8 p8=>?_
   exact rkI (PostX.read hr (tq292,b) (e5.trans (y6.trans (y7.trans y8).of_nil)) p8 (by simp[SelT]))
  ·have hv':(v.toList==wOn.toList)=false:=hv
   have hk15:kd l1≠15:=by
    intro hk
    rw[hv',hk] at hh
    exact absurd hh (by decide)
   rw[if_neg (fun hh=>hk15 hh.1)] at h1
   by_cases hk18:kd l1=18∨kd l1=19
   ·rw[if_pos hk18] at h1;cases h1
   rw[if_neg hk18,if_neg (by rw[isW_no hk15];decide)] at h1
   refine Rd.call (p:=⟨(Option Addr×Nat×Nat),vS⟩) (q:=⟨(Option Addr×Nat×Nat)×Nat,vSe⟩) (dirsQ E n) p1 h1 (fun x5 H5 r5 y5 p5 _ _ h5=>?_) (fun z _ _ y hr he=>rkI (PostX.no hr z.2 (y1.trans y) he))
   have e5:=y1.trans y5
   refine Rd.last (p:=⟨Nat,vB⟩) (q:=⟨Nat,vBe⟩) hs p5 h5 (fun x6 H6 r6 y6 p6 _ hr=>?_) (fun z _ _ y hr he=>rkI (PostX.no hr z (e5.trans y) he))
   refine locX p6 fun _ _ y7 p7=>?_
   refine nodeX (NewInlineFragment_mk _ _ _ _ _ _) p7 fun b _ y8 p8=>?_
   exact rkI (PostX.read hr (tq292,b) (e5.trans (y6.trans (y7.trans y8).of_nil)) p8 (by simp[SelT]))
theorem gThen_ifS {k:Int} {a g2:Gr} {l:List PTk} {res:Bool×List PTk} (h:gThen (fun l=>if kd l=k then a l.tail else some (true,l)) g2 l=some res):(kd l=k∧gThen a g2 l.tail=some res)∨(kd l≠k∧g2 l=some res):=by
 unfold gThen at h
 by_cases hk:kd l=k
 ·rw[show(fun l:List PTk=>if kd l=k then a l.tail else some (true,l)) l=a l.tail from if_pos hk] at h;exact .inl ⟨hk,h⟩
 ·rw[show(fun l:List PTk=>if kd l=k then a l.tail else some (true,l)) l=some (true,l) from if_neg hk] at h;exact .inr ⟨hk,h⟩
theorem gThen_yes {k:Int} {a g2:Gr} {l:List PTk} {res:Bool×List PTk} (h:gThen (fun l=>if kd l=k then a l.tail else some (true,l)) g2 l=some res) (hk:kd l=k):gThen a g2 l.tail=some res:=by
 rcases gThen_ifS h with h|h
 ·exact h.2
 ·exact absurd hk h.1
theorem gThen_no {k:Int} {a g2:Gr} {l:List PTk} {res:Bool×List PTk} (h:gThen (fun l=>if kd l=k then a l.tail else some (true,l)) g2 l=some res) (hk:kd l≠k):g2 l=some res:=by
 rcases gThen_ifS h with h|h
 ·exact absurd h.1 hk
 ·exact h.2
theorem parseFieldR (E:PEnv) (n:Nat) (sels:Gr) (hs:RdB E fq71 #[.pointer (some ⟨E.p,0,none⟩)] sels):RdB E fq130 #[.pointer (some ⟨E.p,0,none⟩)] (gField n sels):=by
 intro H0 l0 res p0 hg0
 refine parseFieldX.enter _ H0 _ ?_
 unfold parseFieldX.W
 refine⟨_,p0.start,?_⟩
 have e0:Ext E.S H0 H0:=Ext.refl _ _
 unfold gField at hg0
 refine Rd.call (p:=⟨Nat,vB⟩) (q:=⟨Nat,vBe⟩) (parseNameR E) p0 hg0 (fun x1 H1 r1 y1 p1 q1 _ hg1=>?_) (fun z _ _ y hr he=>rkI (PostX.no hr z (e0.trans y) he))
 have e1:=e0.trans y1
 refine skipX (by decide) p1 (fun k2 H2 y2 p2=>?_) (fun k2=>?_)
 ·refine fkI (fun _=>?_) (fun hh=>absurd hh (by decide))
  have e2:=e1.trans y2
  have hg2:=gThen_yes hg1 k2
  refine Rd.call (p:=⟨Nat,vB⟩) (q:=⟨Nat,vBe⟩) (parseNameR E) p2 hg2 (fun x3 H3 r3 y3 p3 q3 _ hg3=>?_) (fun z _ _ y hr he=>rkI (PostX.no hr z (e2.trans y) he))
  have e3:=e2.trans y3
  refine Rd.call (p:=⟨(Option Addr×Nat×Nat),vS⟩) (q:=⟨(Option Addr×Nat×Nat)×Nat,vSe⟩) (argsQ E n) p3 hg3 (fun x4 H4 r4 y4 p4 q4 _ hg4=>?_) (fun z _ _ y hr he=>rkI (PostX.no hr z.2 (e3.trans y) he))
  have e4:=e3.trans y4
  refine Rd.call (p:=⟨(Option Addr×Nat×Nat),vS⟩) (q:=⟨(Option Addr×Nat×Nat)×Nat,vSe⟩) (dirsQ E n) p4 hg4 (fun x5 H5 r5 y5 p5 q5 _ hg5=>?_) (fun z _ _ y hr he=>rkI (PostX.no hr z.2 (e4.trans y) he))
  have e5:=e4.trans y5
  refine peekX p5 (fkI (fun hh=>?_) (fun hh=>?_))
  ·have k5:kd r5=12:=by simpa using hh
   rw[if_pos k5] at hg5
   refine Rd.last (p:=⟨Nat,vB⟩) (q:=⟨Nat,vBe⟩) (hs) p5 hg5 (fun x6 H6 r6 y6 p6 q6 hr6=>?_) (fun z _ _ y hr he=>rkI (PostX.no hr z (e5.trans y) he))
   have e6:=e5.trans y6
   refine locX p6 fun _ _ y p=>?_
   refine nodeX (NewField_mk _ _ _ _ _ _ _ _ _ _) p fun b _ y2 p=>?_
   exact rkI (PostX.read hr6 b (e6.trans (y.trans y2).of_nil) p trivial)
  ·have k5:kd r5≠12:=by simpa using hh
   rw[if_neg k5] at hg5
   refine locX p5 fun _ _ y p=>?_
   refine nodeX (NewField_mk _ _ _ _ _ _ _ _ _ _) p fun b _ y2 p=>?_
   exact rkI (PostX.read (Option.some.inj hg5).symm b (e5.trans (y.trans y2).of_nil) p trivial)
 ·refine fkI (fun hh=>absurd hh (by decide)) (fun _=>?_)
  have hg1:=gThen_no hg1 k2
  refine Rd.call (p:=⟨(Option Addr×Nat×Nat),vS⟩) (q:=⟨(Option Addr×Nat×Nat)×Nat,vSe⟩) (argsQ E n) p1 hg1 (fun x2 H2 r2 y2 p2 q2 _ hg2=>?_) (fun z _ _ y hr he=>rkI (PostX.no hr z.2 (e1.trans y) he))
  have e2:=e1.trans y2
  refine Rd.call (p:=⟨(Option Addr×Nat×Nat),vS⟩) (q:=⟨(Option Addr×Nat×Nat)×Nat,vSe⟩) (dirsQ E n) p2 hg2 (fun x3 H3 r3 y3 p3 q3 _ hg3=>?_) (fun z _ _ y hr he=>rkI (PostX.no hr z.2 (e2.trans y) he))
  have e3:=e2.trans y3
  refine peekX p3 (fkI (fun hh=>?_) (fun hh=>?_))
  ·have k3:kd r3=12:=by simpa using hh
   rw[if_pos k3] at hg3
   refine Rd.last (p:=⟨Nat,vB⟩) (q:=⟨Nat,vBe⟩) (hs) p3 hg3 (fun x4 H4 r4 y4 p4 q4 hr4=>?_) (fun z _ _ y hr he=>rkI (PostX.no hr z (e3.trans y) he))
   have e4:=e3.trans y4
   refine locX p4 fun _ _ y p=>?_
   refine nodeX (NewField_mk _ _ _ _ _ _ _ _ _ _) p fun b _ y2 p=>?_
   exact rkI (PostX.read hr4 b (e4.trans (y.trans y2).of_nil) p trivial)
  ·have k3:kd r3≠12:=by simpa using hh
   rw[if_neg k3] at hg3
   refine locX p3 fun _ _ y p=>?_
   refine nodeX (NewField_mk _ _ _ _ _ _ _ _ _ _) p fun b _ y2 p=>?_
   exact rkI (PostX.read (Option.some.inj hg3).symm b (e3.trans (y.trans y2).of_nil) p trivial)
theorem parseSelectionR (E:PEnv) (n:Nat) (sels:Gr) (hs:RdB E fq71 #[.pointer (some ⟨E.p,0,none⟩)] sels):RdF E fq98 #[.pointer (some ⟨E.p,0,none⟩)] SelT (gSel n sels):=by
 intro H l res px hg
 refine parseSelectionX.enter _ H _ ?_
 unfold parseSelectionX.W
 unfold gSel at hg
 refine peekX px (fkI (fun hh=>?_) (fun hh=>?_))
 ·have hk:kd l=6:=by simpa using hh
  rw[if_pos hk] at hg
  have hg':gThen (gSign 6) (gSpread n sels) l=some res:=by unfold gThen;rw[gSign_yes hk];exact hg
  exact Rd.last (p:=⟨Nat×Nat,vF⟩) (q:=⟨Nat,vIe⟩) (parseFragmentR E n sels hs) px hg' (fun x H1 r y p q hr=>rkI (PostX.read hr x y p q)) (fun z _ _ y hr he=>rkI (PostX.no hr (Value.nilIface,z) y he))
 ·have hk:kd l≠6:=by simpa using hh
  rw[if_neg hk] at hg
  exact Rd.last (p:=⟨Nat,vB⟩) (q:=⟨Nat,vBe⟩) (parseFieldR E n sels hs) px hg (fun x H1 r y p _ hr=>rkI (PostX.read hr (tq192,x) y p (by simp[SelT]))) (fun z _ _ y hr he=>rkI (PostX.no hr (Value.iface tq192 (.pointer none),z) y he))
theorem parseSelectionSetR (E:PEnv): ∀n:Nat,RdB E fq71 #[.pointer (some ⟨E.p,0,none⟩)] (gSels n)
 |0=>fun H l res _ hg=>by cases hg
 |n+1=>by
  have ih:=parseSelectionSetR E n
  intro H l res px hg
  refine parseSelectionSetX.enter _ H _ ?_
  unfold parseSelectionSetX.W
  unfold gSels at hg
  refine⟨_,px.start,?_⟩
  refine LstX.row0 px tq161 ifV fun b1 H2 l2=>?_
  have hg':gThen (gRev true 12 (gSel n (gSels n)) 14) gEnd l=some res:=by rw[gThen_end];exact(gRev_list _ _ _ _).symm.trans hg
  refine revX (by decide) (by decide) (parseSelectionR E n (gSels n) ih) (fun H R h=>reverseSelX.enter _ _ _ _ H R h) l2.px hg' (fun x H3 r y p q h2=>?_) (fun z H3 r y hr he=>rkI (PostX.no hr z.2 (l2.ext.trans y) he))
  have hr:res=(true,r):=(Option.some.inj h2).symm
  refine convXI tq161 tq161 SelT plain_Selection selT_as (.inl (lt_row l2)) q (Ext.refl _ _) (l2.step y p) fun w H4 bs l4=>?_
  refine locX l4.px fun _ _ y5 p5=>?_
  refine nodeX (NewSelectionSet_mk _ _ _ _) p5 fun b _ y6 p6=>?_
  exact rkI (PostX.read hr b (l4.ext.trans (y5.trans y6).of_nil) p6 trivial)
def gDf (w:ByteArray) (g:Gr):Gr:=gThen gDescr (gThen (gWord w) g)
theorem gUn {r:List PTk} {res:Bool×List PTk} (h:(if kd r=8∧kd r.tail≠13 then gSepL gName 13 r.tail else none)=some res):gThen (gSign 8) (gSepL gName 13) r=some res:=by
 by_cases hk:kd r=8∧kd r.tail≠13
 ·rw[if_pos hk] at h
  unfold gThen;rw[gSign_yes hk.1];exact h
 ·rw[if_neg hk] at h;cases h
theorem gTx {a:Gr} {r:List PTk} {res:Bool×List PTk} (h:gText a r=some res): ¬(kd r=18∨kd r=19)∧a r=some res:=by
 unfold gText at h
 by_cases hk:kd r=18∨kd r=19
 ·rw[if_pos hk] at h;cases h
 ·rw[if_neg hk] at h;exact⟨hk,h⟩
theorem if_none {p:Prop} [Decidable p] {x:Option (Bool×List PTk)} {res:Bool×List PTk} (h:(if p then none else x)=some res): ¬p∧x=some res:=by
 by_cases hk:p
 ·rw[if_pos hk] at h;cases h
 ·rw[if_neg hk] at h;exact⟨hk,h⟩
theorem gDd {r:List PTk} {res:Bool×List PTk} (h:gText (fun r=>if isW wRepeatable r=true then none else gThen (gWord wOn) (fun q=>if kd q=13 then none else gSepL gName 13 q) r) r=some res):gThen (gWord wOn) (gSepL gName 13) r=some res:=by
 have h2:=(if_none (gTx h).2).2
 unfold gThen at h2⊢
 split at h2
 ·cases h2
 ·exact h2
 ·exact(if_none h2).2
theorem gThen_t {a b:Gr} {l r:List PTk} (h:a l=some (true,r)):gThen a b l=b r:=by unfold gThen;rw[h]
theorem gThen_f {a b:Gr} {l r:List PTk} (h:a l=some (false,r)):gThen a b l=some (false,r):=by unfold gThen;rw[h]
theorem gThen_inv {a b:Gr} {l:List PTk} {res:Bool×List PTk} (h:gThen a b l=some res):(∃r,a l=some (true,r)∧b r=some res)∨(∃r,a l=some (false,r)∧res=(false,r)):=by
 unfold gThen at h
 split at h
 ·cases h
 ·rename_i r hr;exact .inr ⟨r,hr,(Option.some.inj h).symm⟩
 ·rename_i r hr;exact .inl ⟨r,hr,h⟩
theorem gFr {n:Nat} {l:List PTk} {res:Bool×List PTk} (h:gFragment n l=some res):gThen gFragName (gThen (gWord wOn) (gThen gName (gThen (gDirs n) (gSels n)))) l=some res:=by
 unfold gFragment at h
 by_cases hw:isW wOn l=true
 ·rw[if_pos hw] at h
  exact(gThen_f (show gFragName l=some (false,l) from if_pos hw)).trans h
 ·rw[if_neg hw] at h
  have e:gFragName l=gName l:=if_neg hw
  rcases gThen_inv h with⟨r,h1,h2⟩|⟨r,h1,h2⟩
  ·exact(gThen_t (e.trans h1)).trans (gTx (if_none h2).2).2
  ·exact(gThen_f (e.trans h1)).trans (by rw[h2])
theorem gEx {n:Nat} {l:List PTk} {res:Bool×List PTk} (h:gExtend n l=some res):gDf wType' (gObject n) l=some res:=by
 unfold gExtend at h
 by_cases hw:isW wType' l=true
 ·rw[if_pos hw] at h
  have hk:=isW_kd hw
  exact(gThen_t (show gDescr l=some (true,l) from if_neg (by omega))).trans ((gThen_t (show gWord wType' l=some (true,l.tail) from if_pos hw)).trans h)
 ·rw[if_neg hw] at h;cases h
def gOpDef (n:Nat):Gr:=fun l=>if kd l=12 then gSels n l else gOperation n l
theorem gNo9 {r:List PTk} {res:Bool×List PTk} (h:(if kd r=9 then none else some (true,r))=some res):res=(true,r):=(Option.some.inj (if_none h).2).symm
theorem parseOperationTypeR (E:PEnv):Rd E fq73 #[.pointer (some ⟨E.p,0,none⟩)] vO vOe (fun y=>y.2) gOpWord fun _ _=>True:=by
 intro H l res px hg
 refine parseOperationTypeX.enter _ H _ ?_
 unfold parseOperationTypeX.W
 unfold gOpWord at hg
 refine expX (by decide) px (fun hk x H1 ht y1 p1=>?_) (fun hk y H1 y1 he=>?_)
 ·refine tokB rfl fun b2 H2 x2 hb2 hlt=>?_
  have p2:=p1.grow x2
  have e2:=y1.trans x2.of_nil
  have hq:=ht.2.2 wQuery hk
  have hm:=ht.2.2 wMutation hk
  have hs:=ht.2.2 wSubscription hk
  refine⟨x.2.2.2,lcO hb2 rfl,?_⟩
  refine fkI (fun h1=>?_) (fun h1=>fkI (fun h2=>?_) (fun h2=>fkI (fun h3=>?_) (fun h3=>?_)))
  ·have ho:isOp l=true:=by unfold isOp;rw[←hq,show(x.2.2.2.toList==wQuery.toList)=true from h1];rfl
   rw[if_pos ho] at hg
   exact⟨_,lcO hb2 rfl,rkI (PostX.read (Option.some.inj hg).symm x.2.2.2 e2 p2 trivial)⟩
  ·have ho:isOp l=true:=by unfold isOp;rw[←hm,show(x.2.2.2.toList==wMutation.toList)=true from h2];simp
   rw[if_pos ho] at hg
   exact⟨_,lcO hb2 rfl,rkI (PostX.read (Option.some.inj hg).symm x.2.2.2 e2 p2 trivial)⟩
  ·have ho:isOp l=true:=by unfold isOp;rw[←hs,show(x.2.2.2.toList==wSubscription.toList)=true from h3];simp
   rw[if_pos ho] at hg
   exact⟨_,lcO hb2 rfl,rkI (PostX.read (Option.some.inj hg).symm x.2.2.2 e2 p2 trivial)⟩
  ·have ho: ¬isOp l=true:=by
    unfold isOp
    rw[←hq,←hm,←hs,show(x.2.2.2.toList==wQuery.toList)=false from h1,show(x.2.2.2.toList==wMutation.toList)=false from h2,show(x.2.2.2.toList==wSubscription.toList)=false from h3]
    decide
   rw[if_neg ho] at hg
   refine⟨x,lcO hb2 rfl,?_⟩
   refine unexpX (l':=l) p2 x (.inr ⟨?_,ht.2.1,px.le⟩) fun b H3 x3 he=>rkI (PostX.no (Option.some.inj hg).symm (eB,b) (e2.trans x3.of_nil) he)
   have:(x.1==tok0.1)=false:=by rw[ht.1,hk];rfl
   unfold tokEq
   rw[this];rfl
 ·have ho: ¬isOp l=true:=by
   unfold isOp
   rw[isW_no hk,isW_no hk,isW_no hk];decide
  rw[if_neg ho] at hg
  refine tokX rfl fun b2 H2 x2 hb2 _=>?_
  exact rkI (PostX.no (Option.some.inj hg).symm (eB,y.2.2.2.2) (y1.trans x2).of_nil (he.grow x2))
theorem parseImplementsR (E:PEnv):RdS E fq145 #[.pointer (some ⟨E.p,0,none⟩)] gImpl:=by
 intro H l res px hg
 refine parseImplementsInterfacesX.enter _ H _ ?_
 unfold parseImplementsInterfacesX.W
 obtain⟨hns,hg⟩:=gTx hg
 refine LstX.row0 px tq216 ptV fun b1 H2 l2=>?_
 obtain⟨pe,v,en,hp,hle,hno,hw⟩:=l2.px.obj
 refine⟨v,lcO hp rfl,?_⟩
 have hv:(v.toList==wImplements'.toList)=isW wImplements' l:=by
  by_cases hk:kd l=15
  ·exact hw _ hk
  ·rw[(hno hk (by omega) (by omega)).2,isW_no hk]
 refine fkI (fun hh=>?_) (fun hh=>?_)
 ·have h1:isW wImplements' l=true:=hv.symm.trans hh
  rw[if_pos h1] at hg
  obtain⟨t,r,rfl⟩:=kd_cons (l:=l) (by have:=isW_kd h1;omega)
  refine advX l2.px fun H3 y3 p3=>?_
  have l3:=l2.step y3 p3
  unfold gThen gOpt at hg
  refine skipX (by decide) p3 (fun k4 H4 y4 p4=>?_) (fun k4=>?_)
  ·have hg':gSepL gName 20 r.tail=some res:=by
    have k4':kd (t::r).tail=20:=k4
    rw[if_pos k4'] at hg;exact hg
   exact sepX (by unfold plainT;decide) (by decide) (parseNamedR E) hg' (l3.step y4 p4) fun _ _ h=>h
  ·have hg':gSepL gName 20 r=some res:=by
    have k4': ¬kd (t::r).tail=20:=k4
    rw[if_neg k4'] at hg;exact hg
   exact sepX (by unfold plainT;decide) (by decide) (parseNamedR E) hg' l3 fun _ _ h=>h
 ·have h1:isW wImplements' l=false:=hv.symm.trans hh
  rw[if_neg (by rw[h1];decide)] at hg
  exact rkI (PostX.read (Option.some.inj hg).symm ((some ⟨b1,0,none⟩,0,0):Option Addr×Nat×Nat) l2.ext l2.px trivial)
theorem parseOperationTypeDefinitionR (E:PEnv):RdI E fq141 #[.pointer (some ⟨E.p,0,none⟩)] tq224 (gThen gOpWord (gThen (gSign 7) gName)):=by
 intro H0 l0 res p0 hg0
 refine parseOperationTypeDefinitionX.enter _ H0 _ ?_
 unfold parseOperationTypeDefinitionX.W
 refine⟨_,p0.start,?_⟩
 have e0:Ext E.S H0 H0:=Ext.refl _ _
 refine Rd.call (p:=⟨ByteArray,vO⟩) (q:=⟨ByteArray×Nat,vOe⟩) (parseOperationTypeR E) p0 hg0 (fun x1 H1 r1 y1 p1 q1 _ hg1=>?_) (fun z _ _ y hr he=>rkI (PostX.no hr z.2 (e0.trans y) he))
 have e1:=e0.trans y1
 refine signX (by decide) p1 hg1 (fun x2 H2 t2 y2 p2 k2 hg2=>?_) (fun z _ y hr he=>rkI (PostX.no hr z.2.2.2.2 (e1.trans y) he))
 have e2:=e1.trans y2
 refine Rd.last (p:=⟨Nat,vB⟩) (q:=⟨Nat,vBe⟩) (parseNamedR E) p2 hg2 (fun x3 H3 r3 y3 p3 q3 hr3=>?_) (fun z _ _ y hr he=>rkI (PostX.no hr z (e2.trans y) he))
 have e3:=e2.trans y3
 refine locX p3 fun _ _ y p=>?_
 refine nodeX (NewOperationTypeDefinition_mk _ _ _) p fun b _ y2 p=>?_
 exact rkI (PostX.read hr3 b (e3.trans (y.trans y2).of_nil) p trivial)
theorem parseScalarTypeDefinitionR (E:PEnv) (n:Nat):RdI E fq106 #[.pointer (some ⟨E.p,0,none⟩)] tq233 (gDf wScalar' (gScalar n)):=by
 intro H0 l0 res p0 hg0
 refine parseScalarTypeDefinitionX.enter _ H0 _ ?_
 unfold parseScalarTypeDefinitionX.W
 refine⟨_,p0.start,?_⟩
 have e0:Ext E.S H0 H0:=Ext.refl _ _
 unfold gDf gScalar at hg0
 refine descrX p0 hg0 fun x1 H1 r1 y1 p1 hg1=>?_
 have e1:=e0.trans y1
 refine wordX p1 hg1 (fun x2 H2 y2 p2 k2 hg2=>?_) (fun z _ y hr he=>rkI (PostX.no hr z.2.2.2.2 (e1.trans y) he))
 have e2:=e1.trans y2
 refine Rd.call (p:=⟨Nat,vB⟩) (q:=⟨Nat,vBe⟩) (parseNameR E) p2 hg2 (fun x3 H3 r3 y3 p3 q3 _ hg3=>?_) (fun z _ _ y hr he=>rkI (PostX.no hr z (e2.trans y) he))
 have e3:=e2.trans y3
 refine Rd.last (p:=⟨(Option Addr×Nat×Nat),vS⟩) (q:=⟨(Option Addr×Nat×Nat)×Nat,vSe⟩) (dirsQ E n) p3 hg3 (fun x4 H4 r4 y4 p4 q4 hr4=>?_) (fun z _ _ y hr he=>rkI (PostX.no hr z.2 (e3.trans y) he))
 have e4:=e3.trans y4
 refine locX p4 fun _ _ y p=>?_
 refine nodeX (NewScalarDefinition_mk _ _ _ _ _ _) p fun b _ y2 p=>?_
 exact rkI (PostX.read hr4 b (e4.trans (y.trans y2).of_nil) p trivial)
theorem parseEnumValueDefinitionR (E:PEnv) (n:Nat):RdI E fq151 #[.pointer (some ⟨E.p,0,none⟩)] tq255 (gEnumValue n):=by
 intro H0 l0 res p0 hg0
 refine parseEnumValueDefinitionX.enter _ H0 _ ?_
 unfold parseEnumValueDefinitionX.W
 refine⟨_,p0.start,?_⟩
 have e0:Ext E.S H0 H0:=Ext.refl _ _
 unfold gEnumValue at hg0
 refine descrX p0 hg0 fun x1 H1 r1 y1 p1 hg1=>?_
 have e1:=e0.trans y1
 refine Rd.call (p:=⟨Nat,vB⟩) (q:=⟨Nat,vBe⟩) (parseNameR E) p1 hg1 (fun x2 H2 r2 y2 p2 q2 _ hg2=>?_) (fun z _ _ y hr he=>rkI (PostX.no hr z (e1.trans y) he))
 have e2:=e1.trans y2
 refine Rd.last (p:=⟨(Option Addr×Nat×Nat),vS⟩) (q:=⟨(Option Addr×Nat×Nat)×Nat,vSe⟩) (dirsQ E n) p2 hg2 (fun x3 H3 r3 y3 p3 q3 hr3=>?_) (fun z _ _ y hr he=>rkI (PostX.no hr z.2 (e2.trans y) he))
 have e3:=e2.trans y3
 refine locX p3 fun _ _ y p=>?_
 refine nodeX (NewEnumValueDefinition_mk _ _ _ _ _ _) p fun b _ y2 p=>?_
 exact rkI (PostX.read hr3 b (e3.trans (y.trans y2).of_nil) p trivial)
theorem parseUnionTypeDefinitionR (E:PEnv) (n:Nat):RdI E fq109 #[.pointer (some ⟨E.p,0,none⟩)] tq250 (gDf wUnion' (gUnion n)):=by
 intro H0 l0 res p0 hg0
 refine parseUnionTypeDefinitionX.enter _ H0 _ ?_
 unfold parseUnionTypeDefinitionX.W
 refine⟨_,p0.start,?_⟩
 have e0:Ext E.S H0 H0:=Ext.refl _ _
 unfold gDf gUnion at hg0
 refine descrX p0 hg0 fun x1 H1 r1 y1 p1 hg1=>?_
 have e1:=e0.trans y1
 refine wordX p1 hg1 (fun x2 H2 y2 p2 k2 hg2=>?_) (fun z _ y hr he=>rkI (PostX.no hr z.2.2.2.2 (e1.trans y) he))
 have e2:=e1.trans y2
 refine Rd.call (p:=⟨Nat,vB⟩) (q:=⟨Nat,vBe⟩) (parseNameR E) p2 hg2 (fun x3 H3 r3 y3 p3 q3 _ hg3=>?_) (fun z _ _ y hr he=>rkI (PostX.no hr z (e2.trans y) he))
 have e3:=e2.trans y3
 refine Rd.call (p:=⟨(Option Addr×Nat×Nat),vS⟩) (q:=⟨(Option Addr×Nat×Nat)×Nat,vSe⟩) (dirsQ E n) p3 hg3 (fun x4 H4 r4 y4 p4 q4 _ hg4=>?_) (fun z _ _ y hr he=>rkI (PostX.no hr z.2 (e3.trans y) he))
 have e4:=e3.trans y4
 have hg4:=gUn hg4
 refine signX (by decide) p4 hg4 (fun x5 H5 t5 y5 p5 k5 hg5=>?_) (fun z _ y hr he=>rkI (PostX.no hr z.2.2.2.2 (e4.trans y) he))
 have e5:=e4.trans y5
 refine Rd.last (p:=⟨(Option Addr×Nat×Nat),vS⟩) (q:=⟨(Option Addr×Nat×Nat)×Nat,vSe⟩) (parseUnionMembersR E) p5 hg5 (fun x6 H6 r6 y6 p6 q6 hr6=>?_) (fun z _ _ y hr he=>rkI (PostX.no hr z.2 (e5.trans y) he))
 have e6:=e5.trans y6
 refine locX p6 fun _ _ y p=>?_
 refine nodeX (NewUnionDefinition_mk _ _ _ _ _ _ _ _ _) p fun b _ y2 p=>?_
 exact rkI (PostX.read hr6 b (e6.trans (y.trans y2).of_nil) p trivial)
theorem parseInputValueDefR (E:PEnv) (n:Nat):RdI E fq153 #[.pointer (some ⟨E.p,0,none⟩)] tq261 (gInput n):=by
 intro H0 l0 res p0 hg0
 refine parseInputValueDefX.enter _ H0 _ ?_
 unfold parseInputValueDefX.W
 refine⟨_,p0.start,?_⟩
 have e0:Ext E.S H0 H0:=Ext.refl _ _
 unfold gInput gDefault at hg0
 refine descrX p0 hg0 fun x1 H1 r1 y1 p1 hg1=>?_
 have e1:=e0.trans y1
 refine Rd.call (p:=⟨Nat,vB⟩) (q:=⟨Nat,vBe⟩) (parseNameR E) p1 hg1 (fun x2 H2 r2 y2 p2 q2 _ hg2=>?_) (fun z _ _ y hr he=>rkI (PostX.no hr z (e1.trans y) he))
 have e2:=e1.trans y2
 refine signX (by decide) p2 hg2 (fun x3 H3 t3 y3 p3 k3 hg3=>?_) (fun z _ y hr he=>rkI (PostX.no hr z.2.2.2.2 (e2.trans y) he))
 have e3:=e2.trans y3
 refine Rd.call (p:=⟨Nat×Nat,vF⟩) (q:=⟨Nat,vIe⟩) (parseTypeR E n) p3 hg3 (fun x4 H4 r4 y4 p4 q4 _ hg4=>?_) (fun z _ _ y hr he=>rkI (PostX.no hr z (e3.trans y) he))
 have e4:=e3.trans y4
 refine skipX (by decide) p4 (fun k5 H5 y5 p5=>?_) (fun k5=>?_)
 ·refine fkI (fun _=>?_) (fun hh=>absurd hh (by decide))
  have e5:=e4.trans y5
  have hg5:=gThen_yes hg4 k5
  refine Rd.call (p:=⟨Nat×Nat,vF⟩) (q:=⟨Value×Nat,vFe⟩) (parseConstValueR E (parseValueLiteralR E n true)) p5 hg5 (fun x6 H6 r6 y6 p6 q6 _ hg6=>?_) (fun z _ _ y hr he=>rkI (PostX.no hr z.2 (e5.trans y) he))
  have e6:=e5.trans y6
  refine⟨valT_asC x6 q6,?_⟩
  refine Rd.last (p:=⟨(Option Addr×Nat×Nat),vS⟩) (q:=⟨(Option Addr×Nat×Nat)×Nat,vSe⟩) (dirsQ E n) p6 hg6 (fun x7 H7 r7 y7 p7 q7 hr7=>?_) (fun z _ _ y hr he=>rkI (PostX.no hr z.2 (e6.trans y) he))
  have e7:=e6.trans y7
  refine locX p7 fun _ _ y p=>?_
  refine nodeX (NewInputValueDefinition_mk _ _ _ _ _ _ _ _ _ _) p fun b _ y2 p=>?_
  exact rkI (PostX.read hr7 b (e7.trans (y.trans y2).of_nil) p trivial)
 ·refine fkI (fun hh=>absurd hh (by decide)) (fun _=>?_)
  have hg4:=gThen_no hg4 k5
  refine Rd.last (p:=⟨(Option Addr×Nat×Nat),vS⟩) (q:=⟨(Option Addr×Nat×Nat)×Nat,vSe⟩) (dirsQ E n) p4 hg4 (fun x5 H5 r5 y5 p5 q5 hr5=>?_) (fun z _ _ y hr he=>rkI (PostX.no hr z.2 (e4.trans y) he))
  have e5:=e4.trans y5
  refine locX p5 fun _ _ y p=>?_
  refine nodeX (NewInputValueDefinition0_mk _ _ _ _ _ _ _ _) p fun b _ y2 p=>?_
  exact rkI (PostX.read hr5 b (e5.trans (y.trans y2).of_nil) p trivial)
theorem argDefsR (E:PEnv) (n:Nat):RdS E fq156 #[.pointer (some ⟨E.p,0,none⟩)] (gInputsOpt n):=parseArgumentDefsR E n (parseInputValueDefR E n)
theorem parseVariableDefinitionR (E:PEnv) (n:Nat):RdI E fq102 #[.pointer (some ⟨E.p,0,none⟩)] tq169 (gVar n):=by
 intro H0 l0 res p0 hg0
 refine parseVariableDefinitionX.enter _ H0 _ ?_
 unfold parseVariableDefinitionX.W
 refine⟨_,p0.start,?_⟩
 have e0:Ext E.S H0 H0:=Ext.refl _ _
 unfold gVar gDefault at hg0
 rw[←gThen_assoc] at hg0
 refine Rd.call (p:=⟨Nat,vB⟩) (q:=⟨Nat,vBe⟩) (parseVariableR E) p0 hg0 (fun x1 H1 r1 y1 p1 q1 _ hg1=>?_) (fun z _ _ y hr he=>rkI (PostX.no hr z (e0.trans y) he))
 have e1:=e0.trans y1
 refine signX (by decide) p1 hg1 (fun x2 H2 t2 y2 p2 k2 hg2=>?_) (fun z _ y hr he=>rkI (PostX.no hr z.2.2.2.2 (e1.trans y) he))
 have e2:=e1.trans y2
 refine Rd.call (p:=⟨Nat×Nat,vF⟩) (q:=⟨Nat,vIe⟩) (parseTypeR E n) p2 hg2 (fun x3 H3 r3 y3 p3 q3 _ hg3=>?_) (fun z _ _ y hr he=>rkI (PostX.no hr z (e2.trans y) he))
 have e3:=e2.trans y3
 refine skipX (by decide) p3 (fun k4 H4 y4 p4=>?_) (fun k4=>?_)
 ·refine fkI (fun _=>?_) (fun hh=>absurd hh (by decide))
  have e4:=e3.trans y4
  have hg4:=gThen_yes hg3 k4
  refine Rd.call (p:=⟨Nat×Nat,vF⟩) (q:=⟨Value×Nat,vFe⟩) (parseValueLiteralR E n true) p4 hg4 (fun x5 H5 r5 y5 p5 q5 _ hg5=>?_) (fun z _ _ y hr he=>rkI (PostX.no hr z.2 (e4.trans y) he))
  have e5:=e4.trans y5
  refine locX p5 fun _ _ y p=>?_
  refine nodeX (NewVariableDefinition_mk _ _ _ _) p fun b _ y2 p=>?_
  exact rkI (PostX.read (gNo9 hg5) b (e5.trans (y.trans y2).of_nil) p trivial)
 ·refine fkI (fun hh=>absurd hh (by decide)) (fun _=>?_)
  have hg3:=gThen_no hg3 k4
  refine locX p3 fun _ _ y p=>?_
  refine nodeX (NewVariableDefinition_mk _ _ _ _) p fun b _ y2 p=>?_
  exact rkI (PostX.read (gNo9 hg3) b (e3.trans (y.trans y2).of_nil) p trivial)
theorem varDefsR (E:PEnv) (n:Nat):RdS E fq75 #[.pointer (some ⟨E.p,0,none⟩)] (gVars n):=parseVariableDefinitionsR E n (parseVariableDefinitionR E n)
theorem parseFieldDefinitionR (E:PEnv) (n:Nat):RdI E fq146 #[.pointer (some ⟨E.p,0,none⟩)] tq241 (gFieldDef n):=by
 intro H0 l0 res p0 hg0
 refine parseFieldDefinitionX.enter _ H0 _ ?_
 unfold parseFieldDefinitionX.W
 refine⟨_,p0.start,?_⟩
 have e0:Ext E.S H0 H0:=Ext.refl _ _
 unfold gFieldDef at hg0
 refine descrX p0 hg0 fun x1 H1 r1 y1 p1 hg1=>?_
 have e1:=e0.trans y1
 refine Rd.call (p:=⟨Nat,vB⟩) (q:=⟨Nat,vBe⟩) (parseNameR E) p1 hg1 (fun x2 H2 r2 y2 p2 q2 _ hg2=>?_) (fun z _ _ y hr he=>rkI (PostX.no hr z (e1.trans y) he))
 have e2:=e1.trans y2
 refine Rd.call (p:=⟨(Option Addr×Nat×Nat),vS⟩) (q:=⟨(Option Addr×Nat×Nat)×Nat,vSe⟩) (argDefsR E n) p2 hg2 (fun x3 H3 r3 y3 p3 q3 _ hg3=>?_) (fun z _ _ y hr he=>rkI (PostX.no hr z.2 (e2.trans y) he))
 have e3:=e2.trans y3
 refine signX (by decide) p3 hg3 (fun x4 H4 t4 y4 p4 k4 hg4=>?_) (fun z _ y hr he=>rkI (PostX.no hr z.2.2.2.2 (e3.trans y) he))
 have e4:=e3.trans y4
 refine Rd.call (p:=⟨Nat×Nat,vF⟩) (q:=⟨Nat,vIe⟩) (parseTypeR E n) p4 hg4 (fun x5 H5 r5 y5 p5 q5 _ hg5=>?_) (fun z _ _ y hr he=>rkI (PostX.no hr z (e4.trans y) he))
 have e5:=e4.trans y5
 refine Rd.last (p:=⟨(Option Addr×Nat×Nat),vS⟩) (q:=⟨(Option Addr×Nat×Nat)×Nat,vSe⟩) (dirsQ E n) p5 hg5 (fun x6 H6 r6 y6 p6 q6 hr6=>?_) (fun z _ _ y hr he=>rkI (PostX.no hr z.2 (e5.trans y) he))
 have e6:=e5.trans y6
 refine locX p6 fun _ _ y p=>?_
 refine nodeX (NewFieldDefinition_mk _ _ _ _ _ _ _ _ _ _ _) p fun b _ y2 p=>?_
 exact rkI (PostX.read hr6 b (e6.trans (y.trans y2).of_nil) p trivial)
theorem parseDirectiveDefinitionR (E:PEnv) (n:Nat):RdI E fq113 #[.pointer (some ⟨E.p,0,none⟩)] tq275 (gDf wDirective' (gDirDef n)):=by
 intro H0 l0 res p0 hg0
 refine parseDirectiveDefinitionX.enter _ H0 _ ?_
 unfold parseDirectiveDefinitionX.W
 refine⟨_,p0.start,?_⟩
 have e0:Ext E.S H0 H0:=Ext.refl _ _
 unfold gDf gDirDef at hg0
 refine descrX p0 hg0 fun x1 H1 r1 y1 p1 hg1=>?_
 have e1:=e0.trans y1
 refine wordX p1 hg1 (fun x2 H2 y2 p2 k2 hg2=>?_) (fun z _ y hr he=>rkI (PostX.no hr z.2.2.2.2 (e1.trans y) he))
 have e2:=e1.trans y2
 refine signX (by decide) p2 hg2 (fun x3 H3 t3 y3 p3 k3 hg3=>?_) (fun z _ y hr he=>rkI (PostX.no hr z.2.2.2.2 (e2.trans y) he))
 have e3:=e2.trans y3
 refine Rd.call (p:=⟨Nat,vB⟩) (q:=⟨Nat,vBe⟩) (parseNameR E) p3 hg3 (fun x4 H4 r4 y4 p4 q4 _ hg4=>?_) (fun z _ _ y hr he=>rkI (PostX.no hr z (e3.trans y) he))
 have e4:=e3.trans y4
 refine Rd.call (p:=⟨(Option Addr×Nat×Nat),vS⟩) (q:=⟨(Option Addr×Nat×Nat)×Nat,vSe⟩) (argDefsR E n) p4 hg4 (fun x5 H5 r5 y5 p5 q5 _ hg5=>?_) (fun z _ _ y hr he=>rkI (PostX.no hr z.2 (e4.trans y) he))
 have e5:=e4.trans y5
 have hg5:=gDd hg5
 refine wordX p5 hg5 (fun x6 H6 y6 p6 k6 hg6=>?_) (fun z _ y hr he=>rkI (PostX.no hr z.2.2.2.2 (e5.trans y) he))
 have e6:=e5.trans y6
 refine Rd.last (p:=⟨(Option Addr×Nat×Nat),vS⟩) (q:=⟨(Option Addr×Nat×Nat)×Nat,vSe⟩) (parseDirectiveLocationsR E) p6 hg6 (fun x7 H7 r7 y7 p7 q7 hr7=>?_) (fun z _ _ y hr he=>rkI (PostX.no hr z.2 (e6.trans y) he))
 have e7:=e6.trans y7
 refine locX p7 fun _ _ y p=>?_
 refine nodeX (NewDirectiveDefinition_mk _ _ _ _ _ _ _ _ _) p fun b _ y2 p=>?_
 exact rkI (PostX.read hr7 b (e7.trans (y.trans y2).of_nil) p trivial)
theorem parseSchemaDefinitionR (E:PEnv) (n:Nat):RdI E fq105 #[.pointer (some ⟨E.p,0,none⟩)] tq226 (gThen (gWord wSchema') (gSchema n)):=by
 intro H0 l0 res p0 hg0
 refine parseSchemaDefinitionX.enter _ H0 _ ?_
 unfold parseSchemaDefinitionX.W
 refine⟨_,p0.start,?_⟩
 have e0:Ext E.S H0 H0:=Ext.refl _ _
 unfold gSchema at hg0
 refine wordX p0 hg0 (fun x1 H1 y1 p1 k1 hg1=>?_) (fun z _ y hr he=>tokX rfl fun _ _ x2 _ _=>rkI (PostX.no hr z.2.2.2.2 (e0.trans (y.trans x2.of_nil)) (he.grow x2)))
 have e1:=e0.trans y1
 refine tokX rfl fun _ H2 y2 _ _=>?_
 have p2:=p1.grow y2
 have e2:=e1.trans y2.of_nil
 have hg2:=hg1
 refine Rd.call (p:=⟨(Option Addr×Nat×Nat),vS⟩) (q:=⟨(Option Addr×Nat×Nat)×Nat,vSe⟩) (dirsQ E n) p2 hg2 (fun x3 H3 r3 y3 p3 q3 _ hg3=>?_) (fun z _ _ y hr he=>rkI (PostX.no hr z.2 (e2.trans y) he))
 have e3:=e2.trans y3
 have hg3:gThen (gRev true 12 (gThen gOpWord (gThen (gSign 7) gName)) 14) gEnd r3=some res:=by rw[gThen_end];exact(gRev_list _ _ _ _).symm.trans hg3
 refine revX (by decide) (by decide) (parseOperationTypeDefinitionR E).toF (fun H R h=>reverseOpTypeX.enter _ _ _ _ H R h) p3 hg3 (fun x4 H4 r4 y4 p4 q4 h4=>?_) (fun z _ _ y hr he=>rkI (PostX.no hr z.2 (e3.trans y) he))
 have e4:=e3.trans y4
 refine LstX.row1 p4 tq224 ptV fun b8 H8 x8 l8=>?_
 refine convX tq224 tq224 (by unfold plainT;decide) (.inr (l8.row b8 rfl)) q4 x8 l8 fun w9 H9 _ l9=>?_
 refine locX l9.px fun _ _ y p=>?_
 refine nodeX (NewSchemaDefinition_mk _ _ _ _ _ _ _) p fun b _ y2 p=>?_
 exact rkI (PostX.read (Option.some.inj h4).symm b (e4.trans (l9.ext.trans (y.trans y2).of_nil)) p trivial)
theorem parseObjectTypeDefinitionR (E:PEnv) (n:Nat):RdI E fq107 #[.pointer (some ⟨E.p,0,none⟩)] tq242 (gDf wType' (gObject n)):=by
 intro H0 l0 res p0 hg0
 refine parseObjectTypeDefinitionX.enter _ H0 _ ?_
 unfold parseObjectTypeDefinitionX.W
 refine⟨_,p0.start,?_⟩
 have e0:Ext E.S H0 H0:=Ext.refl _ _
 unfold gDf gObject gFields at hg0
 refine descrX p0 hg0 fun x1 H1 r1 y1 p1 hg1=>?_
 have e1:=e0.trans y1
 refine wordX p1 hg1 (fun x2 H2 y2 p2 k2 hg2=>?_) (fun z _ y hr he=>rkI (PostX.no hr z.2.2.2.2 (e1.trans y) he))
 have e2:=e1.trans y2
 refine Rd.call (p:=⟨Nat,vB⟩) (q:=⟨Nat,vBe⟩) (parseNameR E) p2 hg2 (fun x3 H3 r3 y3 p3 q3 _ hg3=>?_) (fun z _ _ y hr he=>rkI (PostX.no hr z (e2.trans y) he))
 have e3:=e2.trans y3
 refine Rd.call (p:=⟨(Option Addr×Nat×Nat),vS⟩) (q:=⟨(Option Addr×Nat×Nat)×Nat,vSe⟩) (parseImplementsR E) p3 hg3 (fun x4 H4 r4 y4 p4 q4 _ hg4=>?_) (fun z _ _ y hr he=>rkI (PostX.no hr z.2 (e3.trans y) he))
 have e4:=e3.trans y4
 refine Rd.call (p:=⟨(Option Addr×Nat×Nat),vS⟩) (q:=⟨(Option Addr×Nat×Nat)×Nat,vSe⟩) (dirsQ E n) p4 hg4 (fun x5 H5 r5 y5 p5 q5 _ hg5=>?_) (fun z _ _ y hr he=>rkI (PostX.no hr z.2 (e4.trans y) he))
 have e5:=e4.trans y5
 have hg5:gThen (gRev false 12 (gFieldDef n) 14) gEnd r5=some res:=by rw[gThen_end];exact gBody_rev hg5
 refine revX (by decide) (by decide) (parseFieldDefinitionR E n).toF (fun H R h=>reverseFieldX.enter _ _ _ _ H R h) p5 hg5 (fun x6 H6 r6 y6 p6 q6 h6=>?_) (fun z _ _ y hr he=>rkI (PostX.no hr z.2 (e5.trans y) he))
 have e6:=e5.trans y6
 refine LstX.row1 p6 tq241 ptV fun b8 H8 x8 l8=>?_
 refine convX tq241 tq241 (by unfold plainT;decide) (.inr (l8.row b8 rfl)) q6 x8 l8 fun w9 H9 _ l9=>?_
 refine locX l9.px fun _ _ y p=>?_
 refine nodeX (NewObjectDefinition_mk _ _ _ _ _ _ _ _ _ _ _ _) p fun b _ y2 p=>?_
 exact rkI (PostX.read (Option.some.inj h6).symm b (e6.trans (l9.ext.trans (y.trans y2).of_nil)) p trivial)
theorem parseInterfaceTypeDefinitionR (E:PEnv) (n:Nat):RdI E fq108 #[.pointer (some ⟨E.p,0,none⟩)] tq246 (gDf wInterface' (gInterface n)):=by
 intro H0 l0 res p0 hg0
 refine parseInterfaceTypeDefinitionX.enter _ H0 _ ?_
 unfold parseInterfaceTypeDefinitionX.W
 refine⟨_,p0.start,?_⟩
 have e0:Ext E.S H0 H0:=Ext.refl _ _
 unfold gDf gInterface gFields at hg0
 refine descrX p0 hg0 fun x1 H1 r1 y1 p1 hg1=>?_
 have e1:=e0.trans y1
 refine wordX p1 hg1 (fun x2 H2 y2 p2 k2 hg2=>?_) (fun z _ y hr he=>rkI (PostX.no hr z.2.2.2.2 (e1.trans y) he))
 have e2:=e1.trans y2
 refine Rd.call (p:=⟨Nat,vB⟩) (q:=⟨Nat,vBe⟩) (parseNameR E) p2 hg2 (fun x3 H3 r3 y3 p3 q3 _ hg3=>?_) (fun z _ _ y hr he=>rkI (PostX.no hr z (e2.trans y) he))
 have e3:=e2.trans y3
 have hg3:=(if_none hg3).2
 refine Rd.call (p:=⟨(Option Addr×Nat×Nat),vS⟩) (q:=⟨(Option Addr×Nat×Nat)×Nat,vSe⟩) (dirsQ E n) p3 hg3 (fun x4 H4 r4 y4 p4 q4 _ hg4=>?_) (fun z _ _ y hr he=>rkI (PostX.no hr z.2 (e3.trans y) he))
 have e4:=e3.trans y4
 have hg4:gThen (gRev false 12 (gFieldDef n) 14) gEnd r4=some res:=by rw[gThen_end];exact gBody_rev hg4
 refine revX (by decide) (by decide) (parseFieldDefinitionR E n).toF (fun H R h=>reverseFieldX.enter _ _ _ _ H R h) p4 hg4 (fun x5 H5 r5 y5 p5 q5 h5=>?_) (fun z _ _ y hr he=>rkI (PostX.no hr z.2 (e4.trans y) he))
 have e5:=e4.trans y5
 refine LstX.row1 p5 tq241 ptV fun b8 H8 x8 l8=>?_
 refine convX tq241 tq241 (by unfold plainT;decide) (.inr (l8.row b8 rfl)) q5 x8 l8 fun w9 H9 _ l9=>?_
 refine locX l9.px fun _ _ y p=>?_
 refine nodeX (NewInterfaceDefinition_mk _ _ _ _ _ _ _ _ _) p fun b _ y2 p=>?_
 exact rkI (PostX.read (Option.some.inj h5).symm b (e5.trans (l9.ext.trans (y.trans y2).of_nil)) p trivial)
theorem parseEnumTypeDefinitionR (E:PEnv) (n:Nat):RdI E fq110 #[.pointer (some ⟨E.p,0,none⟩)] tq256 (gDf wEnum' (gEnum n)):=by
 intro H0 l0 res p0 hg0
 refine parseEnumTypeDefinitionX.enter _ H0 _ ?_
 unfold parseEnumTypeDefinitionX.W
 refine⟨_,p0.start,?_⟩
 have e0:Ext E.S H0 H0:=Ext.refl _ _
 unfold gDf gEnum at hg0
 refine descrX p0 hg0 fun x1 H1 r1 y1 p1 hg1=>?_
 have e1:=e0.trans y1
 refine wordX p1 hg1 (fun x2 H2 y2 p2 k2 hg2=>?_) (fun z _ y hr he=>rkI (PostX.no hr z.2.2.2.2 (e1.trans y) he))
 have e2:=e1.trans y2
 refine Rd.call (p:=⟨Nat,vB⟩) (q:=⟨Nat,vBe⟩) (parseNameR E) p2 hg2 (fun x3 H3 r3 y3 p3 q3 _ hg3=>?_) (fun z _ _ y hr he=>rkI (PostX.no hr z (e2.trans y) he))
 have e3:=e2.trans y3
 refine Rd.call (p:=⟨(Option Addr×Nat×Nat),vS⟩) (q:=⟨(Option Addr×Nat×Nat)×Nat,vSe⟩) (dirsQ E n) p3 hg3 (fun x4 H4 r4 y4 p4 q4 _ hg4=>?_) (fun z _ _ y hr he=>rkI (PostX.no hr z.2 (e3.trans y) he))
 have e4:=e3.trans y4
 have hg4:gThen (gRev false 12 (gEnumValue n) 14) gEnd r4=some res:=by rw[gThen_end];exact gBody_rev hg4
 refine revX (by decide) (by decide) (parseEnumValueDefinitionR E n).toF (fun H R h=>reverseEnumX.enter _ _ _ _ H R h) p4 hg4 (fun x5 H5 r5 y5 p5 q5 h5=>?_) (fun z _ _ y hr he=>rkI (PostX.no hr z.2 (e4.trans y) he))
 have e5:=e4.trans y5
 refine LstX.row1 p5 tq255 ptV fun b8 H8 x8 l8=>?_
 refine convX tq255 tq255 (by unfold plainT;decide) (.inr (l8.row b8 rfl)) q5 x8 l8 fun w9 H9 _ l9=>?_
 refine locX l9.px fun _ _ y p=>?_
 refine nodeX (NewEnumDefinition_mk _ _ _ _ _ _ _ _ _) p fun b _ y2 p=>?_
 exact rkI (PostX.read (Option.some.inj h5).symm b (e5.trans (l9.ext.trans (y.trans y2).of_nil)) p trivial)
theorem parseInputObjectTypeDefinitionR (E:PEnv) (n:Nat):RdI E fq111 #[.pointer (some ⟨E.p,0,none⟩)] tq262 (gDf wInput' (gInputObj n)):=by
 intro H0 l0 res p0 hg0
 refine parseInputObjectTypeDefinitionX.enter _ H0 _ ?_
 unfold parseInputObjectTypeDefinitionX.W
 refine⟨_,p0.start,?_⟩
 have e0:Ext E.S H0 H0:=Ext.refl _ _
 unfold gDf gInputObj gInputs at hg0
 refine descrX p0 hg0 fun x1 H1 r1 y1 p1 hg1=>?_
 have e1:=e0.trans y1
 refine wordX p1 hg1 (fun x2 H2 y2 p2 k2 hg2=>?_) (fun z _ y hr he=>rkI (PostX.no hr z.2.2.2.2 (e1.trans y) he))
 have e2:=e1.trans y2
 refine Rd.call (p:=⟨Nat,vB⟩) (q:=⟨Nat,vBe⟩) (parseNameR E) p2 hg2 (fun x3 H3 r3 y3 p3 q3 _ hg3=>?_) (fun z _ _ y hr he=>rkI (PostX.no hr z (e2.trans y) he))
 have e3:=e2.trans y3
 refine Rd.call (p:=⟨(Option Addr×Nat×Nat),vS⟩) (q:=⟨(Option Addr×Nat×Nat)×Nat,vSe⟩) (dirsQ E n) p3 hg3 (fun x4 H4 r4 y4 p4 q4 _ hg4=>?_) (fun z _ _ y hr he=>rkI (PostX.no hr z.2 (e3.trans y) he))
 have e4:=e3.trans y4
 have hg4:gThen (gRev false 12 (gInput n) 14) gEnd r4=some res:=by rw[gThen_end];exact gBody_rev hg4
 refine revX (by decide) (by decide) (parseInputValueDefR E n).toF (fun H R h=>reverseInputX.enter _ _ _ _ H R h) p4 hg4 (fun x5 H5 r5 y5 p5 q5 h5=>?_) (fun z _ _ y hr he=>rkI (PostX.no hr z.2 (e4.trans y) he))
 have e5:=e4.trans y5
 refine LstX.row1 p5 tq261 ptV fun b8 H8 x8 l8=>?_
 refine convX tq261 tq261 (by unfold plainT;decide) (.inr (l8.row b8 rfl)) q5 x8 l8 fun w9 H9 _ l9=>?_
 refine locX l9.px fun _ _ y p=>?_
 refine nodeX (NewInputObjectDefinition_mk _ _ _ _ _ _ _ _ _) p fun b _ y2 p=>?_
 exact rkI (PostX.read (Option.some.inj h5).symm b (e5.trans (l9.ext.trans (y.trans y2).of_nil)) p trivial)
theorem parseTypeExtensionDefinitionR (E:PEnv) (n:Nat):RdI E fq112 #[.pointer (some ⟨E.p,0,none⟩)] tq266 (gThen (gWord wExtend') (gExtend n)):=by
 intro H0 l0 res p0 hg0
 refine parseTypeExtensionDefinitionX.enter _ H0 _ ?_
 unfold parseTypeExtensionDefinitionX.W
 refine⟨_,p0.start,?_⟩
 have e0:Ext E.S H0 H0:=Ext.refl _ _
 refine wordX p0 hg0 (fun x1 H1 y1 p1 k1 hg1=>?_) (fun z _ y hr he=>tokX rfl fun _ _ x2 _ _=>rkI (PostX.no hr z.2.2.2.2 (e0.trans (y.trans x2.of_nil)) (he.grow x2)))
 have e1:=e0.trans y1
 refine tokX rfl fun _ H2 y2 _ _=>?_
 have p2:=p1.grow y2
 have e2:=e1.trans y2.of_nil
 have hg2:=hg1
 have hg2:=gEx hg2
 refine Rd.last (p:=⟨Nat,vI tq242⟩) (q:=⟨Nat,vIe⟩) (parseObjectTypeDefinitionR E n) p2 hg2 (fun x3 H3 r3 y3 p3 q3 hr3=>?_) (fun z _ _ y hr he=>rkI (PostX.no hr z (e2.trans y) he))
 have e3:=e2.trans y3
 refine locX p3 fun _ _ y p=>?_
 refine nodeX (NewTypeExtensionDefinition_mk _ _) p fun b _ y2 p=>?_
 exact rkI (PostX.read hr3 b (e3.trans (y.trans y2).of_nil) p trivial)
theorem parseFragmentDefinitionR (E:PEnv) (n:Nat):RdI E fq104 #[.pointer (some ⟨E.p,0,none⟩)] tq219 (gThen (gWord wFragment') (gFragment n)):=by
 intro H0 l0 res p0 hg0
 refine parseFragmentDefinitionX.enter _ H0 _ ?_
 unfold parseFragmentDefinitionX.W
 refine⟨_,p0.start,?_⟩
 have e0:Ext E.S H0 H0:=Ext.refl _ _
 refine wordX p0 hg0 (fun x1 H1 y1 p1 k1 hg1=>?_) (fun z _ y hr he=>tokX rfl fun _ _ x2 _ _=>rkI (PostX.no hr z.2.2.2.2 (e0.trans (y.trans x2.of_nil)) (he.grow x2)))
 have e1:=e0.trans y1
 refine tokX rfl fun _ H2 y2 _ _=>?_
 have p2:=p1.grow y2
 have e2:=e1.trans y2.of_nil
 have hg2:=hg1
 have hg2:=gFr hg2
 refine Rd.call (p:=⟨Nat,vB⟩) (q:=⟨Nat,vBe⟩) (parseFragmentNameR E) p2 hg2 (fun x3 H3 r3 y3 p3 q3 _ hg3=>?_) (fun z _ _ y hr he=>rkI (PostX.no hr z (e2.trans y) he))
 have e3:=e2.trans y3
 refine wordX p3 hg3 (fun x4 H4 y4 p4 k4 hg4=>?_) (fun z _ y hr he=>rkI (PostX.no hr z.2.2.2.2 (e3.trans y) he))
 have e4:=e3.trans y4
 refine Rd.call (p:=⟨Nat,vB⟩) (q:=⟨Nat,vBe⟩) (parseNamedR E) p4 hg4 (fun x5 H5 r5 y5 p5 q5 _ hg5=>?_) (fun z _ _ y hr he=>rkI (PostX.no hr z (e4.trans y) he))
 have e5:=e4.trans y5
 refine Rd.call (p:=⟨(Option Addr×Nat×Nat),vS⟩) (q:=⟨(Option Addr×Nat×Nat)×Nat,vSe⟩) (dirsQ E n) p5 hg5 (fun x6 H6 r6 y6 p6 q6 _ hg6=>?_) (fun z _ _ y hr he=>rkI (PostX.no hr z.2 (e5.trans y) he))
 have e6:=e5.trans y6
 refine Rd.last (p:=⟨Nat,vB⟩) (q:=⟨Nat,vBe⟩) (parseSelectionSetR E n) p6 hg6 (fun x7 H7 r7 y7 p7 q7 hr7=>?_) (fun z _ _ y hr he=>rkI (PostX.no hr z (e6.trans y) he))
 have e7:=e6.trans y7
 refine locX p7 fun _ _ y p=>?_
 refine nodeX (NewFragmentDefinition_mk _ _ _ _ _ _ _ _ _ _ _) p fun b _ y2 p=>?_
 exact rkI (PostX.read hr7 b (e7.trans (y.trans y2).of_nil) p trivial)
theorem parseOperationDefinitionR (E:PEnv) (n:Nat):RdI E fq36 #[.pointer (some ⟨E.p,0,none⟩)] tq122 (gOpDef n):=by
 intro H0 l0 res p0 hg0
 refine parseOperationDefinitionX.enter _ H0 _ ?_
 unfold parseOperationDefinitionX.W
 refine⟨_,p0.start,?_⟩
 have e0:Ext E.S H0 H0:=Ext.refl _ _
 unfold gOpDef at hg0
 refine peekX p0 (fkI (fun hh=>?_) (fun hh=>?_))
 ·have k0:kd l0=12:=by simpa using hh
  rw[if_pos k0] at hg0
  refine Rd.last (p:=⟨Nat,vB⟩) (q:=⟨Nat,vBe⟩) (parseSelectionSetR E n) p0 hg0 (fun x1 H1 r1 y1 p1 q1 hr1=>?_) (fun z _ _ y hr he=>rkI (PostX.no hr z (e0.trans y) he))
  have e1:=e0.trans y1
  refine LstX.row1 p1 tq170 ptV fun b8 H8 x8 l8=>?_
  refine locX l8.px fun _ _ y p=>?_
  refine nodeX (NewOperationDefinition_mk _ _ _ _ _ _ _ _ _ _) p fun b _ y2 p=>?_
  exact rkI (PostX.read hr1 b (e1.trans (x8.of_nil.trans (y.trans y2).of_nil)) p trivial)
 ·have k0:kd l0≠12:=by simpa using hh
  rw[if_neg k0] at hg0
  unfold gOperation at hg0
  refine Rd.call (p:=⟨ByteArray,vO⟩) (q:=⟨ByteArray×Nat,vOe⟩) (parseOperationTypeR E) p0 hg0 (fun x1 H1 r1 y1 p1 q1 _ hg1=>?_) (fun z _ _ y hr he=>rkI (PostX.no hr z.2 (e0.trans y) he))
  have e1:=e0.trans y1
  refine peekX p1 (fkI (fun hh=>?_) (fun hh=>?_))
  ·have k1:kd r1=15:=by simpa using hh
   have hg1:gThen gName (gThen (gVars n) (gThen (gDirs n) (gSels n))) r1=some res:=by
    unfold gThen gOpt at hg1
    unfold gThen gName
    rw[if_pos k1] at hg1
    rw[gSign_yes k1]
    exact hg1
   refine Rd.call (p:=⟨Nat,vB⟩) (q:=⟨Nat,vBe⟩) (parseNameR E) p1 hg1 (fun x2 H2 r2 y2 p2 q2 _ hg2=>?_) (fun z _ _ y hr he=>rkI (PostX.no hr z (e1.trans y) he))
   have e2:=e1.trans y2
   refine Rd.call (p:=⟨(Option Addr×Nat×Nat),vS⟩) (q:=⟨(Option Addr×Nat×Nat)×Nat,vSe⟩) (varDefsR E n) p2 hg2 (fun x3 H3 r3 y3 p3 q3 _ hg3=>?_) (fun z _ _ y hr he=>rkI (PostX.no hr z.2 (e2.trans y) he))
   have e3:=e2.trans y3
   refine Rd.call (p:=⟨(Option Addr×Nat×Nat),vS⟩) (q:=⟨(Option Addr×Nat×Nat)×Nat,vSe⟩) (dirsQ E n) p3 hg3 (fun x4 H4 r4 y4 p4 q4 _ hg4=>?_) (fun z _ _ y hr he=>rkI (PostX.no hr z.2 (e3.trans y) he))
   have e4:=e3.trans y4
   refine Rd.last (p:=⟨Nat,vB⟩) (q:=⟨Nat,vBe⟩) (parseSelectionSetR E n) p4 hg4 (fun x5 H5 r5 y5 p5 q5 hr5=>?_) (fun z _ _ y hr he=>rkI (PostX.no hr z (e4.trans y) he))
   have e5:=e4.trans y5
   refine locX p5 fun _ _ y p=>?_
   refine nodeX (NewOperationDefinition_mk _ _ _ _ _ _ _ _ _ _) p fun b _ y2 p=>?_
   exact rkI (PostX.read hr5 b (e5.trans (y.trans y2).of_nil) p trivial)
  ·have k1:kd r1≠15:=by simpa using hh
   have hg1:gThen (gVars n) (gThen (gDirs n) (gSels n)) r1=some res:=by
    unfold gThen gOpt at hg1
    unfold gThen
    rw[if_neg k1] at hg1
    exact hg1
   refine Rd.call (p:=⟨(Option Addr×Nat×Nat),vS⟩) (q:=⟨(Option Addr×Nat×Nat)×Nat,vSe⟩) (varDefsR E n) p1 hg1 (fun x2 H2 r2 y2 p2 q2 _ hg2=>?_) (fun z _ _ y hr he=>rkI (PostX.no hr z.2 (e1.trans y) he))
   have e2:=e1.trans y2
   refine Rd.call (p:=⟨(Option Addr×Nat×Nat),vS⟩) (q:=⟨(Option Addr×Nat×Nat)×Nat,vSe⟩) (dirsQ E n) p2 hg2 (fun x3 H3 r3 y3 p3 q3 _ hg3=>?_) (fun z _ _ y hr he=>rkI (PostX.no hr z.2 (e2.trans y) he))
   have e3:=e2.trans y3
   refine Rd.last (p:=⟨Nat,vB⟩) (q:=⟨Nat,vBe⟩) (parseSelectionSetR E n) p3 hg3 (fun x4 H4 r4 y4 p4 q4 hr4=>?_) (fun z _ _ y hr he=>rkI (PostX.no hr z (e3.trans y) he))
   have e4:=e3.trans y4
   refine locX p4 fun _ _ y p=>?_
   refine nodeX (NewOperationDefinition_mk _ _ _ _ _ _ _ _ _ _) p fun b _ y2 p=>?_
   exact rkI (PostX.read hr4 b (e4.trans (y.trans y2).of_nil) p trivial)
abbrev ResP (E:SEnv) (σ:St) (B:Nat) (g:Gr) (H:Heap):Value→Heap→Prop:=fun v H'=> ∃(y:Sli) (σ':St),v= .slice y.1 y.2.1 y.2.2∧OutS E σ B g H y σ' H'∧(σ'.bad=false→y.2.1+1≤2*(σ'.at_ -σ.at_))
abbrev ResF (E:SEnv) (σ:St) (B:Nat) (g:Gr) (H:Heap):Value→Heap→Prop:=fun v H'=> ∃(y:Sli) (σ':St),v= .slice y.1 y.2.1 y.2.2∧OutS E σ B g H y σ' H'
def SpP (E:SEnv) (f:FuncId) (args:Array Value) (σ:St) (B:Nat) (g:Gr):Prop:= ∀H,SP E H σ→Fn PP f args H (ResP E σ B g H)
theorem rest_length (E:SEnv) (i:Nat):(E.rest i).length=E.ts.length -i:=by simp[SEnv.rest]
section
variable {E:SEnv} {A C:Heap} {σ0:St} {g0:Gr} {d:Int} {g:Gr} {B m lo:Nat} {F:Heap→Prop} {ks:List Sli} {σ:St} {H:Heap}
theorem Acc.callP {fn:FuncId} {args:Array Value} {f:Gr} {Bf:Nat} (a:Acc E A C σ0 g0 d (gThen f g) B m lo F ks σ H) (hf:SpP E fn args σ Bf f) {K:Sli→Heap→Prop}
 (hk: ∀y σ' H',Acc E A C σ0 g0 d g (max (B+2) (2001+Bf)) (m+y.2.1+1) (lo+1) F (ks++[y]) σ' H'→(σ'.bad=false→σ.bad=false∧σ.at_<σ'.at_)→K y H'):callW PP fn args H pSlc K:=by
 have h: ∀H,SP E H σ→Fn PP fn args H fun v H'=> ∃(y:Sli) (σ':St),v= .slice y.1 y.2.1 y.2.2∧OutS E σ Bf f H y σ' H'∧(σ'.bad=false→y.2.1+1≤2*(σ'.at_ -σ.at_)):=hf
 refine(h H a.sp).mono ?_
 rintro _ H' ⟨y,σ',rfl,o,hp⟩
 have hlim:=a.lim
 have hat:=a.at_le
 have hbk:σ'.bad=false→σ.bad=false:=fun h=>by
  rcases bad_or σ with h'|h'
  ·exact not_bad (o.mono.bad h').1 h
  ·exact h'
 have h2:=o.l2
 have a1:Acc E A C σ0 g0 d g (max (B+2) (2001+Bf)) (m+y.2.1+1) (lo+1) F ks σ' H':=by
  refine a.move o.ext o.sp o.mono.un (fun h=>?_) ?_ (by omega) fun G hi=>hi.step o
  ·obtain⟨h1,h2,h3,h4⟩:=a.ok (hbk h)
   obtain⟨h5,h6⟩:=o.mono.ok h
   have h7:=hp h
   exact⟨h5.trans h1,by omega,by omega,by omega⟩
  ·rcases bad_or σ with hb|hb
   ·have:=o.l0 hb;omega
   ·obtain⟨h1,h2,h3,h4⟩:=a.ok hb;omega
 refine⟨y,rfl,hk y σ' H' (a1.setK fun b hb=>?_) fun h=>⟨hbk h,by have:=hp h;omega⟩⟩
 rcases List.mem_append.1 hb with hb|hb
 ·exact a1.kids b hb
 ·rw[List.mem_singleton.1 hb]
  exact o.nodes.older a.ch
theorem Acc.retP (a:Acc E A C σ0 g0 σ0.deep gEnd B m lo F ks σ H) (hb:σ0.bad=false) {y:Sli} (hy:Born C H (NewsOk y)) (hl:y.2.1≤m) {B':Nat} (hB:B≤B') (hlo:σ.bad=false→y.2.1+1≤m):retK (some [.slice y.1 y.2.1 y.2.2]) H (ResP E σ0 B' g0 A):=
 rkI ⟨y,σ,rfl,a.out hb hy hl hB,fun h=>by have:=hlo h;have:=(a.ok h).2.2.2;omega⟩
theorem Acc.retF (a:Acc E A C σ0 g0 σ0.deep gEnd B m lo F ks σ H) (hb:σ0.bad=false) {y:Sli} (hy:Born C H (NewsOk y)) (hl:y.2.1≤m) {B':Nat} (hB:B≤B'):retK (some [.slice y.1 y.2.1 y.2.2]) H (ResF E σ0 B' g0 A):=
 rkI ⟨y,σ,rfl,a.out hb hy hl hB⟩
theorem Acc.failP (a:Acc E A C σ0 g0 σ0.deep g B m lo F ks σ H) (hb:σ0.bad=false) (hg:σ.bad=false→σ.unsure=false→g (E.rest σ.at_)=some (false,E.rest σ.at_)) {B':Nat} (hB:B≤B'):
 callW PP fq13 #[.pointer (some ⟨E.p,0,none⟩)] H pSlc fun(x3:Option Addr×Nat×Nat) H4=>retK (some [.slice x3.1 x3.2.1 x3.2.2]) H4 (ResP E σ0 B' g0 A):=
 a.fail hg fun _ a'=>a'.retP (y:=(none,0,0)) hb Born.nil (Nat.zero_le _) hB fun h=>not_bad (fail_bad _) h
theorem Acc.failF (a:Acc E A C σ0 g0 σ0.deep g B m lo F ks σ H) (hb:σ0.bad=false) (hg:σ.bad=false→σ.unsure=false→g (E.rest σ.at_)=some (false,E.rest σ.at_)) {B':Nat} (hB:B≤B'):
 callW PP fq13 #[.pointer (some ⟨E.p,0,none⟩)] H pSlc fun(x3:Option Addr×Nat×Nat) H4=>retK (some [.slice x3.1 x3.2.1 x3.2.2]) H4 (ResF E σ0 B' g0 A):=
 a.fail hg fun _ a'=>a'.retF (y:=(none,0,0)) hb Born.nil (Nat.zero_le _) hB
theorem Acc.made0 {n:Nd} (a:Acc E A C σ0 g0 d g B m lo F ks σ H) {K:Sli→Heap→Prop} (hk: ∀y H',Acc E A C σ0 g0 d g B m lo F ks σ H'→y.2.1=1→Born C H' (NewsOk y)→K y H'):
 callW PP fq14 #[.agg #[.int .i64 n.kind,.string n.name,.string n.alias,.string n.text,.int .i64 n.flag,.int .i64 n.size],.slice none 0 0] H pSlc K:=
 a.made (bs:=[]) ⟨rfl,.inl rfl⟩ (by simp) (by simp) (by simp[sumL]) fun y H' a' hl hb=>hk y H' a' (by simpa [sumL] using hl) hb
theorem Acc.leafP {n:Nd} (a:Acc E A C σ0 g0 σ0.deep gEnd B m lo F ks σ H) (hb:σ0.bad=false) {B':Nat} (hB:B≤B') (hm:2≤m):
 callW PP fq14 #[.agg #[.int .i64 n.kind,.string n.name,.string n.alias,.string n.text,.int .i64 n.flag,.int .i64 n.size],.slice none 0 0] H pSlc fun(x3:Option Addr×Nat×Nat) H4=>retK (some [.slice x3.1 x3.2.1 x3.2.2]) H4 (ResP E σ0 B' g0 A):=
 a.made0 fun y _ a' hl hy=>a'.retP hb hy (by omega) hB fun _=>by omega
theorem Acc.atA (a:Acc E A C σ0 g0 d g B m lo F ks σ H):Acc E A A σ0 g0 d g B m lo F [] σ H:=
 {a with cz:=Nat.le_refl _,cx:=a.ext,kids:=fun _ h=>by cases h}
theorem Acc.as {g1 g2 g3:Gr} (a:Acc E A C σ0 g0 d (gThen (gThen g1 g2) g3) B m lo F ks σ H):Acc E A C σ0 g0 d (gThen g1 (gThen g2 g3)) B m lo F ks σ H:=by rw[←gThen_assoc];exact a
theorem Acc.loopOf {it:Gr} {c:Int} (a:Acc E A C σ0 g0 d (gLoop it c) B m lo F ks σ H):Acc E A C σ0 g0 d (gMany it c (E.ts.length -σ.at_+1)) B m lo F ks σ H:=
 a.of fun _ _ res hr=>by unfold gLoop;rw[rest_length];exact hr
end
theorem value_ofP {E:SEnv} {n B:Nat} {c:Bool} {σ:St} (hd:σ.bad=false→σ.deep+(n+1:Nat)=60)
 (hh: ∀σ1:St,σ1.bad=false→σ1.deep+n=60→SpP E fq89 #[.pointer (some ⟨E.p,0,none⟩),.bool c] σ1 B (gHere n c)):
 SpP E fq65 #[.pointer (some ⟨E.p,0,none⟩),.bool c] σ B (gValue (n+1) c):=by
 intro H sp
 refine spValue.enter _ _ H _ ?_
 unfold spValue.W
 have hpl:=sp.lt
 refine enterS sp (fun hb h60 H1 x1 s1=>?_) (fun H1 d u x1 s1 hu hu2=>fkI (fun _=>rkI ⟨(none,0,0),_,rfl,OutS.refused x1 s1 hu hu2,fun h=>not_bad (fail_bad _) h⟩) (fun hh=>absurd hh (by decide)))
 refine fkI (fun hh=>absurd hh (by decide)) (fun _=>?_)
 have hdn:=hd hb
 have hdp:=sp.deep hb
 refine(hh {σ with deep:=σ.deep+1} hb (by show σ.deep+1+(n:Int)=60;omega) H1 s1).mono ?_
 rintro _ H2 ⟨y,σ2,rfl,o,hprog⟩
 refine⟨y,rfl,?_⟩
 have hz1:=x1.size
 have hz2:=o.ext.size
 have hd2:σ2.bad=false→σ2.deep=σ.deep+1:=fun h=>(o.mono.ok h).1
 refine leaveS o.sp (fun h=>by have:=hd2 h;omega) fun H3 d x3 s3 hdd=>?_
 refine rkI ⟨y,_,rfl,{ext:=(x1.trans o.ext).trans x3,sp:=s3,nodes:=fun G hG=>o.nodes G fun k w hk hw=>hG k w (by omega) (x3.get _ _ hw (by simp;omega)),mono:=⟨o.mono.un,fun h=>absurd (h.symm.trans hb) (by decide),fun h=>⟨?_,(o.mono.ok h).2⟩⟩,l0:=fun h=>absurd (h.symm.trans hb) (by decide),l1:=fun h=>o.l1 h,l2:=o.l2,gr:=fun G _ h2 hu=>o.gr G (fun h=>absurd ((show σ.bad=true from h).symm.trans hb) (by decide)) (fun _=>h2 hb) hu},hprog⟩
 have h7:σ2.bad=false:=h
 have:=hdd h7
 have:=hd2 h7
 show d=σ.deep
 omega
def bV (n:Nat):Nat:=2010*n
theorem SEnv.at' {E:SEnv} {i:Nat} (h:i<E.ts.length):E.val i=E.ts[i].value∧kd (E.rest i)=E.ts[i].kind:=by
 refine⟨?_,?_⟩
 ·unfold SEnv.val;rw[List.getElem?_eq_getElem h]
 ·rw[rest_lt h];rfl
theorem Acc.pushI {E:SEnv} {A:Heap} {σ0:St} {g0:Gr} {d:Int} {g:Gr} {B m lo:Nat} {ks:List Sli} {σ:St} {H H1:Heap} {D:Heap} {z y:Sli} {l:List Sli} {F1:Heap→Prop}
 (a:Acc E A H1 σ0 g0 d g B m lo (fun G=>KM A D G z l∧F1 G) ks σ H) (hz1:KM A D H1 z l) (hD:D.size≤H1.size) (hDp:E.p<D.size) (hy:Born H1 H (NewsOk y)) (hlen:l.length≤100000)
 (hF1: ∀G',(∀k o,H[k]?=some o→rowOf z.1≠some k→G'[k]?=some o)→F1 G') (hF1s: ∀G G',Ext [E.p] G G'→F1 G→F1 G') {K:Option Addr→Nat→Heap→Prop}
 (hk: ∀ad c H',Acc E A H' σ0 g0 d g B m lo (fun G=>KM A D G (ad,z.2.1+1,c) (l++[y])∧F1 G) [] σ H'→K ad c H'):
 newB H (.cells #[.slice y.1 y.2.1 y.2.2] tq36) fun b2 H2=>appK H2 tq36 1 24 z.1 z.2.1 z.2.2 (some ⟨b2,0,none⟩) 1 K:=
 a.push a.fr.1 hz1.rowlt hD hDp hy hlen hF1 hF1s hk
theorem valueHereF {E:SEnv} {c:Bool} {n:Nat} (hn:n≤60) (hv: ∀σ:St,(σ.bad=false→σ.deep+n=60)→SpP E fq65 #[.pointer (some ⟨E.p,0,none⟩),.bool c] σ (bV n) (gValue n c)):
 ∀σ:St,σ.bad=false→σ.deep+n=60→SpP E fq89 #[.pointer (some ⟨E.p,0,none⟩),.bool c] σ (bV (n+1)) (gHere n c):=by
 intro σ hb hd H sp
 have a0:Acc E H H σ (gHere n c) σ.deep (gHere n c) 2000 0 σ.at_ (fun _=>True) [] σ H:=Acc.start sp hb
 have hB1:2010≤bV (n+1):=by unfold bV;omega
 have hB2:bV (n+1)=bV n+2010:=by unfold bV;omega
 have hB3:bV n≤120600:=by unfold bV;omega
 have hat:=a0.at_le
 have hle:=sp.le
 have hnn:=sp.n
 refine spValueHere.enter _ _ H _ ?_
 unfold spValueHere.W
 refine⟨(σ.at_:Int),lcO sp.obj rfl,(E.ta,E.ts.length,E.tc),lcO sp.obj rfl,?_⟩
 dsimp only
 refine fkI (fun hh=>a0.failP hb (fun _ _=>?_) (by omega)) (fun hh=>?_)
 ·rw[rest_ge (by simp at hh;omega)];rfl
 have hlt:σ.at_<E.ts.length:=by simp at hh;omega
 obtain⟨hval,hkd⟩:=SEnv.at' (E:=E) hlt
 generalize hkk:E.ts[σ.at_].kind=k at hkd
 generalize hvv:E.ts[σ.at_].value=val at hval
 refine⟨(E.ta,E.ts.length,E.tc),lcO sp.obj rfl,(σ.at_:Int),lcO sp.obj rfl,?_⟩
 dsimp only
 have hix:=(sp.cell hlt (j:=0) (o:=offOf E.ta+(σ.at_*4+0)) (by omega) rfl (v:= .int .i64 E.ts[σ.at_].kind) rfl).1
 have ht4: ∀ {G:Heap},SP E G σ→loadC G true 4 ⟨blkOf E.ta,offOf E.ta+((σ.at_:Nat):Int).toNat*4,none⟩=some (.agg #[.int .i64 k,.string val,.int .i64 E.ts[σ.at_].start,.int .i64 E.ts[σ.at_].stop]):=fun s=>by rw[s.tok4 hlt,hkk,hvv]
 generalize (E.ts[σ.at_].start:Int)=st at ht4
 generalize (E.ts[σ.at_].stop:Int)=en at ht4
 refine⟨hix,(k,val,st,en),ht4 sp,?_⟩
 dsimp only
 refine nbI fun H1 e1 hb1 x1 s1=>?_
 have sp1:=sp.grow x1
 refine⟨ht4 sp1,lcO sp1.obj rfl,lcO sp1.obj rfl,?_⟩
 refine swI hb1 (by simp) rfl rfl fun H2 e2 hb2 x2 s2=>?_
 have hb2':H2[H.size]?=some (.cells #[.int .i64 k,.string val,.int .i64 st,.int .i64 en] tq39):=hb2
 have y2:Ext [] H H2:=by rw[e2];exact x1.setNew (Nat.le_refl _) _
 have hpl:=sp.lt
 have a2:Acc E H H σ (gHere n c) σ.deep (gHere n c) 2000 0 σ.at_ (fun G=>NB E.p H.size (.cells #[.int .i64 k,.string val,.int .i64 st,.int .i64 en] tq39) G) [] σ H2:=
  (a0.grow y2).setF ⟨by omega,hb2'⟩ NB.ext
 generalize H.size=tb at a2
 clear hb2 hb2' hb1 x1 x2 s1 s2 e1 e2 y2 sp1 ht4 hix
 refine⟨k,lcO a2.fr.2 rfl,?_⟩
 have leaf:(kd (E.rest σ.at_)=16∨kd (E.rest σ.at_)=17∨kd (E.rest σ.at_)=18∨kd (E.rest σ.at_)=19∨kd (E.rest σ.at_)=15∧isW wNull (E.rest σ.at_)=false)→ ∀res,gEnd (E.rest (σ.at_+1))=some res→gHere n c (E.rest σ.at_)=some res:=by
  intro hk res hr
  rw[←rest_tail] at hr
  unfold gHere
  rcases hk with hk|hk|hk|hk|⟨hk,hw⟩
  ·rw[hk];exact hr
  ·rw[hk];exact hr
  ·rw[hk];exact hr
  ·rw[hk];exact hr
  ·rw[hk,hw];exact hr
 have hk1: ∀j:Int,k=j→j≠1→kd (E.rest σ.at_)≠1:=fun j h h1=>by rw[hkd,h];exact h1
 refine fkI (fun hk3=>?_) (fun hk3=>?_)
 ·have hk3':k=3:=by simpa using hk3
  have e3:gHere n c (E.rest σ.at_)=if c=true then some (false,E.rest σ.at_) else gName (E.rest σ.at_).tail:=by unfold gHere;rw[hkd,hk3'];rfl
  refine fkI (fun hc=>a2.failP hb (fun _ _=>by rw[e3,if_pos hc]) (by omega)) (fun hc=>?_)
  refine a2.next (gThen gName gEnd) (hk1 3 hk3' (by decide)) (fun _ _ res hr=>by rw[e3,if_neg (by rw[hc];decide),rest_tail,←gThen_end gName];exact hr) fun H3 a3=>?_
  refine a3.name fun s σ4 H4 a4 h4 _=>?_
  exact a4.leafP (n:=⟨11,s,bs [],bs [],0,0⟩) hb (by omega) (by omega)
 have hk3':k≠3:=by simpa using hk3
 refine⟨fun y H'=>y.1=(k==16||k==17)∧H'=H2,fkI (fun h=>⟨by rw[h];rfl,rfl⟩) (fun h=>⟨by rw[h];rfl,rfl⟩),?_⟩
 rintro⟨b21,_⟩ H2 ⟨hb21,rfl⟩
 dsimp only at hb21⊢
 have hb21':b21=(k==16||k==17):=hb21
 refine⟨fun _ H'=>(k≠16∧k≠17∧k≠18∧k≠19∧k≠15∧k≠10∧k≠12)∧H'=H2,fkI (fun h=>?_) (fun h=>?_),?_⟩
 ·refine a2.next gEnd (hk1 k rfl (fun e=>by rw[hb21',e] at h;cases h)) (fun _ _=>leaf ?_) fun H3 a3=>?_
  ·rw[hkd]
   rw[hb21'] at h
   rcases(Bool.or_eq_true _ _).mp h with h|h
   ·left;simpa using h
   ·right;left;simpa using h
  ·refine⟨k,lcO a3.fr.2 rfl,val,lcO a3.fr.2 rfl,?_⟩
   exact a3.leafP (n:=⟨_,bs [],bs [],val,0,0⟩) hb (by omega) (by omega)
 ·rw[hb21'] at h
  have h16:k≠16:=fun e=>by rw[e] at h;cases h
  have h17:k≠17:=fun e=>by rw[e] at h;cases h
  refine⟨fun y H'=>y.1=(k==18||k==19)∧H'=H2,fkI (fun h=>⟨by rw[h];rfl,rfl⟩) (fun h=>⟨by rw[h];rfl,rfl⟩),?_⟩
  rintro⟨b33,_⟩ H2 ⟨hb33,rfl⟩
  dsimp only at hb33⊢
  refine⟨fun _ H'=>(k≠18∧k≠19∧k≠15∧k≠10∧k≠12)∧H'=H2,fkI (fun h=>?_) (fun h=>?_),?_⟩
  ·refine a2.next gEnd (hk1 k rfl (fun e=>by rw[hb33,e] at h;cases h)) (fun _ _=>leaf ?_) fun H3 a3=>?_
   ·rw[hkd]
    rw[hb33] at h
    rcases(Bool.or_eq_true _ _).mp h with h|h
    ·right;right;left;simpa using h
    ·right;right;right;left;simpa using h
   ·refine⟨val,lcO a3.fr.2 rfl,k,lcO a3.fr.2 rfl,?_⟩
    exact a3.leafP (n:=⟨14,bs [],bs [],val,_,0⟩) hb (by omega) (by omega)
  ·rw[hb33] at h
   have h18:k≠18:=fun e=>by rw[e] at h;cases h
   have h19:k≠19:=fun e=>by rw[e] at h;cases h
   refine fkI (fun h15=>?_) (fun h15=>?_)
   ·have h15':k=15:=by simpa using h15
    have hw: ∀w:ByteArray,(val.toList==w.toList)=isW w (E.rest σ.at_):=fun w=>by rw[←hval];exact isW_val (by rw[hkd];exact h15') w
    have e15:gHere n c (E.rest σ.at_)=if isW wNull (E.rest σ.at_)=true then none else some (true,(E.rest σ.at_).tail):=by unfold gHere;rw[hkd,h15'];rfl
    refine a2.next (fun l=>if isW wNull (E.rest σ.at_)=true then none else some (true,l)) (hk1 15 h15' (by decide)) (fun _ _ res hr=>by rw[e15,rest_tail];exact hr) fun H3 a3=>?_
    have fin:isW wNull (E.rest σ.at_)=false→ ∀(nd:Nd),callW PP fq14 #[.agg #[.int .i64 nd.kind,.string nd.name,.string nd.alias,.string nd.text,.int .i64 nd.flag,.int .i64 nd.size],.slice none 0 0] H3 pSlc fun(x3:Option Addr×Nat×Nat) H4=>retK (some [.slice x3.1 x3.2.1 x3.2.2]) H4 (ResP E σ (bV (n+1)) (gHere n c) H):=fun hn nd=>
     Acc.leafP (a3.of fun _ _ res hr=>by dsimp only;rw[if_neg (by rw[hn];decide)];exact hr) hb (by omega) (by omega)
    have other: ∀w:ByteArray,isW w (E.rest σ.at_)=true→w≠wNull→isW wNull (E.rest σ.at_)=false:=fun w h1 h2=>by
     rw[←hw,bytes_beq] at h1⊢
     have h3:val=w:=by simpa using h1
     simp[h3,h2]
    refine⟨val,lcO a3.fr.2 rfl,?_⟩
    dsimp only
    rw[hw,hw,hw]
    refine fkI (fun h=>fin (other _ h (by decide)) ⟨15,bs [],bs [],bs [],1,0⟩) (fun _=>?_)
    refine fkI (fun h=>fin (other _ h (by decide)) ⟨15,bs [],bs [],bs [],0,0⟩) (fun _=>?_)
    refine fkI (fun h=>?_) (fun h=>?_)
    ·refine a3.mark (fun l=>some (false,l)) (fun _=>rfl) (fun h=>by cases h) fun H4 a4=>?_
     exact a4.failP hb (fun _ _=>rfl) (by omega)
    ·refine⟨val,lcO a3.fr.2 rfl,?_⟩
     exact fin h ⟨16,val,bs [],bs [],0,0⟩
   have h15':k≠15:=by simpa using h15
   refine fkI (fun h10=>?_) (fun h10=>?_)
   ·have h10':k=10:=by simpa using h10
    have e10:gHere n c (E.rest σ.at_)=gLoop (gValue n c) 11 (E.rest σ.at_).tail:=by unfold gHere;rw[hkd,h10'];rfl
    refine a2.next (gLoop (gValue n c) 11) (hk1 10 h10' (by decide)) (fun _ _ res hr=>by rw[e10,rest_tail];exact hr) fun H3 a3=>?_
    have a3':=(a3.loopOf).leB (B':=bV n+2006) (by omega)
    have a3f:=a3'.setF (F':=fun G=>KM H H G (none,0,0) []∧True) ⟨KM.nil _ _ _,trivial⟩ fun G G' x h=>⟨KM.stable a3.p a3.p G G' x h.1,trivial⟩
    refine Acc.loop (Y:=List Sli) [] (fun f=>gMany (gValue n c) 11 f) (fun z l G=>KM H H G z.1 l∧True) (fun z l _ f m=>2+sumL l≤m∧l.length+f≤1002) a3f ⟨by simp[sumL],by simp;omega⟩ (fun _=>by dsimp only;omega) ?_
    rintro z l σ1 H4 f1 m1 lo1 next a4 ⟨hs1,hs2⟩ hf1 hnext
    refine a4.head2 (by decide) hf1 (fun f' e hb1 a5=>fkI (fun _=>?_) (fun hh=>by cases hh)) (fun σ' H' lo' a5 hst=>fkI (fun hh=>by cases hh) (fun _=>?_))
    ·have hd1:=(a4.ok hb1).1
     subst e
     refine a5.callP (hv σ1 fun _=>by rw[hd1];exact hd) fun y σ2 H5 a6 hp=>?_
     have hz:=a4.fr.1
     refine a6.pushI hz a4.ext.size a4.p (a6.kids y (by simp)) (by omega) (fun _ _=>trivial) (fun _ _ _ _=>trivial) fun ad cc H6 a7=>?_
     refine hnext _ (l++[y]) σ2 H6 f' _ _ ((a7.leB (by omega)).rebase) ⟨by rw[sumL_snoc];omega,by simp;omega⟩ (fun h=>by have:=hf1 hb1;have:=(hp h).2;omega) hb1 (fun h=>(hp h).2)
    ·have hz:=a5.fr.1
     refine a5.made (n:=⟨17,bs [],bs [],bs [],0,0⟩) hz.slc.1 hz.slc.2 (by omega) (by have:=a5.lim;omega) fun y H5 a6 hl hy=>?_
     exact a6.retP hb hy (by omega) (by omega) (fun h=>by omega)
   have h10':k≠10:=by simpa using h10
   refine fkI (fun h12=>?_) (fun h12=>⟨⟨h18,h19,h15',h10',by simpa using h12⟩,rfl⟩)
   have h12':k=12:=by simpa using h12
   have e12:gHere n c (E.rest σ.at_)=gLoop (gThen gName (gThen (gSign 7) (gValue n c))) 14 (E.rest σ.at_).tail:=by unfold gHere;rw[hkd,h12'];rfl
   refine a2.next (gLoop (gThen gName (gThen (gSign 7) (gValue n c))) 14) (hk1 12 h12' (by decide)) (fun _ _ res hr=>by rw[e12,rest_tail];exact hr) fun H3 a3=>?_
   have a3':=(a3.loopOf).leB (B':=bV n+2006) (by omega)
   have a3f:=a3'.setF (F':=fun G=>KM H H G (none,0,0) []∧True) ⟨KM.nil _ _ _,trivial⟩ fun G G' x h=>⟨KM.stable a3.p a3.p G G' x h.1,trivial⟩
   refine Acc.loop (Y:=List Sli) [] (fun f=>gMany (gThen gName (gThen (gSign 7) (gValue n c))) 14 f) (fun z l G=>KM H H G z.1 l∧True) (fun z l _ f m=>2+sumL l≤m∧l.length+f≤1002) a3f ⟨by simp[sumL],by simp;omega⟩ (fun _=>by dsimp only;omega) ?_
   rintro z l σ1 H4 f1 m1 lo1 next a4 ⟨hs1,hs2⟩ hf1 hnext
   refine a4.head2 (by decide) hf1 (fun f' e hb1 a5=>fkI (fun _=>?_) (fun hh=>by cases hh)) (fun σ' H' lo' a5 hst=>fkI (fun hh=>by cases hh) (fun _=>?_))
   ·have hd1:=(a4.ok hb1).1
    subst e
    refine a5.as.name fun s σ2 H5 a6 h6 _=>?_
    refine a6.node fun nb H6 hnb a7=>?_
    refine a7.as.must (by decide) fun σ3 H7 a8 h8=>?_
    refine⟨(19,s,bs [],bs [],0,0),lcO a8.fr.2.2 rfl,?_⟩
    dsimp only
    refine a8.callP (hv σ3 fun hb3=>by have:=(a8.ok hb3).1;rw[this];exact hd) fun y σ4 H8 a9 hp=>?_
    refine⟨lcO a9.fr.2.2 rfl,?_⟩
    refine nbI fun H9 e9 hb9 x9 s9=>?_
    have a10:=a9.grow x9
    refine⟨lcO a10.fr.2.2 rfl,?_⟩
    refine a10.madeK (n:=⟨19,s,bs [],bs [],0,0⟩) hb9 (by simp) (by have:=a9.lim;simp[sumL];omega) (by simp) fun w H10 a11 hw hbw=>?_
    have hz:=a4.fr.1
    have hw':w.2.1=1+y.2.1:=by simpa [sumL] using hw
    have hprog:σ4.bad=false→σ1.at_<σ4.at_:=fun h=>by
     have h9:=hp h
     have h8:=h8 h9.1
     have h6:=h6 h8.1
     omega
    have a11':=a11.setF (F':=fun G=>KM H H G z.1 l∧True) a11.fr.1 fun G G' x h=>⟨KM.stable a3.p a3.p G G' x h.1,trivial⟩
    refine a11'.pushI hz a4.ext.size a4.p hbw (by omega) (fun _ _=>trivial) (fun _ _ _ _=>trivial) fun ad cc H11 a12=>?_
    refine hnext _ (l++[w]) σ4 H11 f' _ _ ((a12.leB (by omega)).rebase) ⟨by rw[sumL_snoc];omega,by simp;omega⟩ (fun h=>by have:=hf1 hb1;have:=hprog h;omega) hb1 hprog
   ·have hz:=a5.fr.1
    refine a5.made (n:=⟨18,bs [],bs [],bs [],0,0⟩) hz.slc.1 hz.slc.2 (by omega) (by have:=a5.lim;omega) fun y H5 a6 hl hy=>?_
    exact a6.retP hb hy (by omega) (by omega) (fun h=>by omega)
  ·rintro⟨b36,_⟩ H3 ⟨⟨h18,h19,h15,h10,h12⟩,e⟩
   exact⟨⟨h16,h17,h18,h19,h15,h10,h12⟩,e⟩
 ·rintro⟨b24,_⟩ H3 ⟨⟨h16,h17,h18,h19,h15,h10,h12⟩,rfl⟩
  refine a2.failP hb (fun _ _=>?_) (by omega)
  unfold gHere
  simp only[hkd,hk3',h16,h17,h18,h19,h15,h10,h12,if_false,or_self]
theorem valueF {E:SEnv} {c:Bool}: ∀(n:Nat),n≤60→ ∀σ:St,(σ.bad=false→σ.deep+n=60)→SpP E fq65 #[.pointer (some ⟨E.p,0,none⟩),.bool c] σ (bV n) (gValue n c):=by
 intro n
 induction n with
 |zero=>
  intro _ σ hd H sp
  refine spValue.enter _ _ H _ ?_
  unfold spValue.W
  refine enterS sp (fun hb h60 H1 x1 s1=>by have:=hd hb;omega) (fun H1 d u x1 s1 hu hu2=>?_)
  exact fkI (fun _=>rkI ⟨(none,0,0),_,rfl,OutS.refused x1 s1 hu hu2,fun h=>not_bad (fail_bad _) h⟩) (fun hh=>absurd hh (by decide))
 |succ n ih=>
  intro hn σ hd
  exact value_ofP hd (valueHereF (by omega) (ih (by omega)))
section
variable {E:SEnv} {A C:Heap} {σ0:St} {g0:Gr} {d:Int} {g:Gr} {B m lo:Nat} {F:Heap→Prop} {ks:List Sli} {σ:St} {H:Heap}
theorem Acc.loopN {it:Gr} {c:Int} (h1:c≠1) {BI:Nat} (a:Acc E A C σ0 g0 d (gLoop it c) B m lo F ks σ H) (hB:B≤BI) (hBI:BI≤900000) (hfst:σ.bad=false→kd (E.rest σ.at_)≠c)
 {ITEM:((Option Addr×Nat×Nat)×Int×Unit)→Heap→(((Option Addr×Nat×Nat)×Int×Unit)→Heap→Prop)→Prop} {RET:((Option Addr×Nat×Nat)×Int×Unit)→Heap→Prop}
 (hitem: ∀(z:(Option Addr×Nat×Nat)×Int×Unit) (σ:St) (H:Heap) (f m:Nat) (next),Acc E A H σ0 g0 d (gThen it (gMany it c f)) 2000 m σ.at_ (fun G=>NL A G z.1) [] σ H→σ.bad=false→
   (∀(y:Sli) (σ':St) (C' H':Heap) (B' m' lo':Nat) (F':Heap→Prop) (ks':List Sli),Acc E A C' σ0 g0 d (gMany it c f) B' m' lo' F' ks' σ' H'→NL A H' z.1→B'≤BI→(σ'.bad=false→σ.at_<σ'.at_)→NewsOk y H'→m+y.2.1≤m'→
     appK H' tq63 6 72 z.1.1 z.1.2.1 z.1.2.2 y.1 y.2.1 fun a c H3=>next ((a,z.1.2.1+y.2.1,c),IntKind.i64.wrap (z.2.1+1),()) H3)→ITEM z H next)
 (hret: ∀(z:(Option Addr×Nat×Nat)×Int×Unit) (σ:St) (C H:Heap) (m lo:Nat),Acc E A C σ0 g0 d gEnd (BI+2) m lo (fun G=>NL A G z.1) [] σ H→z.1.2.1≤m→(σ.bad=false→σ0.at_<lo)→RET z H):
 loopK ((Option Addr×Nat×Nat)×Int×Unit) ((none,0,0),0,()) H fun z5 H6 next7=>
  joinK (Bool×Unit) (fun J8=>
  loadW H6 false 1 ⟨E.p,4,none⟩ pBool fun(x11:Bool)=>
   forkB (!x11)
   (forkB (z5.2.1==0)
     (J8 (true,()) H6)
     (callW PP fq55 #[(.pointer (some ⟨E.p,0,none⟩)),(.int .i64 c)] H6 pBool fun(x12:Bool) H13=>
       J8 ((!x12),()) H13))
   (J8 (false,()) H6)) fun y9 H10=>
  forkB y9.1 (ITEM z5 H10 next7) (RET z5 H10):=by
 have hle:=a.sp.le
 have hnn:=a.sp.n
 have a':=(a.loopOf.leB hB).setF (F':=fun G=>NL A G (none,0,0)) (NL.nil _ _) (NL.stable a.p)
 refine Acc.loop (Y:=Unit) () (fun f=>gMany it c f) (fun z _ G=>NL A G z.1) (fun z _ σ f m=>z.1.2.1≤m∧ ∃k:Nat,z.2.1=(k:Int)∧k+f≤1002∧(k=0→σ.bad=false→kd (E.rest σ.at_)≠c)) a' ⟨Nat.zero_le _,0,rfl,by omega,fun _=>hfst⟩ (fun _=>by omega) ?_
 rintro⟨z1,z2,_⟩ _ σ1 H1 f1 m1 lo1 next a1 ⟨hs1,k,hk,hkf,hk0⟩ hf1 hnext
 dsimp only at hk hs1
 subst hk
 refine a1.head1 h1 hf1 (fun h hb=>hk0 (by simpa using h) hb) (fun f' e hb a2=>fkI (fun _=>?_) (fun hh=>by cases hh)) (fun σ' H' lo' a2 hst=>fkI (fun hh=>by cases hh) (fun _=>?_))
 ·subst e
  refine hitem _ σ1 H1 f' m1 next a2 hb fun y σ2 C2 H2 B2 m2 lo2 F2 ks2 a3 hz hB2 hlt hy hm=>?_
  have hl3:=a3.lim
  dsimp only at hz
  refine a3.app (z:=z1) hz hy (by omega) fun ad cc H3 a4=>?_
  have hw:IntKind.i64.wrap ((k:Int)+1)=((k+1:Nat):Int):=by rw[i64w (by omega)];omega
  refine hnext _ () σ2 H3 f' m2 _ (a4.leB hB2) ⟨by dsimp only;omega,k+1,by dsimp only;rw[hw],by omega,fun h=>by omega⟩ (fun h=>by have:=hf1 hb;have:=hlt h;omega) hb hlt
 ·exact hret _ σ' _ H' m1 lo' a2 hs1 fun h=>by have h3:=hst h;have:=(a1.ok h3.1).2.1;omega
theorem OutS.same {g:Gr} (sp:SP E H σ) {B:Nat} (hg:σ.bad=false→g (E.rest σ.at_)=some (true,E.rest σ.at_)):OutS E σ B g H (none,0,0) σ H where
 ext:=Ext.refl _ _
 sp:=sp
 nodes:=Born.nil
 mono:=Mono.refl σ
 l0:=fun _=>Nat.zero_le _
 l1:=fun _=>Nat.zero_le _
 l2:=Nat.zero_le _
 gr:=fun _ h1 h2 _=>res_same h1 fun hb=>h2 hb _ (hg hb)
end
theorem gList_open {o:Int} {it:Gr} {c:Int} {l:List PTk} (h:kd l=o):gList o it c l=if kd l.tail=c then some (false,l) else gLoop it c l.tail:=by
 unfold gList;rw[if_pos h]
theorem argumentsF {E:SEnv} {c:Bool} {n:Nat} (hc:c=false) (hn:n≤60) (σ:St) (hd:σ.bad=false→σ.deep+n=60):SpF E fq61 #[.pointer (some ⟨E.p,0,none⟩),.bool c] σ (bV n+2010) (gArgs n):=by
 intro H sp
 subst hc
 have hB3:bV n≤120600:=by unfold bV;omega
 refine spArguments.enter _ _ H _ ?_
 unfold spArguments.W
 by_cases hb:σ.bad=true
 ·refine takenS sp (by decide) (fun h=>not_bad hb h) (fun _=>fkI (fun _=>rkI ⟨(none,0,0),σ,rfl,OutS.same sp fun h=>not_bad hb h⟩) (fun hh=>by cases hh))
 have hb:σ.bad=false:=by simpa using hb
 have a0:Acc E H H σ (gArgs n) σ.deep (gArgs n) 2000 0 σ.at_ (fun _=>True) [] σ H:=Acc.start sp hb
 refine a0.taken (by decide) (fun l=>if kd l=5 then some (false,E.rest σ.at_) else gLoop (gArg n) 5 l) (fun _ hk res hr=>?_) (fun _ hk H1 a1=>fkI (fun hh=>by cases hh) (fun _=>?_)) (fun hk=>fkI (fun _=>?_) (fun hh=>by cases hh))
 ·unfold gArgs
  rw[if_pos hk,gList_open hk,rest_tail]
  exact hr
 ·refine Acc.someP (E.rest σ.at_) a1 (fun _=>⟨by dsimp only;omega,by dsimp only;rw[Nat.add_sub_cancel]⟩) fun σ2 H2 a2 h2=>?_
  refine a2.loopN (BI:=bV n+2006) (by decide) (by omega) (by omega) (fun h=>(h2 h).2) ?_ ?_
  ·intro z σ3 H3 f m3 next a3 hb3 hnext
   refine a3.as.name fun s σ4 H4 a4 h4 _=>?_
   refine a4.node fun nb H5 hnb a5=>?_
   refine a5.as.must (by decide) fun σ6 H6 a6 h6=>?_
   refine⟨(9,s,bs [],bs [],0,0),lcO a6.fr.2.2 rfl,?_⟩
   dsimp only
   refine a6.callP (valueF n hn σ6 fun hb6=>by have:=(a6.ok hb6).1;rw[this];exact hd hb) fun y σ7 H7 a7 h7=>?_
   refine⟨lcO a7.fr.2.2 rfl,?_⟩
   refine nbI fun H8 e8 hb8 x8 s8=>?_
   have a8:=a7.grow x8
   refine⟨lcO a8.fr.2.2 rfl,?_⟩
   refine a8.madeK (n:=⟨9,s,bs [],bs [],0,0⟩) hb8 (by simp) (by have:=a8.lim;simp[sumL];omega) (by simp) fun w H9 a9 hw hbw=>?_
   have hw':w.2.1=1+y.2.1:=by simpa [sumL] using hw
   exact hnext w σ7 _ H9 _ _ _ _ _ a9 a9.fr.1 (by omega) (fun h=>by have h7:=h7 h;have h6:=h6 h7.1;have h4:=h4 h6.1;omega) hbw.self' (by omega)
  ·intro z σ3 C3 H3 m3 lo3 a3 hz hlo
   exact a3.atA.retF hb a3.fr.born hz (by omega)
 ·refine rkI ⟨(none,0,0),σ,rfl,OutS.same sp fun _=>?_⟩
  unfold gArgs
  rw[if_neg (hk.resolve_left fun h=>not_bad h hb)]
theorem gDirsGo_stop {n f:Nat} {l:List PTk} (h:kd l≠9):gDirsGo n (f+1) l=some (true,l):=by
 show(if kd l=9 then _ else _)=_
 rw[if_neg h]
theorem gDirsGo_go {n f:Nat} {l:List PTk} (h:kd l=9):gDirsGo n (f+1) l=gThen (gThen gName (gArgs n)) (gDirsGo n f) l.tail:=by
 show(if kd l=9 then gThen (gDir n) (gDirsGo n f) l else _)=_
 rw[if_pos h]
 unfold gDir
 rw[gThen_assoc]
 unfold gThen gSign
 rw[if_pos h]
theorem directivesF {E:SEnv} {c:Bool} {n:Nat} (hn:n≤60) (σ:St) (hd:σ.bad=false→σ.deep+n=60):SpF E fq26 #[.pointer (some ⟨E.p,0,none⟩),.bool c] σ (bV n+4020) (gDirs n):=by
 intro H sp
 have hB3:bV n≤120600:=by unfold bV;omega
 have hnn:=sp.n
 refine spDirectives.enter _ _ H _ ?_
 unfold spDirectives.W
 by_cases hb:σ.bad=true
 ·refine⟨fun z H'=>z=((none,0,0),())∧H'=H,fun _ _=>0,⟨rfl,rfl⟩,?_⟩
  rintro _ H ⟨rfl,rfl⟩
  refine⟨fun y H'=>y=(false,())∧H'=H,⟨σ.bad,lcO sp.obj rfl,fkI (fun h=>by rw[hb] at h;cases h) (fun _=>⟨rfl,rfl⟩)⟩,?_⟩
  rintro _ H ⟨rfl,rfl⟩
  exact fkI (fun h=>by cases h) (fun _=>rkI ⟨(none,0,0),σ,rfl,OutS.same sp fun h=>not_bad hb h⟩)
 have hb:σ.bad=false:=by simpa using hb
 have a0:Acc E H H σ (gDirs n) σ.deep (gDirs n) 2000 0 σ.at_ (fun _=>True) [] σ H:=Acc.start sp hb
 have a1:=((a0.of (g':=gDirsGo n (E.ts.length -σ.at_+1)) fun _ _ res hr=>by unfold gDirs;rw[rest_length];exact hr).leB (B':=bV n+4018) (by omega)).setF (F':=fun G=>NL H G (none,0,0)) (NL.nil _ _) (NL.stable a0.p)
 refine Acc.loop (Y:=Unit) () (fun f=>gDirsGo n f) (fun z _ G=>NL H G z.1) (fun z _ σ f m=>z.1.2.1≤m) a1 (Nat.zero_le _) (fun _=>by have:=sp.le;omega) ?_
 rintro⟨z1,_⟩ _ σ1 H1 f1 m1 lo1 next a2 hs1 hf1 hnext
 dsimp only at hs1
 have hat:=a2.at_le
 refine⟨fun y H'=>(y.1=false∧H'=H1∧(σ1.bad=true∨kd (E.rest σ1.at_)≠9))∨(y.1=true∧σ1.bad=false∧ ∃f',f1=f'+1∧Acc E H H1 σ (gDirs n) σ.deep (gThen (gThen gName (gArgs n)) (gDirsGo n f')) 2002 (m1+2) (σ1.at_+1) (fun G=>NL H G z1) [] {σ1 with at_:=σ1.at_+1} H'),?_,?_⟩
 ·refine⟨σ1.bad,lcO a2.sp.obj rfl,fkI (fun h=>?_) (fun h=> .inl ⟨rfl,rfl,.inl (by simpa using h)⟩)⟩
  have hb1:σ1.bad=false:=by simpa using h
  obtain⟨f',hf'⟩: ∃f',f1=f'+1:=⟨f1 -1,by have:=hf1 hb1;have:=a2.sp.le;omega⟩
  subst hf'
  exact(a2.fresh hb1 (Nat.le_refl 2000)).taken (by decide) (gThen (gThen gName (gArgs n)) (gDirsGo n f')) (fun _ hk res hr=>by rw[gDirsGo_go hk,rest_tail];exact hr) (fun _ hk H2 a3=> .inr ⟨rfl,hb1,f',rfl,a3⟩) (fun hk=> .inl ⟨rfl,rfl,hk⟩)
 rintro⟨b,_⟩ H2 (⟨hb2,rfl,hk⟩|⟨hb2,hb1,f',rfl,a3⟩)
 ·dsimp only at hb2;subst hb2
  refine fkI (fun h=>by cases h) (fun _=>?_)
  have a3:=a2.of (g':=gEnd) fun h1 _ res hr=>by
   obtain⟨f',hf'⟩: ∃f',f1=f'+1:=⟨f1 -1,by have:=hf1 h1;have:=a2.sp.le;omega⟩
   rw[hf',gDirsGo_stop (hk.resolve_left fun h=>not_bad h h1)]
   exact hr
  exact a3.atA.retF hb a3.fr.born hs1 (by omega)
 ·dsimp only at hb2;subst hb2
  refine fkI (fun _=>?_) (fun h=>by cases h)
  refine a3.as.name fun s σ4 H4 a4 h4 _=>?_
  refine a4.node fun nb H5 hnb a5=>?_
  refine a5.orAsks fun u H6 a6=>?_
  refine⟨(10,s,bs [],bs [],0,0),lcO a6.fr.2.2 rfl,?_⟩
  dsimp only
  refine a6.call (argumentsF rfl hn _ fun hb6=>by have:=(a6.ok hb6).1;dsimp only at this⊢;rw[this];exact hd hb) fun y σ7 H7 a7 h7=>?_
  refine⟨lcO a7.fr.2.2 rfl,?_⟩
  refine nbI fun H8 e8 hb8 x8 s8=>?_
  have a8:=a7.grow x8
  refine⟨lcO a8.fr.2.2 rfl,?_⟩
  refine a8.madeK (n:=⟨10,s,bs [],bs [],0,0⟩) hb8 (by simp) (by have:=a8.lim;simp[sumL];omega) (by simp) fun w H9 a9 hw hbw=>?_
  have hw':w.2.1=1+y.2.1:=by simpa [sumL] using hw
  have hl:=a9.lim
  have hprog:σ7.bad=false→σ1.at_<σ7.at_:=fun h=>by have h7:=h7 h;have h4:=h4 h7.1;dsimp only at h4 h7;omega
  refine a9.app (z:=z1) a9.fr.1 hbw.self' (by omega) fun ad cc H10 a10=>?_
  exact hnext _ () σ7 H10 f' _ _ (a10.leB (by omega)) (by dsimp only;omega) (fun h=>by have:=hf1 hb1;have:=hprog h;omega) hb1 hprog
section
variable {E:SEnv} {A C:Heap} {σ0:St} {g0:Gr} {d:Int} {g:Gr} {B m lo:Nat} {F:Heap→Prop} {ks:List Sli} {σ:St} {H:Heap}
theorem Acc.leave (a:Acc E A C σ0 g0 d g B m lo F ks σ H) (h1:1≤d) {K:Unit→Heap→Prop} (hk: ∀d' H',Acc E A C σ0 g0 (d -1) g B m lo F ks {σ with deep:=d'} H'→K () H'):
 callW PP fq57 #[.pointer (some ⟨E.p,0,none⟩)] H ⟨Unit,fun _=> .tuple #[]⟩ K:=by
 refine leaveS a.sp (fun hb=>by have:=(a.ok hb).1;omega) fun H1 d1 x1 s1 hd1=>hk d1 H1 ?_
 exact{p:=a.p,t:=a.t,ext:=a.ext.trans x1,sp:=s1,un:=a.un,ok:=fun hb=>(by obtain⟨h1,h2,h3,h4⟩:=a.ok hb;have h5:=hd1 hb;exact⟨by dsimp only;omega,h2,h3,h4⟩),lim:=a.lim,base:=a.base,acc:=fun G hG hu=>a.acc G hG hu,fr:=a.fst _ _ x1 a.fr,fst:=a.fst,cz:=a.cz,cx:=a.cx.trans x1,kids:=fun b hb=>(a.kids b hb).ext x1 (by have:=a.p;have:=a.cz;omega)}
theorem Acc.last (a:Acc E A C σ0 g0 d g B m lo F ks σ H):Acc E A C σ0 g0 d (gThen g gEnd) B m lo F ks σ H:=a.of fun _ _ res hr=>by rw[gThen_end] at hr;exact hr
theorem Acc.deeper (sp:SP E H σ) (hb:σ.bad=false) {H1:Heap} (x:Ext [E.p] H H1) (s1:SP E H1 {σ with deep:=σ.deep+1}):Acc E H H σ g (σ.deep+1) g 2000 0 σ.at_ (fun _=>True) [] {σ with deep:=σ.deep+1} H1 where
 p:=sp.lt
 t:=sp.trow
 ext:=x
 sp:=s1
 un:=id
 ok:=fun _=>⟨rfl,Nat.le_refl _,Nat.le_refl _,Nat.zero_le _⟩
 lim:=Nat.zero_le _
 base:=Nat.le_refl _
 acc:=fun _ hG=>Inv.start (fun h=>not_bad h hb) fun _=>hG
 fr:=trivial
 fst:=fun _ _ _ _=>trivial
 cz:=Nat.le_refl _
 cx:=x
 kids:=fun _ h=>by cases h
end
def bS (n:Nat):Nat:=6030*n+4020
theorem spreadF {E:SEnv} {n:Nat} (hn:n≤60) (hs: ∀σ:St,(σ.bad=false→σ.deep+n=60)→SpP E fq20 (spArg E) σ (bS n) (gSels n)) (σ:St) (hb:σ.bad=false) (hd:σ.deep+n=60):
 SpF E fq88 (spArg E) σ (bS n+2020) (gSpread n (gSels n)):=by
 intro H sp
 have hB3:bV n≤120600:=by unfold bV;omega
 have hB4:bS n≤365820∧bV n+4020≤bS n:=by unfold bS bV;omega
 have a0:Acc E H H σ (gSpread n (gSels n)) σ.deep (gSpread n (gSels n)) 2000 0 σ.at_ (fun _=>True) [] σ H:=Acc.start sp hb
 refine spSpread.enter _ H _ ?_
 unfold spSpread.W
 refine⟨fun y H'=>y.1=(kd (E.rest σ.at_)==15&&!isW wOn (E.rest σ.at_))∧H'=H,?_,?_⟩
 ·refine a0.kind (fkI (fun h=>?_) (fun h=>⟨by rw[h];rfl,rfl⟩))
  exact a0.word wOn ⟨by rw[h];rfl,rfl⟩
 rintro⟨b,_⟩ H ⟨hbb,rfl⟩
 dsimp only at hbb⊢
 have ddir: ∀ {σ':St} {g':Gr} {B m lo:Nat} {F:Heap→Prop} {ks:List Sli} {H':Heap},Acc E H H σ (gSpread n (gSels n)) σ.deep g' B m lo F ks σ' H'→σ'.bad=false→σ'.deep+n=60:=fun a h=>by have:=(a.ok h).1;omega
 refine fkI (fun h=>?_) (fun h=>?_)
 ·rw[hbb] at h
  have h1:kd (E.rest σ.at_)=15∧isW wOn (E.rest σ.at_)=false:=by simpa using h
  refine(a0.of (g':=gThen gName (gThen (gDirs n) gEnd)) fun _ _ res hr=>?_).name fun s σ4 H4 a4 h4 _=>?_
  ·unfold gSpread
   rw[if_pos h1]
   have e:gThen gName (gThen (gDirs n) gEnd) (E.rest σ.at_)=gThen (gDirs n) gEnd (E.rest σ.at_).tail:=by show(match(if kd (E.rest σ.at_)=15 then some (true,(E.rest σ.at_).tail) else some (false,E.rest σ.at_)) with|none=>none|some (false,r)=>some (false,r)|some (true,r)=>gThen (gDirs n) gEnd r)=_;rw[if_pos h1.1]
   rw[e,gThen_end] at hr
   exact hr
  refine a4.call (directivesF hn _ (ddir a4)) fun y σ5 H5 a5 h5=>?_
  refine nbI fun H6 e6 hb6 x6 s6=>?_
  have a6:=a5.grow x6
  refine a6.madeK (n:=⟨7,s,bs [],bs [],0,0⟩) hb6 (by simp) (by have:=a6.lim;simp[sumL];omega) (by simp) fun w H7 a7 hw hbw=>?_
  have hw':w.2.1=1+y.2.1:=by simpa [sumL] using hw
  exact a7.retF hb hbw (by omega) (by omega)
 ·rw[hbb] at h
  have h1: ¬(kd (E.rest σ.at_)=15∧isW wOn (E.rest σ.at_)=false):=by simpa using h
  refine a0.node fun nb H1 hnb a1=>?_
  refine a1.text (fun l=>if isW wOn l=true then gThen gName (gThen (gDirs n) (gSels n)) l.tail else gThen (gDirs n) (gSels n) l) (fun h18 h19 res hr=>?_) fun u H2 a2=>?_
  ·unfold gSpread
   rw[if_neg h1,if_neg (by omega)]
   exact hr
  refine a2.word wOn ?_
  refine⟨fun _ H'=> ∃tx σ3 m' lo',Acc E H H σ (gSpread n (gSels n)) σ.deep (gThen (gDirs n) (gSels n)) 2010 m' lo' (fun G=>True∧NB E.p nb (ndCells 8 (bs []) (bs []) tx 0 0) G) [] σ3 H'∧(σ3.bad=false→σ.at_≤σ3.at_)∧(kd (E.rest σ.at_)=12→0≤m'),?_,?_⟩
  ·refine fkI (fun h=>?_) (fun h=>⟨_,_,_,_,(a2.of (fun _ _ res hr=>?_)).leB (by omega),fun _=>Nat.le_refl _,fun _=>Nat.zero_le _⟩)
   ·refine a2.next (gThen gName (gThen (gDirs n) (gSels n))) (by rw[isW_kd h];decide) (fun _ _ res hr=>by dsimp only;rw[if_pos h,rest_tail];exact hr) fun H3 a3=>?_
    refine a3.name fun s σ4 H4 a4 h4 _=>?_
    refine a4.setN (o':=ndCells 8 (bs []) (bs []) s 0 0) rfl (by decide) rfl rfl hnb (fun _ _ _=>trivial) (fun _ _ _ _=>trivial) fun H5 a5=>?_
    exact⟨s,σ4,_,_,a5.leB (by omega),fun h=>by have:=h4 h;dsimp only at this;omega,fun _=>Nat.zero_le _⟩
   ·dsimp only
    rw[if_neg (by rw[h];decide)]
    exact hr
  rintro⟨_⟩ H3 ⟨tx,σ3,m3,lo3,a3,h3,_⟩
  refine⟨(8,bs [],bs [],tx,0,0),lcO a3.fr.2.2 rfl,?_⟩
  dsimp only
  refine a3.call (directivesF hn _ (ddir a3)) fun y σ5 H5 a5 h5=>?_
  refine⟨lcO a5.fr.2.2 rfl,?_⟩
  refine a5.last.callP (hs _ (ddir a5)) fun y2 σ6 H6 a6 h6=>?_
  refine⟨lcO a6.fr.2.2 rfl,?_⟩
  refine nbI fun H7 e7 hb7 x7 s7=>?_
  have a7:=a6.grow x7
  refine⟨lcO a7.fr.2.2 rfl,?_⟩
  refine a7.madeK (n:=⟨8,bs [],bs [],tx,0,0⟩) hb7 (by simp) (by have:=a7.lim;simp[sumL];omega) (by simp) fun w H8 a8 hw hbw=>?_
  have hw':w.2.1=1+(y.2.1+y2.2.1):=by simpa [sumL] using hw
  exact a8.retF hb hbw (by omega) (by omega)
theorem gThen_pos {a b:Gr} {l r:List PTk} (h:a l=some (true,r)):gThen a b l=b r:=by unfold gThen;rw[h]
theorem selectionF {E:SEnv} {n:Nat} (hn:n≤60) (hs: ∀σ:St,(σ.bad=false→σ.deep+n=60)→SpP E fq20 (spArg E) σ (bS n) (gSels n)) (σ:St) (hb:σ.bad=false) (hd:σ.deep+n=60):
 SpP E fq56 (spArg E) σ (bS n+4025) (gSel n (gSels n)):=by
 intro H sp
 have hB3:bV n≤120600:=by unfold bV;omega
 have hB4:bS n≤365820∧bV n+4020≤bS n:=by unfold bS bV;omega
 have a0:Acc E H H σ (gSel n (gSels n)) σ.deep (gSel n (gSels n)) 2000 0 σ.at_ (fun _=>True) [] σ H:=Acc.start sp hb
 have ddir: ∀ {C:Heap} {σ':St} {g':Gr} {B m lo:Nat} {F:Heap→Prop} {ks:List Sli} {H':Heap},Acc E H C σ (gSel n (gSels n)) σ.deep g' B m lo F ks σ' H'→σ'.bad=false→σ'.deep+n=60:=fun a h=>by have:=(a.ok h).1;omega
 refine spSelection.enter _ H _ ?_
 unfold spSelection.W
 refine a0.taken (by decide) (gSpread n (gSels n)) (fun _ hk res hr=>by unfold gSel;rw[if_pos hk,rest_tail];exact hr) (fun _ hk H1 a1=>fkI (fun _=>?_) (fun hh=>by cases hh)) (fun hk=>fkI (fun hh=>by cases hh) (fun _=>?_))
 ·refine a1.last.call (spreadF hn hs _ hb hd) fun y σ2 H2 a2 h2=>?_
  exact a2.retP hb (a2.kids y (by simp)) (by omega) (by omega) (fun _=>by omega)
 have hk6:kd (E.rest σ.at_)≠6:=hk.resolve_left fun h=>not_bad h hb
 refine(a0.of (g':=gField n (gSels n)) fun _ _ res hr=>by unfold gSel;rw[if_neg hk6];exact hr).name fun s σ2 H2 a2 h2 _=>?_
 refine a2.node fun nb H3 hnb a3=>?_
 refine a3.taken (by decide) (gThen gName (gThen (gArgs n) (gThen (gDirs n) fun l=>if kd l=12 then gSels n l else some (true,l)))) (fun _ hk res hr=>?_) (fun hb2 hk H4 a4=>?_) (fun hk=>?_)
 ·show(match(if kd (E.rest σ2.at_)=7 then gName (E.rest σ2.at_).tail else some (true,E.rest σ2.at_)) with|none=>none|some (false,r)=>some (false,r)|some (true,r)=>_)=_
  rw[if_pos hk,rest_tail]
  exact hr
 all_goals
  refine⟨fun _ H'=> ∃nm al σ3 m' lo',Acc E H H σ (gSel n (gSels n)) σ.deep (gThen (gArgs n) (gThen (gDirs n) fun l=>if kd l=12 then gSels n l else some (true,l))) 2010 m' lo' (fun G=>True∧NB E.p nb (ndCells 6 nm al (bs []) 0 0) G) [] σ3 H'∧2≤m',?_,?_⟩
  rotate_left
  ·rintro⟨_⟩ H5 ⟨nm,al,σ3,m3,lo3,a5,hm3⟩
   refine a5.call (argumentsF rfl hn _ (ddir a5)) fun y1 σ6 H6 a6 h6=>?_
   refine a6.call (directivesF hn _ (ddir a6)) fun y2 σ7 H7 a7 h7=>?_
   refine⟨fun y H'=>y.1=(!σ7.bad&&kd (E.rest σ7.at_)==12)∧H'=H7,?_,?_⟩
   ·refine⟨σ7.bad,lcO a7.sp.obj rfl,fkI (fun h=>a7.kind ⟨by rw[h];rfl,rfl⟩) (fun h=>⟨by rw[h];rfl,rfl⟩)⟩
   rintro⟨b,_⟩ H7 ⟨hbb,rfl⟩
   dsimp only at hbb⊢
   refine⟨fun y H'=> ∃σ8 m' lo',Acc E H H σ (gSel n (gSels n)) σ.deep gEnd (bS n+4020) m' lo' (fun G=>True∧NB E.p nb (ndCells 6 nm al (bs []) 0 0) G) [y1,y2,y.1] σ8 H'∧y1.2.1+y2.2.1+y.1.2.1+2≤m',?_,?_⟩
   ·refine fkI (fun h=>?_) (fun h=>?_)
    ·rw[hbb] at h
     have h1:σ7.bad=false∧kd (E.rest σ7.at_)=12:=by simpa using h
     refine(a7.of (g':=gThen (gSels n) gEnd) fun _ _ res hr=>by rw[if_pos h1.2];rw[gThen_end] at hr;exact hr).callP (hs _ (ddir a7)) fun y3 σ8 H8 a8 h8=>?_
     exact⟨σ8,_,_,a8.leB (by omega),by dsimp only;omega⟩
    ·rw[hbb] at h
     refine⟨σ7,_,_,((a7.of (g':=gEnd) fun h1 _ res hr=>?_).leB (by omega)).setK fun b hb=>?_,by dsimp only;omega⟩
     ·have h2:kd (E.rest σ7.at_)≠12:=by rw[h1] at h;simpa using h
      rw[if_neg h2]
      exact hr
     ·rcases List.mem_cons.1 hb with hb|hb
      ·exact a7.kids b (by rw[hb];simp)
      rcases List.mem_cons.1 hb with hb|hb
      ·exact a7.kids b (by rw[hb];simp)
      ·rw[List.mem_singleton.1 hb];exact Born.nil
   rintro⟨y3,_⟩ H8 ⟨σ8,m8,lo8,a8,hm8⟩
   refine⟨(6,nm,al,bs [],0,0),lcO a8.fr.2.2 rfl,?_⟩
   dsimp only at hm8⊢
   refine nbI fun H9 e9 hb9 x9 s9=>?_
   have a9:=a8.grow x9
   refine a9.madeK (n:=⟨6,nm,al,bs [],0,0⟩) hb9 (by simp) (by have:=a9.lim;simp[sumL];omega) (by simp) fun w H10 a10 hw hbw=>?_
   have hw':w.2.1=1+(y1.2.1+(y2.2.1+y3.2.1)):=by simpa [sumL] using hw
   exact a10.retP hb hbw (by omega) (by omega) (fun _=>by omega)
 ·refine fkI (fun _=>?_) (fun hh=>by cases hh)
  refine⟨s,lcO a4.fr.2.2 rfl,?_⟩
  refine a4.name fun s2 σ5 H5 a5 h5 _=>?_
  refine⟨lcO a5.fr.2.2 rfl,?_⟩
  refine a5.setN (o':=ndCells 6 s s (bs []) 0 0) rfl (by simp) rfl rfl (by have:=a2.ext.size;omega) (fun _ _ _=>trivial) (fun _ _ _ _=>trivial) fun H6 a6=>?_
  refine a6.setN (o':=ndCells 6 s2 s (bs []) 0 0) rfl (by simp) rfl rfl (by have:=a2.ext.size;omega) (fun _ _ _=>trivial) (fun _ _ _ _=>trivial) fun H7 a7=>?_
  exact⟨_,_,_,_,_,a7.leB (by omega),by omega⟩
 ·refine fkI (fun hh=>by cases hh) (fun _=>?_)
  refine⟨_,_,_,_,_,(a3.of fun h1 _ res hr=>?_).leB (by omega),by omega⟩
  have h7:=hk.resolve_left fun h=>not_bad h h1
  show(match(if kd (E.rest σ2.at_)=7 then gName (E.rest σ2.at_).tail else some (true,E.rest σ2.at_)) with|none=>none|some (false,r)=>some (false,r)|some (true,r)=>_)=_
  rw[if_neg h7]
  exact hr
theorem selectionsF {E:SEnv}: ∀(n:Nat),n≤60→ ∀σ:St,(σ.bad=false→σ.deep+n=60)→SpP E fq20 (spArg E) σ (bS n) (gSels n):=by
 intro n
 induction n with
 |zero=>
  intro _ σ hd H sp
  refine spSelections.enter _ H _ ?_
  unfold spSelections.W
  refine enterS sp (fun hb h60 H1 x1 s1=>by have:=hd hb;omega) (fun H1 d u x1 s1 hu hu2=>?_)
  exact fkI (fun _=>rkI ⟨(none,0,0),_,rfl,OutS.refused x1 s1 hu hu2,fun h=>not_bad (fail_bad _) h⟩) (fun hh=>absurd hh (by decide))
 |succ n ih=>
  intro hn σ hd H sp
  have hB4:bS n≤365820∧bS (n+1)=bS n+6030:=by unfold bS;omega
  refine spSelections.enter _ H _ ?_
  unfold spSelections.W
  refine enterS sp (fun hb h60 H1 x1 s1=>?_) (fun H1 d u x1 s1 hu hu2=>fkI (fun _=>rkI ⟨(none,0,0),_,rfl,OutS.refused x1 s1 hu hu2,fun h=>not_bad (fail_bad _) h⟩) (fun hh=>absurd hh (by decide)))
  refine fkI (fun hh=>absurd hh (by decide)) (fun _=>?_)
  have hdn:=hd hb
  have hdp:=sp.deep hb
  have hnn:=sp.n
  have a1:Acc E H H σ (gSels (n+1)) (σ.deep+1) (gSels (n+1)) 2000 0 σ.at_ (fun _=>True) [] {σ with deep:=σ.deep+1} H1:=Acc.deeper sp hb x1 s1
  refine(a1.of (g':=gThen (gSign 12) fun l=>if kd l=14 then some (false,E.rest σ.at_) else gLoop (gSel n (gSels n)) 14 l) fun _ _ res hr=>?_).must (by decide) fun σ2 H2 a2 h2=>?_
  ·show gList 12 (gSel n (gSels n)) 14 (E.rest σ.at_)=_
   by_cases hk:kd (E.rest σ.at_)=12
   ·rw[gList_open hk,←hr]
    symm
    exact gThen_pos (a:=gSign 12) (by unfold gSign;exact if_pos hk)
   ·rw[←hr]
    unfold gList gThen gSign
    rw[if_neg hk,if_neg hk]
  refine Acc.someP (E.rest σ.at_) a2 (fun hb2=>by have h3:=h2 hb2;exact⟨by dsimp only at h3;omega,by rw[h3.2.2];dsimp only;rw[Nat.add_sub_cancel]⟩) fun σ3 H3 a3 h3=>?_
  have a3f:=(a3.loopOf.leB (B':=bS n+6026) (by omega)).setF (F':=fun G=>KM H H G (none,0,0) []∧True) ⟨KM.nil _ _ _,trivial⟩ fun G G' x h=>⟨KM.stable a3.p a3.p G G' x h.1,trivial⟩
  have hle3:=a3.sp.le
  refine Acc.loop (Y:=List Sli) [] (fun f=>gMany (gSel n (gSels n)) 14 f) (fun z l G=>KM H H G z.1 l∧True) (fun z l σ f m=>2+sumL l≤m∧l.length+f≤1002∧(l.length=0→σ.bad=false→kd (E.rest σ.at_)≠14)) a3f ⟨by simp[sumL],by simp;omega,fun _ h=>(h3 h).2⟩ (fun _=>by omega) ?_
  rintro⟨z,_⟩ l σ4 H4 f4 m4 lo4 next a4 ⟨hs1,hs2,hs3⟩ hf4 hnext
  have hz:=a4.fr.1
  dsimp only at hz
  have hzl:=hz.len
  refine a4.head1 (by decide) hf4 (fun h hb4=>hs3 (by simp at h;omega) hb4) (fun f' e hb4 a5=>fkI (fun _=>?_) (fun hh=>by cases hh)) (fun σ' H' lo' a5 hst=>fkI (fun hh=>by cases hh) (fun _=>?_))
  ·have hd4:=(a4.ok hb4).1
   subst e
   refine a5.callP (selectionF (by omega) (ih (by omega)) σ4 hb4 (by omega)) fun y σ5 H5 a6 hp=>?_
   refine a6.pushI hz a4.ext.size a4.p (a6.kids y (by simp)) (by omega) (fun _ _=>trivial) (fun _ _ _ _=>trivial) fun ad cc H6 a7=>?_
   refine hnext _ (l++[y]) σ5 H6 f' _ _ ((a7.leB (by omega)).rebase) ⟨by rw[sumL_snoc];omega,by simp;omega,fun h=>by simp at h⟩ (fun h=>by have:=hf4 hb4;have:=(hp h).2;omega) hb4 (fun h=>(hp h).2)
  ·refine a5.leave (by omega) fun d' H6 a6=>?_
   have hz6:=a6.fr.1
   refine a6.made (n:=⟨5,bs [],bs [],bs [],0,0⟩) hz6.slc.1 hz6.slc.2 (by omega) (by have:=a5.lim;omega) fun y H7 a7 hl hy=>?_
   have a8:Acc E H H4 σ (gSels (n+1)) σ.deep gEnd (bS n+6028) m4 lo' (fun G=>KM H H G z l∧True) [] {σ' with deep:=d'} H7:=by rw[show σ.deep=σ.deep+1 -1 by omega];exact a7
   exact a8.retP hb hy (by omega) (by omega) (fun _=>by omega)
theorem gDefault_yes {n:Nat} {X:Gr} {l:List PTk} (h:kd l=8):gThen (gDefault n) X l=gThen (gValue n true) X l.tail:=by
 unfold gThen gDefault;rw[if_pos h]
theorem gDefault_no {n:Nat} {X:Gr} {l:List PTk} (h:kd l≠8):gThen (gDefault n) X l=X l:=by
 unfold gThen gDefault;rw[if_neg h]
theorem gNoAt_no {X:Gr} {l:List PTk} (h:kd l≠9):gThen (fun l=>if kd l=9 then none else some (true,l)) X l=X l:=by
 unfold gThen;dsimp only;rw[if_neg h]
theorem born2 {C H:Heap} {y1 y2:Sli} (h1:Born C H (NewsOk y1)) (h2:Born C H (NewsOk y2)): ∀b∈ [y1,y2],Born C H (NewsOk b):=by
 intro b hb
 rcases List.mem_cons.1 hb with hb|hb
 ·rw[hb];exact h1
 ·rw[List.mem_singleton.1 hb];exact h2
theorem born3 {C H:Heap} {y1 y2 y3:Sli} (h1:Born C H (NewsOk y1)) (h2:Born C H (NewsOk y2)) (h3:Born C H (NewsOk y3)): ∀b∈ [y1,y2,y3],Born C H (NewsOk b):=by
 intro b hb
 rcases List.mem_cons.1 hb with hb|hb
 ·rw[hb];exact h1
 ·exact born2 h2 h3 b hb
theorem variablesF {E:SEnv} {n:Nat} (hn:n≤60) (σ:St) (hd:σ.bad=false→σ.deep+n=60):SpF E fq58 (spArg E) σ (bV n+2150) (gVars n):=by
 intro H sp
 have hB3:bV n≤120600:=by unfold bV;omega
 have hB4:2*n≤bV n:=by unfold bV;omega
 refine spVariables.enter _ H _ ?_
 unfold spVariables.W
 by_cases hb:σ.bad=true
 ·refine takenS sp (by decide) (fun h=>not_bad hb h) (fun _=>fkI (fun _=>rkI ⟨(none,0,0),σ,rfl,OutS.same sp fun h=>not_bad hb h⟩) (fun hh=>by cases hh))
 have hb:σ.bad=false:=by simpa using hb
 have a0:Acc E H H σ (gVars n) σ.deep (gVars n) 2000 0 σ.at_ (fun _=>True) [] σ H:=Acc.start sp hb
 refine a0.taken (by decide) (fun l=>if kd l=5 then some (false,E.rest σ.at_) else gLoop (gVar n) 5 l) (fun _ hk res hr=>?_) (fun _ hk H1 a1=>fkI (fun hh=>by cases hh) (fun _=>?_)) (fun hk=>fkI (fun _=>?_) (fun hh=>by cases hh))
 ·unfold gVars
  rw[if_pos hk,gList_open hk,rest_tail]
  exact hr
 ·refine Acc.someP (E.rest σ.at_) a1 (fun _=>⟨by dsimp only;omega,by dsimp only;rw[Nat.add_sub_cancel]⟩) fun σ2 H2 a2 h2=>?_
  refine a2.loopN (BI:=bV n+2140) (by decide) (by omega) (by omega) (fun h=>(h2 h).2) ?_ ?_
  ·intro z σ3 H3 f m3 next a3 hb3 hnext
   have d3:=(a3.ok hb3).1
   refine a3.as.must (by decide) fun σ4 H4 a4 h4=>?_
   refine a4.as.name fun s σ5 H5 a5 h5 _=>?_
   refine a5.node fun nb H6 hnb a6=>?_
   refine a6.as.must (by decide) fun σ7 H7 a7 h7=>?_
   refine a7.as.call (typedF E n σ7 fun h=>by have:=(a7.ok h).1;have:=hd hb;omega) fun y1 σ8 H8 a8 h8=>?_
   have p8:σ8.bad=false→σ3.at_<σ8.at_:=fun h=>by have h8:=h8 h;have h7:=h7 h8.1;have h5:=h5 h7.1;have h4:=h4 h5.1;omega
   refine Fn.mono (a8.as.taken (K:=fun b H'=> ∃σ9 m9 lo9,Acc E H H3 σ (gVars n) σ.deep (gThen (if b=true then gValue n true else gEnd) (gThen (fun l=>if kd l=9 then none else some (true,l)) (gMany (gVar n) 5 f))) 2130 m9 lo9 (fun G=>NL H G z.1∧NB E.p nb (ndCells 4 s (bs []) (bs []) 0 0) G) [y1] σ9 H'∧(σ9.bad=false→σ3.at_<σ9.at_)∧m3+y1.2.1+1≤m9) (by decide) (gThen (gValue n true) (gThen (fun l=>if kd l=9 then none else some (true,l)) (gMany (gVar n) 5 f))) (fun _ hk res hr=>by rw[gDefault_yes hk,rest_tail];exact hr) (fun hb8 hk H9 a9=>?_) (fun hk=>?_)) ?_
   ·exact⟨_,_,_,a9.leB (by omega),fun h=>by have:=p8 h;dsimp only;omega,by omega⟩
   ·refine⟨_,_,_,(a8.as.of fun h1 _ res hr=>?_).leB (by omega),p8,by omega⟩
    rw[gDefault_no (hk.resolve_left fun h=>not_bad h h1)]
    exact hr
   rintro _ H9 ⟨b,rfl,σ9,m9,lo9,a9,p9,hm9⟩
   refine⟨b,rfl,?_⟩
   refine⟨fun y H'=> ∃σ10 m10 lo10,Acc E H H3 σ (gVars n) σ.deep (gThen (fun l=>if kd l=9 then none else some (true,l)) (gMany (gVar n) 5 f)) (bV n+2140) m10 lo10 (fun G=>NL H G z.1∧NB E.p nb (ndCells 4 s (bs []) (bs []) 0 0) G) [y1,y.1] σ10 H'∧(σ10.bad=false→σ3.at_<σ10.at_)∧m3+y1.2.1+y.1.2.1+1≤m10,?_,?_⟩
   ·refine fkI (fun h=>?_) (fun h=>?_)
    ·subst h
     refine Acc.callP (f:=gValue n true) a9 (valueF n hn σ9 fun h=>by have:=(a9.ok h).1;have:=hd hb;omega) fun y2 σ10 H10 a10 h10=>?_
     exact⟨σ10,_,_,a10.leB (by omega),fun h=>by have:=p9 (h10 h).1;have:=(h10 h).2;omega,by dsimp only;omega⟩
    ·subst h
     exact⟨σ9,m9,lo9,(Acc.leB (a9.of fun _ _ res hr=>hr) (by omega)).setK (born2 (a9.kids y1 (by simp)) Born.nil),p9,by dsimp only;omega⟩
   rintro⟨y2,_⟩ H10 ⟨σ10,m10,lo10,a10,p10,hm10⟩
   dsimp only at hm10
   refine a10.kind ?_
   refine⟨fun _ H'=> ∃σ11,Acc E H H3 σ (gVars n) σ.deep (gMany (gVar n) 5 f) (bV n+2140) m10 lo10 (fun G=>NL H G z.1∧NB E.p nb (ndCells 4 s (bs []) (bs []) 0 0) G) [y1,y2] σ11 H'∧(σ11.bad=false→σ3.at_<σ11.at_),?_,?_⟩
   ·refine fkI (fun h=>?_) (fun h=>?_)
    ·exact a10.mark _ (fun _=>rfl) (fun h=>by cases h) fun H11 a11=>⟨_,a11,p10⟩
    ·refine⟨σ10,a10.of fun _ _ res hr=>?_,p10⟩
     rw[gNoAt_no (by simpa using h)]
     exact hr
   rintro⟨_⟩ H11 ⟨σ11,a11,p11⟩
   refine⟨(4,s,bs [],bs [],0,0),lcO a11.fr.2.2 rfl,?_⟩
   dsimp only
   refine nbI fun H12 e12 hb12 x12 s12=>?_
   have a12:=a11.grow x12
   refine a12.madeK (n:=⟨4,s,bs [],bs [],0,0⟩) hb12 (by simp) (by have:=a12.lim;simp[sumL];omega) (by simp) fun w H13 a13 hw hbw=>?_
   have hw':w.2.1=1+(y1.2.1+y2.2.1):=by simpa [sumL] using hw
   exact hnext w σ11 _ H13 _ _ _ _ _ a13 a13.fr.1 (by omega) p11 hbw.self' (by omega)
  ·intro z σ3 C3 H3 m3 lo3 a3 hz hlo
   exact a3.atA.retF hb a3.fr.born hz (by omega)
 ·refine rkI ⟨(none,0,0),σ,rfl,OutS.same sp fun _=>?_⟩
  unfold gVars
  rw[if_neg (hk.resolve_left fun h=>not_bad h hb)]
theorem isOp_kd {l:List PTk} (h:isOp l=true):kd l=15:=by
 unfold isOp at h
 rcases(Bool.or_eq_true _ _).mp h with h|h
 ·rcases(Bool.or_eq_true _ _).mp h with h|h
  ·exact isW_kd h
  ·exact isW_kd h
 ·exact isW_kd h
theorem operationF {E:SEnv} {n:Nat} (hn:n≤60) (σ:St) (hb:σ.bad=false) (hd:σ.deep+n=60) (hop:isOp (E.rest σ.at_)=true):SpP E fq23 (spArg E) σ (bS n+4025) (gOperation n):=by
 intro H sp
 have hB3:bV n≤120600:=by unfold bV;omega
 have hB4:bS n≤365820∧bV n+4020≤bS n:=by unfold bS bV;omega
 have a0:Acc E H H σ (gOperation n) σ.deep (gOperation n) 2000 0 σ.at_ (fun _=>True) [] σ H:=Acc.start sp hb
 have ddir: ∀ {C:Heap} {σ':St} {g':Gr} {B m lo:Nat} {F:Heap→Prop} {ks:List Sli} {H':Heap},Acc E H C σ (gOperation n) σ.deep g' B m lo F ks σ' H'→σ'.bad=false→σ'.deep+n=60:=fun a h=>by have:=(a.ok h).1;omega
 refine spOperation.enter _ H _ ?_
 unfold spOperation.W
 refine(a0.of (g':=gThen gName (gThen (gOpt 15) (gThen (gVars n) (gThen (gDirs n) (gSels n))))) fun _ _ res hr=>?_).name fun s σ1 H1 a1 h1 _=>?_
 ·have e1:gThen gName (gThen (gOpt 15) (gThen (gVars n) (gThen (gDirs n) (gSels n)))) (E.rest σ.at_)=gThen (gOpt 15) (gThen (gVars n) (gThen (gDirs n) (gSels n))) (E.rest σ.at_).tail:=
   gThen_pos (by unfold gName gSign;rw[if_pos (isOp_kd hop)])
  rw[e1] at hr
  unfold gOperation
  rw[gThen_pos (a:=gOpWord) (r:=(E.rest σ.at_).tail) (by unfold gOpWord;rw[if_pos hop])]
  exact hr
 refine a1.node fun nb H2 hnb a2=>?_
 refine a2.kind ?_
 refine⟨fun _ H'=> ∃nm σ3 m3 lo3,Acc E H H σ (gOperation n) σ.deep (gThen (gVars n) (gThen (gDirs n) (gSels n))) 2010 m3 lo3 (fun G=>True∧NB E.p nb (ndCells 2 nm (bs []) s 0 0) G) [] σ3 H'∧2≤m3,?_,?_⟩
 ·refine fkI (fun h=>?_) (fun h=>?_)
  ·have hk:kd (E.rest σ1.at_)=15:=by simpa using h
   refine(a2.of (g':=gThen gName (gThen (gVars n) (gThen (gDirs n) (gSels n)))) fun _ _ res hr=>?_).name fun s2 σ3 H3 a3 h3 _=>?_
   ·rw[gThen_pos (a:=gName) (r:=(E.rest σ1.at_).tail) (by unfold gName gSign;rw[if_pos hk])] at hr
    rw[gThen_pos (a:=gOpt 15) (r:=(E.rest σ1.at_).tail) (by unfold gOpt;rw[if_pos hk])]
    exact hr
   refine a3.setN (o':=ndCells 2 s2 (bs []) s 0 0) rfl (by simp) rfl rfl (by have:=a1.ext.size;omega) (fun _ _ _=>trivial) (fun _ _ _ _=>trivial) fun H4 a4=>?_
   exact⟨s2,σ3,_,_,a4.leB (by omega),by omega⟩
  ·have hk:kd (E.rest σ1.at_)≠15:=by simpa using h
   refine⟨bs [],σ1,_,_,(a2.of fun _ _ res hr=>?_).leB (by omega),by omega⟩
   rw[gThen_pos (a:=gOpt 15) (r:=E.rest σ1.at_) (by unfold gOpt;rw[if_neg hk])]
   exact hr
 rintro⟨_⟩ H3 ⟨nm,σ3,m3,lo3,a3,hm3⟩
 refine⟨(2,nm,bs [],s,0,0),lcO a3.fr.2.2 rfl,?_⟩
 dsimp only
 refine a3.call (variablesF hn _ (ddir a3)) fun y1 σ4 H4 a4 h4=>?_
 refine⟨lcO a4.fr.2.2 rfl,?_⟩
 refine a4.call (directivesF hn _ (ddir a4)) fun y2 σ5 H5 a5 h5=>?_
 refine⟨lcO a5.fr.2.2 rfl,?_⟩
 refine a5.last.callP (selectionsF n hn _ (ddir a5)) fun y3 σ6 H6 a6 h6=>?_
 refine⟨lcO a6.fr.2.2 rfl,?_⟩
 refine nbI fun H7 e7 hb7 x7 s7=>?_
 have a7:=a6.grow x7
 refine⟨lcO a7.fr.2.2 rfl,?_⟩
 refine a7.madeK (n:=⟨2,nm,bs [],s,0,0⟩) hb7 (by simp) (by have:=a7.lim;simp[sumL];omega) (by simp) fun w H8 a8 hw hbw=>?_
 have hw':w.2.1=1+(y1.2.1+(y2.2.1+y3.2.1)):=by simpa [sumL] using hw
 exact a8.retP hb hbw (by omega) (by omega) (fun _=>by omega)
theorem fragmentF {E:SEnv} {n:Nat} (hn:n≤60) (σ:St) (hb:σ.bad=false) (hd:σ.deep+n=60):SpP E fq24 (spArg E) σ (bS n+4025) (gFragment n):=by
 intro H sp
 have hB3:bV n≤120600:=by unfold bV;omega
 have hB4:bS n≤365820∧bV n+4020≤bS n:=by unfold bS bV;omega
 have a0:Acc E H H σ (gFragment n) σ.deep (gFragment n) 2000 0 σ.at_ (fun _=>True) [] σ H:=Acc.start sp hb
 have ddir: ∀ {C:Heap} {σ':St} {g':Gr} {B m lo:Nat} {F:Heap→Prop} {ks:List Sli} {H':Heap},Acc E H C σ (gFragment n) σ.deep g' B m lo F ks σ' H'→σ'.bad=false→σ'.deep+n=60:=fun a h=>by have:=(a.ok h).1;omega
 refine spFragment.enter _ H _ ?_
 unfold spFragment.W
 refine a0.word wOn ?_
 refine fkI (fun h=>a0.failP hb (fun _ _=>?_) (by omega)) (fun h=>?_)
 ·unfold gFragment
  rw[if_pos h]
 refine(a0.of (g':=gThen gName fun r=>if kd r=4 then none else gText (gThen (gWord wOn) (gThen gName (gThen (gDirs n) (gSels n)))) r) fun _ _ res hr=>?_).name fun s σ1 H1 a1 h1 _=>?_
 ·unfold gFragment
  rw[if_neg (by rw[h];decide)]
  exact hr
 refine a1.node fun nb H2 hnb a2=>?_
 refine a2.orKind (gText (gThen (gWord wOn) (gThen gName (gThen (gDirs n) (gSels n))))) (fun h4 res hr=>by rw[if_neg h4];exact hr) fun u H3 a3 _=>?_
 refine a3.text (gThen (gWord wOn) (gThen gName (gThen (gDirs n) (gSels n)))) (fun h18 h19 res hr=>by unfold gText;rw[if_neg (by omega)];exact hr) fun u2 H4 a4=>?_
 refine a4.word wOn ?_
 refine fkI (fun h=>a4.failP hb (fun _ _=>?_) (by omega)) (fun h=>?_)
 ·have h':isW wOn (E.rest σ1.at_)=false:=by simpa using h
  unfold gThen gWord
  dsimp only
  rw[if_neg (by rw[h'];decide)]
 have h':isW wOn (E.rest σ1.at_)=true:=by simpa using h
 refine a4.next (gThen gName (gThen (gDirs n) (gSels n))) (by dsimp only;rw[isW_kd h'];decide) (fun _ _ res hr=>?_) fun H5 a5=>?_
 ·dsimp only at hr⊢
  rw[gThen_pos (a:=gWord wOn) (r:=(E.rest σ1.at_).tail) (by unfold gWord;rw[if_pos h']),rest_tail]
  exact hr
 refine a5.name fun s2 σ6 H6 a6 h6 _=>?_
 refine a6.setN (o':=ndCells 3 s (bs []) s2 0 0) rfl (by simp) rfl rfl (by have:=a1.ext.size;omega) (fun _ _ _=>trivial) (fun _ _ _ _=>trivial) fun H7 a7=>?_
 refine⟨(3,s,bs [],s2,0,0),lcO a7.fr.2.2 rfl,?_⟩
 dsimp only
 refine a7.call (directivesF hn _ (ddir a7)) fun y1 σ8 H8 a8 h8=>?_
 refine⟨lcO a8.fr.2.2 rfl,?_⟩
 refine a8.last.callP (selectionsF n hn _ (ddir a8)) fun y2 σ9 H9 a9 h9=>?_
 refine⟨lcO a9.fr.2.2 rfl,?_⟩
 refine nbI fun H10 e10 hb10 x10 s10=>?_
 have a10:=a9.grow x10
 refine⟨lcO a10.fr.2.2 rfl,?_⟩
 refine a10.madeK (n:=⟨3,s,bs [],s2,0,0⟩) hb10 (by simp) (by have:=a10.lim;simp[sumL];omega) (by simp) fun w H11 a11 hw hbw=>?_
 have hw':w.2.1=1+(y1.2.1+y2.2.1):=by simpa [sumL] using hw
 exact a11.retP hb hbw (by omega) (by omega) (fun _=>by omega)
theorem Acc.body {E:SEnv} {A C:Heap} {σ0:St} {g0:Gr} {d:Int} {g:Gr} {B m lo:Nat} {F:Heap→Prop} {ks:List Sli} {σ:St} {H:Heap} (a:Acc E A C σ0 g0 d g B m lo F ks σ H) {o c:Int} (ho:o≠1) (g':Gr)
 (hg:σ.bad=false→kd (E.rest σ.at_)=o→kd (E.rest σ.at_).tail≠c→ ∀res,g' (E.rest σ.at_).tail=some res→g (E.rest σ.at_)=some res) {K:Bool→Heap→Prop}
 (hy:σ.bad=false→ ∀σ' H',Acc E A C σ0 g0 d g' (B+2) (m+2) (lo+1) F ks σ' H'→kd (E.rest σ'.at_)≠c→σ.at_<σ'.at_→K true H') (hn: ∀σ' H',σ'.bad=true→Acc E A C σ0 g0 d gEnd B m lo F ks σ' H'→K false H'):
 callW PP fq62 #[.pointer (some ⟨E.p,0,none⟩),.int .i64 o,.int .i64 c] H pBool K:=by
 refine bodyS a.sp ho (fun hb hk ht H1 x1 s1=>hy hb _ H1 (a.ahead (fun _ _ res hr=>hg hb hk ht res (by rw[rest_tail];exact hr)) x1 s1) (by dsimp only;rw[←rest_tail];exact ht) (by dsimp only;omega))
  (fun hb=>hn σ H hb (a.of fun h=>not_bad hb h)) (fun hb H1 x1 s1=>hn _ H1 rfl (a.move x1 s1 (fun _=>rfl) (fun h=>by cases h) a.lim (Nat.le_refl _) fun G _=>Inv.any rfl))
theorem gBody_yes {o c:Int} {it:Gr} {l:List PTk} (h:kd l=o) (h2:kd l.tail≠c):gBody o it c l=gLoop it c l.tail:=by
 unfold gBody;rw[if_pos ⟨h,h2⟩]
theorem inputsF {E:SEnv} {n:Nat} {o c:Int} (ho:o≠1) (hc:c≠1) (hn:n≤60) (σ:St) (hd:σ.bad=false→σ.deep+n=60):SpF E fq32 #[.pointer (some ⟨E.p,0,none⟩),.int .i64 o,.int .i64 c] σ (bV n+6030) (gInputs n o c):=by
 intro H sp
 have hB3:bV n≤120600:=by unfold bV;omega
 have hB4:2*n≤bV n:=by unfold bV;omega
 refine spInputs.enter _ _ _ H _ ?_
 unfold spInputs.W
 by_cases hb:σ.bad=true
 ·exact bodyS sp ho (fun h=>not_bad hb h) (fun _=>fkI (fun _=>rkI ⟨(none,0,0),σ,rfl,OutS.same sp fun h=>not_bad hb h⟩) (fun hh=>by cases hh)) (fun h=>not_bad hb h)
 have hb:σ.bad=false:=by simpa using hb
 have a0:Acc E H H σ (gInputs n o c) σ.deep (gInputs n o c) 2000 0 σ.at_ (fun _=>True) [] σ H:=Acc.start sp hb
 refine a0.body ho (gLoop (gInput n) c) (fun _ hk ht res hr=>by unfold gInputs;rw[gBody_yes hk ht];exact hr) (fun _ σ1 H1 a1 hk1 _=>fkI (fun hh=>by cases hh) (fun _=>?_)) (fun σ1 H1 hb1 a1=>fkI (fun _=>a1.retF (y:=(none,0,0)) hb Born.nil (Nat.zero_le _) (by omega)) (fun hh=>by cases hh))
 refine a1.loopN (BI:=bV n+6025) hc (by omega) (by omega) (fun _=>hk1) ?_ ?_
 ·intro z σ3 H3 f m3 next a3 hb3 hnext
  have d3:=(a3.ok hb3).1
  refine a3.as.call (describedF E σ3) fun y1 σ4 H4 a4 h4=>?_
  refine a4.as.name fun s σ5 H5 a5 h5 _=>?_
  refine a5.node fun nb H6 hnb a6=>?_
  refine a6.as.must (by decide) fun σ7 H7 a7 h7=>?_
  refine a7.as.call (typedF E n σ7 fun h=>by have:=(a7.ok h).1;have:=hd hb;omega) fun y2 σ8 H8 a8 h8=>?_
  have p8:σ8.bad=false→σ3.at_<σ8.at_:=fun h=>by have h8:=h8 h;have h7:=h7 h8.1;have h5:=h5 h7.1;have h4:=h4 h5.1;omega
  refine Fn.mono (a8.as.taken (K:=fun b H'=> ∃σ9 m9 lo9,Acc E H H3 σ (gInputs n o c) σ.deep (gThen (if b=true then gValue n true else gEnd) (gThen (gDirs n) (gMany (gInput n) c f))) 2130 m9 lo9 (fun G=>NL H G z.1∧NB E.p nb (ndCells 30 s (bs []) (bs []) 0 0) G) [y1,y2] σ9 H'∧(σ9.bad=false→σ3.at_<σ9.at_)∧m3+y1.2.1+y2.2.1+1≤m9) (by decide) (gThen (gValue n true) (gThen (gDirs n) (gMany (gInput n) c f))) (fun _ hk res hr=>by rw[gDefault_yes hk,rest_tail];exact hr) (fun hb8 hk H9 a9=>?_) (fun hk=>?_)) ?_
  ·exact⟨_,_,_,a9.leB (by omega),fun h=>by have:=p8 h;dsimp only;omega,by omega⟩
  ·refine⟨_,_,_,(a8.as.of fun h1 _ res hr=>?_).leB (by omega),p8,by omega⟩
   rw[gDefault_no (hk.resolve_left fun h=>not_bad h h1)]
   exact hr
  rintro _ H9 ⟨b,rfl,σ9,m9,lo9,a9,p9,hm9⟩
  refine⟨b,rfl,?_⟩
  refine⟨fun y H'=> ∃σ10 m10 lo10,Acc E H H3 σ (gInputs n o c) σ.deep (gThen (gDirs n) (gMany (gInput n) c f)) (bV n+2140) m10 lo10 (fun G=>NL H G z.1∧NB E.p nb (ndCells 30 s (bs []) (bs []) 0 0) G) [y1,y2,y.1] σ10 H'∧(σ10.bad=false→σ3.at_<σ10.at_)∧m3+y1.2.1+y2.2.1+y.1.2.1+1≤m10,?_,?_⟩
  ·refine fkI (fun h=>?_) (fun h=>?_)
   ·subst h
    refine Acc.callP (f:=gValue n true) a9 (valueF n hn σ9 fun h=>by have:=(a9.ok h).1;have:=hd hb;omega) fun y3 σ10 H10 a10 h10=>?_
    exact⟨σ10,_,_,a10.leB (by omega),fun h=>by have:=p9 (h10 h).1;have:=(h10 h).2;omega,by dsimp only;omega⟩
   ·subst h
    exact⟨σ9,m9,lo9,(Acc.leB (a9.of fun _ _ res hr=>hr) (by omega)).setK (born3 (a9.kids y1 (by simp)) (a9.kids y2 (by simp)) Born.nil),p9,by dsimp only;omega⟩
  rintro⟨y3,_⟩ H10 ⟨σ10,m10,lo10,a10,p10,hm10⟩
  dsimp only at hm10
  refine⟨(30,s,bs [],bs [],0,0),lcO a10.fr.2.2 rfl,?_⟩
  dsimp only
  refine a10.call (directivesF hn _ fun h=>by have:=(a10.ok h).1;have:=hd hb;omega) fun y4 σ11 H11 a11 h11=>?_
  refine⟨lcO a11.fr.2.2 rfl,?_⟩
  refine nbI fun H12 e12 hb12 x12 s12=>?_
  have a12:=a11.grow x12
  refine⟨lcO a12.fr.2.2 rfl,?_⟩
  refine a12.madeK (n:=⟨30,s,bs [],bs [],0,0⟩) hb12 (by simp) (by have:=a12.lim;simp[sumL];omega) (by simp) fun w H13 a13 hw hbw=>?_
  have hw':w.2.1=1+(y1.2.1+(y2.2.1+(y3.2.1+y4.2.1))):=by simpa [sumL] using hw
  exact hnext w σ11 _ H13 _ _ _ _ _ a13 a13.fr.1 (by omega) (fun h=>by have h1:=h11 h;have:=p10 h1.1;omega) hbw.self' (by omega)
 ·intro z σ3 C3 H3 m3 lo3 a3 hz hlo
  exact a3.atA.retF hb a3.fr.born hz (by omega)
theorem fieldsF {E:SEnv} {n:Nat} (hn:n≤60) (σ:St) (hd:σ.bad=false→σ.deep+n=60):SpF E fq29 (spArg E) σ (bV n+8045) (gFields n):=by
 intro H sp
 have hB3:bV n≤120600:=by unfold bV;omega
 have hB4:2*n≤bV n:=by unfold bV;omega
 refine spFields.enter _ H _ ?_
 unfold spFields.W
 by_cases hb:σ.bad=true
 ·exact bodyS sp (by decide) (fun h=>not_bad hb h) (fun _=>fkI (fun _=>rkI ⟨(none,0,0),σ,rfl,OutS.same sp fun h=>not_bad hb h⟩) (fun hh=>by cases hh)) (fun h=>not_bad hb h)
 have hb:σ.bad=false:=by simpa using hb
 have a0:Acc E H H σ (gFields n) σ.deep (gFields n) 2000 0 σ.at_ (fun _=>True) [] σ H:=Acc.start sp hb
 refine a0.body (by decide) (gLoop (gFieldDef n) 14) (fun _ hk ht res hr=>by unfold gFields;rw[gBody_yes hk ht];exact hr) (fun _ σ1 H1 a1 hk1 _=>fkI (fun hh=>by cases hh) (fun _=>?_)) (fun σ1 H1 hb1 a1=>fkI (fun _=>a1.retF (y:=(none,0,0)) hb Born.nil (Nat.zero_le _) (by omega)) (fun hh=>by cases hh))
 refine a1.loopN (BI:=bV n+8040) (by decide) (by omega) (by omega) (fun _=>hk1) ?_ ?_
 ·intro z σ3 H3 f m3 next a3 hb3 hnext
  have d3:=(a3.ok hb3).1
  refine a3.as.call (describedF E σ3) fun y1 σ4 H4 a4 h4=>?_
  refine a4.as.name fun s σ5 H5 a5 h5 _=>?_
  refine a5.node fun nb H6 hnb a6=>?_
  refine a6.kind ?_
  have p5:σ5.bad=false→σ3.at_<σ5.at_:=fun h=>by have h5:=h5 h;have h4:=h4 h5.1;omega
  refine⟨fun y H'=> ∃σ7 m7 lo7,Acc E H H3 σ (gFields n) σ.deep (gThen (gThen (gSign 7) (gThen (gTyped n) (gDirs n))) (gMany (gFieldDef n) 14 f)) (bV n+8032) m7 lo7 (fun G=>NL H G z.1∧NB E.p nb (ndCells 29 s (bs []) (bs []) 0 0) G) [y1,y.1] σ7 H'∧(σ7.bad=false→σ3.at_<σ7.at_)∧m3+y1.2.1+y.1.2.1+1≤m7,?_,?_⟩
  ·refine fkI (fun h=>?_) (fun h=>?_)
   ·have hk:kd (E.rest σ5.at_)=4:=by simpa using h
    refine(a6.as.of (g':=gThen (gInputs n 4 5) (gThen (gThen (gSign 7) (gThen (gTyped n) (gDirs n))) (gMany (gFieldDef n) 14 f))) fun _ _ res hr=>?_).call (inputsF (o:=4) (c:=5) (by decide) (by decide) hn σ5 fun h=>by have:=(a6.ok h).1;have:=hd hb;omega) fun y2 σ7 H7 a7 h7=>?_
    ·have e:gInputsOpt n (E.rest σ5.at_)=gInputs n 4 5 (E.rest σ5.at_):=by unfold gInputsOpt;rw[if_pos hk]
     unfold gThen at hr⊢
     rw[e];exact hr
    exact⟨σ7,_,_,a7.leB (by omega),fun h=>by have h7:=h7 h;have:=p5 h7.1;omega,by dsimp only;omega⟩
   ·have hk:kd (E.rest σ5.at_)≠4:=by simpa using h
    refine⟨σ5,_,_,((a6.as.of fun _ _ res hr=>?_).leB (by omega)).setK (born2 (a6.kids y1 (by simp)) Born.nil),p5,by dsimp only;omega⟩
    rw[gThen_pos (a:=gInputsOpt n) (r:=E.rest σ5.at_) (by unfold gInputsOpt;rw[if_neg hk])]
    exact hr
  rintro⟨y2,_⟩ H7 ⟨σ7,m7,lo7,a7,p7,hm7⟩
  dsimp only at hm7
  refine a7.as.must (by decide) fun σ8 H8 a8 h8=>?_
  refine a8.as.call (typedF E n σ8 fun h=>by have:=(a8.ok h).1;have:=hd hb;omega) fun y3 σ9 H9 a9 h9=>?_
  refine⟨(29,s,bs [],bs [],0,0),lcO a9.fr.2.2 rfl,?_⟩
  dsimp only
  refine a9.call (directivesF hn _ fun h=>by have:=(a9.ok h).1;have:=hd hb;omega) fun y4 σ10 H10 a10 h10=>?_
  refine⟨lcO a10.fr.2.2 rfl,?_⟩
  refine nbI fun H11 e11 hb11 x11 s11=>?_
  have a11:=a10.grow x11
  refine⟨lcO a11.fr.2.2 rfl,?_⟩
  refine a11.madeK (n:=⟨29,s,bs [],bs [],0,0⟩) hb11 (by simp) (by have:=a11.lim;simp[sumL];omega) (by simp) fun w H12 a12 hw hbw=>?_
  have hw':w.2.1=1+(y1.2.1+(y2.2.1+(y3.2.1+y4.2.1))):=by simpa [sumL] using hw
  exact hnext w σ10 _ H12 _ _ _ _ _ a12 a12.fr.1 (by omega) (fun h=>by have h10:=h10 h;have h9:=h9 h10.1;have h8:=h8 h9.1;have:=p7 h8.1;omega) hbw.self' (by omega)
 ·intro z σ3 C3 H3 m3 lo3 a3 hz hlo
  exact a3.atA.retF hb a3.fr.born hz (by omega)
def SpT (E:SEnv) (f:FuncId) (text:Sli) (σ:St) (B:Nat) (g:Gr):Prop:=
 ∀D H:Heap,SP E H σ→E.p<D.size→D.size≤H.size→Born D H (NewsOk text)→text.2.1≤1→Fn PP f #[.pointer (some ⟨E.p,0,none⟩),.slice text.1 text.2.1 text.2.2] H (ResF E σ B g H)
theorem NB.keepKM {A D H:Heap} {z:Sli} {l:List Sli} {p b:Nat} {c:Array Value} (hz:KM A D H z l) (hn:NB p b (.cells c tq63) H) {G':Heap} (hk: ∀k o,H[k]?=some o→rowOf z.1≠some k→G'[k]?=some o):NB p b (.cells c tq63) G':=by
 refine⟨hn.1,hk _ _ hn.2 fun hr=>?_⟩
 obtain⟨cur,_,hg,_⟩:=hz.own.row hr
 rw[hn.2] at hg
 injection hg with hg
 injection hg with _ hg
 exact absurd hg (by decide)
section
variable {E:SEnv} {A C:Heap} {σ0:St} {g0:Gr} {d:Int} {g:Gr} {B m lo:Nat} {F:Heap→Prop} {ks:List Sli} {σ:St} {H:Heap}
def NameLike (E:SEnv) (fn:FuncId):Prop:= ∀ {A C:Heap} {σ0:St} {g0:Gr} {d:Int} {g:Gr} {B m lo:Nat} {F:Heap→Prop} {ks:List Sli} {σ:St} {H:Heap},Acc E A C σ0 g0 d (gThen gName g) B m lo F ks σ H→ ∀ {K:ByteArray→Heap→Prop},
 (∀s σ' H',Acc E A C σ0 g0 d g (B+2) (m+2) (lo+1) F ks σ' H'→(σ'.bad=false→σ.bad=false∧σ'.at_=σ.at_+1)→K s H')→callW PP fn #[.pointer (some ⟨E.p,0,none⟩)] H pStr K
theorem nameLike_name (E:SEnv):NameLike E fq22:=fun a _ hk=>a.name fun s σ' H' a' h' _=>hk s σ' H' a' fun h=>⟨(h' h).1,(h' h).2.2.1⟩
theorem gSep_of {it:Gr} {k:Int} {f:Nat}:gSep it k (f+1)=gThen it fun l=>if kd l=k then gSep it k f l.tail else some (true,l):=rfl
def Keeps (E:SEnv) (A D:Heap) (F1:Heap→Prop):Prop:=(∀G G',Ext [E.p] G G'→F1 G→F1 G')∧ ∀(G:Heap) z l,KM A D G z l→F1 G→ ∀G',(∀k o,G[k]?=some o→rowOf z.1≠some k→G'[k]?=some o)→F1 G'
theorem keeps_nb (E:SEnv) (A D:Heap) (b:Nat) (c:Array Value):Keeps E A D (NB E.p b (.cells c tq63)):=⟨NB.ext,fun _ _ _ hz hn _ hk=>NB.keepKM hz hn hk⟩
theorem Acc.members {fn:FuncId} (hfn:NameLike E fn) {k:Int} (h1:k≠1) {R:Gr} {D:Heap} {F1:Heap→Prop} (hF1:Keeps E A D F1) (hD:D.size≤A.size) (hDp:E.p<D.size) {z0:Sli} {l0:List Sli} {e:Nat}
 (a:Acc E A C σ0 g0 d (gThen (gSepL gName k) R) B m lo (fun G=>KM A D G z0 l0∧F1 G) ks σ H) (he:sumL l0+e≤m) (hl0:l0.length≤100) {BI:Nat} (hB:B+2≤BI) (hBI:2010≤BI) {nd:ByteArray→Nd} {n1:Nat} (hn1:n1=z0.2.1+1)
 {RET:((Option Addr×Nat×Nat)×Unit)→Heap→Prop}
 (hret: ∀z l' σ' C' H' m' lo',Acc E A C' σ0 g0 d R BI m' lo' (fun G=>KM A D G z.1 l'∧F1 G) [] σ' H'→sumL l'+e≤m'→l'.length≤2000→(σ'.bad=false→σ.bad=false∧σ.at_<σ'.at_)→RET z H'):
 callW PP fn #[.pointer (some ⟨E.p,0,none⟩)] H pStr fun(x19:ByteArray) H20=>
  callW PP fq14 #[.agg #[.int .i64 (nd x19).kind,.string (nd x19).name,.string (nd x19).alias,.string (nd x19).text,.int .i64 (nd x19).flag,.int .i64 (nd x19).size],.slice none 0 0] H20 pSlc fun(x21:(Option Addr×Nat×Nat)) H22=>
  newB H22 (.cells #[(.slice x21.1 x21.2.1 x21.2.2)] tq36) fun b23 H24=>
  appK H24 tq36 1 24 z0.1 z0.2.1 z0.2.2 (some ⟨b23,0,none⟩) 1 fun a25 c26 H27=>
  loopK ((Option Addr×Nat×Nat)×Unit) ((a25,n1,c26),()) H27 fun z28 H29 next30=>
  callW PP fq55 #[(.pointer (some ⟨E.p,0,none⟩)),(.int .i64 k)] H29 pBool fun(x31:Bool) H32=>
  forkB x31
  (callW PP fn #[.pointer (some ⟨E.p,0,none⟩)] H32 pStr fun(x33:ByteArray) H34=>
    callW PP fq14 #[.agg #[.int .i64 (nd x33).kind,.string (nd x33).name,.string (nd x33).alias,.string (nd x33).text,.int .i64 (nd x33).flag,.int .i64 (nd x33).size],.slice none 0 0] H34 pSlc fun(x35:(Option Addr×Nat×Nat)) H36=>
    newB H36 (.cells #[(.slice x35.1 x35.2.1 x35.2.2)] tq36) fun b37 H38=>
    appK H38 tq36 1 24 z28.1.1 z28.1.2.1 z28.1.2.2 (some ⟨b37,0,none⟩) 1 fun a39 c40 H41=>
    next30 ((a39,(z28.1.2.1+1),c40),()) H41)
  (RET z28 H32):=by
 subst hn1
 have hle:=a.sp.le
 have hnn:=a.sp.n
 have hza:=a.fr.1
 refine hfn ((a.rebase.of (g':=gThen (gThen gName fun l=>if kd l=k then gSep gName k (E.ts.length -σ.at_) l.tail else some (true,l)) R) fun _ _ res hr=>?_).as) fun s σ1 H1 a1 h1'=>?_
 ·unfold gSepL
  unfold gThen at hr⊢
  dsimp only
  rw[rest_length,gSep_of]
  exact hr
 refine a1.made0 (n:=nd s) fun y H2 a2 hy hby=>?_
 have hz2:=a2.fr.1
 refine a2.pushI hza (by have:=a.ext.size;omega) hDp hby (by omega) (hF1.2 H2 _ _ hz2 a2.fr.2) hF1.1 fun ad cc H3 a3=>?_
 refine Acc.loop (Y:=List Sli) (l0++[y]) (fun f=>gThen (fun l=>if kd l=k then gSep gName k f l.tail else some (true,l)) R) (fun z l G=>KM A D G z.1 l∧F1 G) (fun z l σ' f m=>sumL l+e≤m∧l.length+f≤1500∧(σ'.bad=false→σ.bad=false∧σ.at_<σ'.at_)) (a3.leB (B':=BI) (by omega)) ⟨by rw[sumL_snoc];omega,by simp;omega,fun h=>by have:=h1' h;exact⟨this.1,by omega⟩⟩ (fun h=>by have:=(h1' h).2;omega) ?_
 rintro⟨z,_⟩ l σ4 H4 f4 m4 lo4 next a4 ⟨hs1,hs2,hs3⟩ hf4 hnext
 by_cases hb4:σ4.bad=true
 ·refine takenS a4.sp h1 (fun h=>not_bad hb4 h) (fun _=>fkI (fun hh=>by cases hh) (fun _=>?_))
  exact hret _ l σ4 H4 H4 m4 lo4 (a4.of fun h=>not_bad hb4 h) hs1 (by omega) hs3
 have hb4:σ4.bad=false:=by simpa using hb4
 obtain⟨f',rfl⟩: ∃f',f4=f'+1:=⟨f4 -1,by have:=hf4 hb4;have:=a4.sp.le;omega⟩
 refine(a4.fresh hb4 (Nat.le_refl 2000)).taken h1 (gThen (gThen gName fun l=>if kd l=k then gSep gName k f' l.tail else some (true,l)) R) (fun _ hk res hr=>?_) (fun _ hk H5 a5=>fkI (fun _=>?_) (fun hh=>by cases hh)) (fun hk=>fkI (fun hh=>by cases hh) (fun _=>?_))
 ·rw[←gSep_of,←rest_tail] at hr
  unfold gThen at hr⊢
  dsimp only
  rw[if_pos hk]
  exact hr
 ·have hz5:=a5.fr.1
  refine hfn a5.rebase.as fun s2 σ6 H6 a6 h6=>?_
  refine a6.made0 (n:=nd s2) fun y2 H7 a7 hy2 hby2=>?_
  have hz7:=a7.fr.1
  refine a7.pushI hz5 (by have:=a5.ext.size;omega) hDp hby2 (by omega) (hF1.2 H7 _ _ hz7 a7.fr.2) hF1.1 fun ad2 cc2 H8 a8=>?_
  exact hnext _ (l++[y2]) σ6 H8 f' _ _ ((a8.leB (by omega)).rebase) ⟨by rw[sumL_snoc];omega,by simp;omega,fun h=>by have h6:σ6.at_=σ4.at_+1+1:=(h6 h).2;have:=hs3 hb4;exact⟨this.1,by omega⟩⟩ (fun h=>by have:=hf4 hb4;have h6:σ6.at_=σ4.at_+1+1:=(h6 h).2;omega) hb4 (fun h=>by have h6:σ6.at_=σ4.at_+1+1:=(h6 h).2;omega)
 ·refine hret _ l σ4 H4 H4 m4 lo4 (a4.of fun _ _ res hr=>?_) hs1 (by omega) hs3
  rw[gThen_pos (a:=fun l=>if kd l=k then gSep gName k (f'+1) l.tail else some (true,l)) (r:=E.rest σ4.at_) (by rw[if_neg (hk.resolve_left fun h=>not_bad h hb4)])]
  exact hr
theorem Acc.callH {fn:FuncId} {args:Array Value} {f:Gr} {Bf:Nat} (a:Acc E A C σ0 g0 d (gThen f g) B m lo F ks σ H) (hf:Fn PP fn args H (ResF E σ Bf f H)) {K:Sli→Heap→Prop}
 (hk: ∀y σ' H',Acc E A C σ0 g0 d g (max (B+1) (2000+Bf)) (m+y.2.1) lo F (ks++[y]) σ' H'→(σ'.bad=false→σ.bad=false∧σ.at_≤σ'.at_)→K y H'):callW PP fn args H pSlc K:=by
 refine hf.mono ?_
 rintro _ H' ⟨y,σ',rfl,o⟩
 have hlim:=a.lim
 have hat:=a.at_le
 have hbk:σ'.bad=false→σ.bad=false:=fun h=>by
  rcases bad_or σ with h'|h'
  ·exact not_bad (o.mono.bad h').1 h
  ·exact h'
 have h2:=o.l2
 have a1:Acc E A C σ0 g0 d g (max (B+1) (2000+Bf)) (m+y.2.1) lo F ks σ' H':=by
  refine a.move o.ext o.sp o.mono.un (fun h=>?_) ?_ (by omega) fun G hi=>hi.step o
  ·obtain⟨h1,h2,h3,h4⟩:=a.ok (hbk h)
   obtain⟨h5,h6⟩:=o.mono.ok h
   have h7:=o.l1 h
   exact⟨h5.trans h1,h2,by omega,by omega⟩
  ·rcases bad_or σ with hb|hb
   ·have:=o.l0 hb;omega
   ·obtain⟨h1,h2,h3,h4⟩:=a.ok hb;omega
 refine⟨y,rfl,hk y σ' H' (a1.setK fun b hb=>?_) fun h=>⟨hbk h,(o.mono.ok h).2⟩⟩
 rcases List.mem_append.1 hb with hb|hb
 ·exact a1.kids b hb
 ·rw[List.mem_singleton.1 hb]
  exact o.nodes.older a.ch
theorem Acc.pushL {D:Heap} {z:Sli} {l:List Sli} {F1:Heap→Prop} (a:Acc E A C σ0 g0 d g B m lo (fun G=>KM A D G z l∧F1 G) ks σ H) (hrow: ∀r,rowOf z.1=some r→r<C.size) (hD:D.size≤C.size) (hDp:E.p<D.size) (hF1:Keeps E A D F1) (hlen:l.length≤2000)
 {b2:Nat} (hb2:H[b2]?=some (.cells (ks.map sliV).toArray tq36)) {n:Nat} (hn':n=ks.length) (hl2:ks.length≤100) {K:Option Addr→Nat→Heap→Prop}
 (hk: ∀ad c H',Acc E A H' σ0 g0 d g B m lo (fun G=>KM A D G (ad,z.2.1+n,c) (l++ks)∧F1 G) [] σ H'→K ad c H'):
 appK H tq36 1 24 z.1 z.2.1 z.2.2 (some ⟨b2,0,none⟩) n K:=by
 subst hn'
 have hz:=a.fr.1
 have hn:=hz.len
 have hml:1000000≤maxLen:=by decide
 refine .inr ⟨_,_,hz.own,NewsS.of_block (m:=ks.length) (size:=1) hb2 (by simp),?_,by omega,by omega,?_⟩
 ·intro u hu
  simp only[List.mem_map] at hu
  obtain⟨b,_,rfl⟩:=hu
  rfl
 intro ad c H2 ho hg _ hrow2
 have hr2:rowOf ad=rowOf z.1∨rowOf ad=some H.size:=hrow2
 have keep: ∀k o,H[k]?=some o→rowOf z.1≠some k→H2[k]?=some o:=fun k o hk hne=>by
  rw[hg.block k (lt_of_get hk) fun eq=>hne eq.symm,hk]
 have yA:Ext [E.p] A H2:=⟨by have:=a.ext.size;have:=hg.size;omega,fun q o hq hne=>by
  have h3:=a.ext.get _ _ hq hne
  rw[hg.block q (lt_of_get h3) fun eq=>?_,h3]
  have:=hz.row q eq.symm
  have:=lt_of_get hq
  omega⟩
 refine hk ad c H2 {a with ext:=yA,sp:=a.sp.rowed hg hz.row a.p a.t,cz:=yA.size,cx:=Ext.refl _ _,fr:=⟨⟨?_,fun r hr=>?_,fun b hb=>?_⟩,hF1.2 H z l hz a.fr.2 H2 keep⟩,fst:=fun G G' x h=>⟨KM.stable a.p hDp G G' x h.1,hF1.1 G G' x h.2⟩,kids:=fun _ h=>by cases h}
 ·rw[List.map_append]
  exact ho
 ·rcases hr2 with h3|h3
  ·exact hz.row r (by rw[←h3];exact hr)
  ·rw[h3] at hr;cases hr;exact a.ext.size
 ·rcases List.mem_append.1 hb with hb|hb
  ·exact(hz.facts b hb).grow hg hr2
  ·exact(Fact.new (a.kids b hb) hD hrow).grow hg hr2
theorem Acc.opt (a:Acc E A C σ0 g0 d g B m lo F ks σ H) {k:Int} (h1:k≠1) (hu:kd (E.rest σ.at_)=k→σ.unsure=true) {K:Bool→Heap→Prop} (hk: ∀b σ' H' lo',Acc E A C σ0 g0 d g (B+2) m lo' F ks σ' H'→K b H'):
 callW PP fq55 #[.pointer (some ⟨E.p,0,none⟩),.int .i64 k] H pBool K:=
 takenS a.sp h1 (fun hb hk' H1 x1 s1=>hk _ _ H1 _ ((a.ahead (g':=g) (fun _ h=>absurd ((hu hk').symm.trans h) (by decide)) x1 s1).less (by omega))) fun _=>hk _ σ H _ (a.leB (by omega))
theorem gThen_congr {a a' b:Gr} {l:List PTk} (h:a l=a' l):gThen a b l=gThen a' b l:=by unfold gThen;rw[h]
theorem gList_sign {o:Int} {it:Gr} {c:Int} {l:List PTk}:gThen (gSign o) (fun l'=>if kd l'=c then some (false,l) else gLoop it c l') l=gList o it c l:=by
 unfold gThen gSign gList
 by_cases h:kd l=o
 ·rw[if_pos h,if_pos h]
 ·rw[if_neg h,if_neg h]
end
theorem objectF {E:SEnv} {n:Nat} (hn:n≤60) (σ:St) (hb:σ.bad=false) (hd:σ.deep+n=60) (text:Sli):SpT E fq27 text σ (bV n+10060) (gObject n):=by
 intro D H sp hDp hDH hT ht1
 have hB3:bV n≤120600:=by unfold bV;omega
 have a0:Acc E H H σ (gObject n) σ.deep (gObject n) 2000 0 σ.at_ (fun _=>True) [] σ H:=Acc.start sp hb
 have ddir: ∀ {C:Heap} {σ':St} {g':Gr} {B m lo:Nat} {F:Heap→Prop} {ks:List Sli} {H':Heap},Acc E H C σ (gObject n) σ.deep g' B m lo F ks σ' H'→σ'.bad=false→σ'.deep+n=60:=fun a h=>by have:=(a.ok h).1;omega
 refine spObject.enter _ _ _ _ H _ ?_
 unfold spObject.W
 refine Acc.name (g:=gThen gImpl (gThen (gDirs n) (gFields n))) a0 fun s σ1 H1 a1 h1 _=>?_
 refine a1.node fun nb H2 hnb a2=>?_
 refine KM.lit (A:=H) (D:=D) (ks:=[text]) a2.ext.size (Nat.le_trans hDH a2.ext.size) (fun y hy=>by rw[List.mem_singleton.1 hy];exact hT.ext a2.ext hDp) (by simp) rfl fun H3 x3 hkm=>?_
 have kp:=keeps_nb E H D nb #[.int .i64 27,.string s,.string (bs []),.string (bs []),.int .i64 0,.int .i64 0]
 have a3:=(a2.grow x3).setF (F':=fun G=>KM H D G (some ⟨H2.size,0,none⟩,1,1) [text]∧NB E.p nb (ndCells 27 s (bs []) (bs []) 0 0) G) ⟨hkm,(a2.grow x3).fr.2⟩ fun G G' x h=>⟨KM.stable a2.p hDp G G' x h.1,NB.ext G G' x h.2⟩
 refine a3.text (gThen (fun l=>if isW wImplements' l=true then gThen (gOpt 20) (gSepL gName 20) l.tail else some (true,l)) (gThen (gDirs n) (gFields n))) (fun h18 h19 res hr=>?_) fun u H4 a4=>?_
 ·rw[gThen_congr (a:=gImpl) (a':=fun l=>if isW wImplements' l=true then gThen (gOpt 20) (gSepL gName 20) l.tail else some (true,l)) (by unfold gImpl gText;rw[if_neg (by omega)])]
  exact hr
 refine a4.word wImplements' ?_
 refine⟨fun y H'=> ∃l σ' C' m' lo',Acc E H C' σ (gObject n) σ.deep (gThen (gDirs n) (gFields n)) 2016 m' lo' (fun G=>KM H D G y.1 l∧NB E.p nb (ndCells 27 s (bs []) (bs []) 0 0) G) [] σ' H'∧sumL l+1≤m'∧l.length≤2000,?_,?_⟩
 ·refine fkI (fun h=>?_) (fun h=>?_)
  ·refine a4.next (gThen (gThen (gOpt 20) (gSepL gName 20)) (gThen (gDirs n) (gFields n))) (by rw[isW_kd h];decide) (fun _ _ res hr=>?_) fun H5 a5=>?_
   ·unfold gThen at hr⊢
    dsimp only at hr⊢
    rw[if_pos h,rest_tail]
    exact hr
   refine Fn.mono (a5.as.taken (K:=fun _ H'=> ∃σ6 m6 lo6,Acc E H H σ (gObject n) σ.deep (gThen (gSepL gName 20) (gThen (gDirs n) (gFields n))) 2010 m6 lo6 (fun G=>KM H D G (some ⟨H2.size,0,none⟩,1,1) [text]∧NB E.p nb (ndCells 27 s (bs []) (bs []) 0 0) G) [] σ6 H'∧2≤m6) (by decide) (gThen (gSepL gName 20) (gThen (gDirs n) (gFields n))) (fun _ hk res hr=>?_) (fun _ hk H6 a6=>⟨_,_,_,a6.leB (by omega),by omega⟩) (fun hk=>⟨_,_,_,(a5.as.of fun h1 _ res hr=>?_).leB (by omega),by omega⟩)) ?_
   ·rw[gThen_pos (a:=gOpt 20) (by unfold gOpt;rw[if_pos hk]),rest_tail]
    exact hr
   ·rw[gThen_pos (a:=gOpt 20) (by unfold gOpt;rw[if_neg (hk.resolve_left fun h=>not_bad h h1)])]
    exact hr
   rintro _ H6 ⟨b,rfl,σ6,m6,lo6,a6,hm6⟩
   refine⟨b,rfl,?_⟩
   refine a6.members (nameLike_name E) (by decide) kp hDH hDp (e:=1) (by simp[sumL];omega) (by simp) (BI:=2016) (by omega) (by omega) (nd:=fun s=>⟨28,s,bs [],bs [],0,0⟩) rfl fun z l' σ' C' H' m' lo' a7 hm hl hp=>?_
   exact⟨l',σ',C',m',lo',a7,hm,hl⟩
  ·refine⟨[text],_,_,_,_,(a4.of fun _ _ res hr=>?_).leB (by omega),by simp[sumL];omega,by simp⟩
   rw[gThen_pos (a:=fun l=>if isW wImplements' l=true then gThen (gOpt 20) (gSepL gName 20) l.tail else some (true,l)) (by dsimp only;rw[if_neg (by rw[h];decide)])]
   exact hr
 rintro⟨y13,_⟩ H14 ⟨l,σ7,C7,m7,lo7,a7,hm7,hl7⟩
 dsimp only at a7⊢
 refine⟨(27,s,bs [],bs [],0,0),lcO a7.fr.2.2 rfl,?_⟩
 dsimp only
 have hz7:=a7.fr.1
 have hs7:=a7.ext.size
 refine a7.rebase.call (directivesF hn _ (ddir a7)) fun y1 σ8 H8 a8 h8=>?_
 refine⟨lcO a8.fr.2.2 rfl,?_⟩
 refine a8.last.call (fieldsF hn _ (ddir a8)) fun y2 σ9 H9 a9 h9=>?_
 refine⟨lcO a9.fr.2.2 rfl,?_⟩
 refine nbI fun H10 e10 hb10 x10 s10=>?_
 have a10:=a9.grow x10
 refine⟨lcO a10.fr.2.2 rfl,?_⟩
 refine a10.pushL hz7.rowlt (Nat.le_trans hDH hs7) hDp kp hl7 hb10 (by simp) (by simp) fun ad cc H11 a11=>?_
 refine⟨lcO a11.fr.2.2 rfl,?_⟩
 have hz11:=a11.fr.1
 have hsum:sumL (l++([]++[y1]++[y2]))=sumL l+(y1.2.1+y2.2.1):=by simp[sumL]
 have hlim:=a11.lim
 refine a11.made (n:=⟨27,s,bs [],bs [],0,0⟩) hz11.slc.1 hz11.slc.2 (by simp;omega) (by omega) fun w H12 a12 hw hbw=>?_
 exact a12.retF hb hbw (by omega) (by omega)
theorem unionF {E:SEnv} {n:Nat} (hn:n≤60) (σ:St) (hb:σ.bad=false) (hd:σ.deep+n=60) (text:Sli):SpT E fq30 text σ (bV n+10060) (gUnion n):=by
 intro D H sp hDp hDH hT ht1
 have hB3:bV n≤120600:=by unfold bV;omega
 have a0:Acc E H H σ (gUnion n) σ.deep (gUnion n) 2000 0 σ.at_ (fun _=>True) [] σ H:=Acc.start sp hb
 have ddir: ∀ {C:Heap} {σ':St} {g':Gr} {B m lo:Nat} {F:Heap→Prop} {ks:List Sli} {H':Heap},Acc E H C σ (gUnion n) σ.deep g' B m lo F ks σ' H'→σ'.bad=false→σ'.deep+n=60:=fun a h=>by have:=(a.ok h).1;omega
 refine spUnion.enter _ _ _ _ H _ ?_
 unfold spUnion.W
 refine Acc.name (g:=gThen (gDirs n) fun r=>if kd r=8∧kd r.tail≠13 then gSepL gName 13 r.tail else none) a0 fun s σ1 H1 a1 h1 _=>?_
 refine a1.node fun nb H2 hnb a2=>?_
 refine a2.call (directivesF hn _ (ddir a2)) fun y1 σ3 H3 a3 h3=>?_
 refine KM.lit (A:=H) (D:=D) (ks:=[text,y1]) a3.ext.size (Nat.le_trans hDH a3.ext.size) (born2 (hT.ext a3.ext hDp) ((a3.kids y1 (by simp)).older hDH)) (by simp) rfl fun H4 x4 hkm=>?_
 have kp:=keeps_nb E H D nb #[.int .i64 32,.string s,.string (bs []),.string (bs []),.int .i64 0,.int .i64 0]
 have a4:=((a3.grow x4).setF (F':=fun G=>KM H D G (some ⟨H3.size,0,none⟩,2,2) [text,y1]∧NB E.p nb (ndCells 32 s (bs []) (bs []) 0 0) G) ⟨hkm,(a3.grow x4).fr.2⟩ fun G G' x h=>⟨KM.stable a3.p hDp G G' x h.1,NB.ext G G' x h.2⟩).noK
 refine⟨fun y H'=>y.1=(!σ3.bad&&kd (E.rest σ3.at_) !=8)∧H'=H4,?_,?_⟩
 ·refine⟨σ3.bad,lcO a4.sp.obj rfl,fkI (fun h=>a4.kind ⟨by rw[h];rfl,rfl⟩) (fun h=>⟨by rw[h];rfl,rfl⟩)⟩
 rintro⟨b,_⟩ H4 ⟨hbb,rfl⟩
 dsimp only at hbb⊢
 refine fkI (fun h=>?_) (fun h=>?_)
 ·refine a4.mark (fun l=>some (false,l)) (fun _=>rfl) (fun h=>by cases h) fun H5 a5=>?_
  exact a5.failF hb (fun _ _=>rfl) (by omega)
 have hk8:σ3.bad=false→kd (E.rest σ3.at_)=8:=fun h3=>by rw[hbb,h3] at h;simpa using h
 refine(a4.of (g':=gThen (gSign 8) fun r=>if kd r=13 then none else gSepL gName 13 r) fun h3 _ res hr=>?_).must (by decide) fun σ5 H5 a5 h5=>?_
 ·have h8:=hk8 h3
  rw[gThen_pos (a:=gSign 8) (by unfold gSign;rw[if_pos h8])] at hr
  by_cases h13:kd (E.rest σ3.at_).tail=13
  ·rw[if_pos h13] at hr;cases hr
  ·rw[if_neg h13] at hr
   rw[if_pos ⟨h8,h13⟩];exact hr
 refine a5.orKind (gThen (gSepL gName 13) gEnd) (fun h13 res hr=>by rw[if_neg h13];rw[gThen_end] at hr;exact hr) fun u H6 a6 hu6=>?_
 refine a6.opt (by decide) hu6 fun bt σ7 H7 lo7 a7=>?_
 have hs6:sumL [text,y1]=text.2.1+y1.2.1:=by simp[sumL]
 refine a7.members (nameLike_name E) (by decide) kp hDH hDp (e:=1) (by omega) (by simp) (BI:=bV n+10040) (by omega) (by omega) (nd:=fun s=>⟨33,s,bs [],bs [],0,0⟩) rfl fun z l' σ' C' H' m' lo' a8 hm hl hp=>?_
 refine⟨(32,s,bs [],bs [],0,0),lcO a8.fr.2.2 rfl,?_⟩
 dsimp only
 have hz8:=a8.fr.1
 have hlim:=a8.lim
 refine a8.made (n:=⟨32,s,bs [],bs [],0,0⟩) hz8.slc.1 hz8.slc.2 (by omega) (by omega) fun w H12 a12 hw hbw=>?_
 exact a12.retF hb hbw (by omega) (by omega)
theorem nameLike_location (E:SEnv):NameLike E fq66:=by
 intro A C σ0 g0 d g B m lo F ks σ H a K hk
 refine(show Fn PP _ _ H fun v H'=> ∃s:ByteArray,v= .string s∧K s H' from ?_).mono ?_
 ·refine spLocation.enter _ H _ ?_
  unfold spLocation.W
  refine a.name fun s σ1 H1 a1 h1 _=>?_
  refine nbI fun H2 e2 hb2 x2 s2=>?_
  have a2:=a1.grow x2
  refine⟨fun z H'=>H'=H2∧ ∃k:Nat,z.1=(k:Int)∧k≤19,fun z _=>20 -z.1.toNat,⟨rfl,0,rfl,by omega⟩,?_⟩
  rintro⟨_,_⟩ H3 ⟨hHH,k,hz,hk19⟩
  dsimp only at hz⊢
  subst hz hHH
  refine fkI (fun hlt=>?_) (fun _=>?_)
  ·have hlt':k<19:=by simp at hlt;omega
   refine⟨ix_some (by omega) (by omega),?_⟩
   have hcell: ∃w:ByteArray,loadC H3 false 1 ⟨H1.size,0+(k:Int).toNat*1,none⟩=some (.string w):=by
    have hk':0+(k:Int).toNat*1=k:=by omega
    rw[hk']
    match k,hlt' with
    |0,_|1,_|2,_|3,_|4,_|5,_|6,_|7,_|8,_|9,_|10,_|11,_|12,_|13,_|14,_|15,_|16,_|17,_|18,_=>exact⟨_,lcO hb2 rfl⟩
   obtain⟨w,hw⟩:=hcell
   refine⟨w,hw,fkI (fun _=>rkI ⟨s,rfl,hk s σ1 H3 a2 fun h=>⟨(h1 h).1,(h1 h).2.2.1⟩⟩) (fun _=>?_)⟩
   rw[wrap1 (k:=k) (by omega)]
   exact⟨⟨rfl,k+1,rfl,by omega⟩,by omega⟩
  ·refine a2.mark g (fun _=>rfl) (fun h=>by cases h) fun H4 a4=>?_
   exact rkI ⟨s,rfl,hk s _ H4 a4 fun h=>⟨(h1 h).1,(h1 h).2.2.1⟩⟩
 ·rintro _ H' ⟨s,rfl,h⟩
  exact⟨s,rfl,h⟩
theorem definedF {E:SEnv} {n:Nat} (hn:n≤60) (σ:St) (hb:σ.bad=false) (hd:σ.deep+n=60) (text:Sli):SpT E fq33 text σ (bV n+10060) (gDirDef n):=by
 intro D H sp hDp hDH hT ht1
 have hB3:bV n≤120600:=by unfold bV;omega
 have a0:Acc E H H σ (gDirDef n) σ.deep (gDirDef n) 2000 0 σ.at_ (fun _=>True) [] σ H:=Acc.start sp hb
 refine spDefined.enter _ _ _ _ H _ ?_
 unfold spDefined.W
 generalize hg1:(gText fun r=>if isW wRepeatable r=true then none else gThen (gWord wOn) (fun q=>if kd q=13 then none else gSepL gName 13 q) r)=X
 refine Acc.must (g:=gThen gName (gThen (gInputsOpt n) X)) (by rw[←hg1];exact a0) (by decide) fun σ1 H1 a1 h1=>?_
 refine a1.name fun s σ2 H2 a2 h2 _=>?_
 refine a2.node fun nb H3 hnb a3=>?_
 refine KM.lit (A:=H) (D:=D) (ks:=[text]) a3.ext.size (Nat.le_trans hDH a3.ext.size) (fun y hy=>by rw[List.mem_singleton.1 hy];exact hT.ext a3.ext hDp) (by simp) rfl fun H4 x4 hkm=>?_
 have kp:=keeps_nb E H D nb #[.int .i64 37,.string s,.string (bs []),.string (bs []),.int .i64 0,.int .i64 0]
 have a4:=(a3.grow x4).setF (F':=fun G=>KM H D G (some ⟨H3.size,0,none⟩,1,1) [text]∧NB E.p nb (ndCells 37 s (bs []) (bs []) 0 0) G) ⟨hkm,(a3.grow x4).fr.2⟩ fun G G' x h=>⟨KM.stable a3.p hDp G G' x h.1,NB.ext G G' x h.2⟩
 have hs4:sumL [text]=text.2.1:=by simp[sumL]
 refine a4.kind ?_
 refine⟨fun y H'=> ∃l σ' C' m' lo',Acc E H C' σ (gDirDef n) σ.deep X (bV n+8032) m' lo' (fun G=>KM H D G y.1 l∧NB E.p nb (ndCells 37 s (bs []) (bs []) 0 0) G) [] σ' H'∧sumL l+1≤m'∧l.length≤2,?_,?_⟩
 ·refine fkI (fun h=>?_) (fun h=>?_)
  ·have hk:kd (E.rest σ2.at_)=4:=by simpa using h
   have hz4:=a4.fr.1
   refine(a4.rebase.of (g':=gThen (gInputs n 4 5) X) fun _ _ res hr=>?_).call (inputsF (o:=4) (c:=5) (by decide) (by decide) hn σ2 fun h=>by have:=(a4.ok h).1;omega) fun y2 σ5 H5 a5 h5=>?_
   ·rw[gThen_congr (a:=gInputsOpt n) (a':=gInputs n 4 5) (by unfold gInputsOpt;rw[if_pos hk])]
    exact hr
   refine a5.pushI hz4 (by have:=a4.ext.size;omega) hDp (a5.kids y2 (by simp)) (by simp) (kp.2 H5 _ _ a5.fr.1 a5.fr.2) kp.1 fun ad cc H6 a6=>?_
   exact⟨_,σ5,_,_,_,a6.leB (by omega),by rw[sumL_snoc];omega,by simp⟩
  ·have hk:kd (E.rest σ2.at_)≠4:=by simpa using h
   refine⟨[text],σ2,_,_,_,(a4.of fun _ _ res hr=>?_).leB (by omega),by omega,by simp⟩
   rw[gThen_pos (a:=gInputsOpt n) (r:=E.rest σ2.at_) (by unfold gInputsOpt;rw[if_neg hk])]
   exact hr
 rintro⟨z,_⟩ H6 ⟨l,σ6,C6,m6,lo6,a6,hm6,hl6⟩
 dsimp only at a6⊢
 -- of the word 'repeatable' it is not sure
 refine a6.orWord (w:=wRepeatable) (gText (gThen (gWord wOn) (fun q=>if kd q=13 then none else gSepL gName 13 q))) (fun hw res hr=>?_) fun u H7 a7=>?_
 ·rw[←hg1]
  unfold gText at hr⊢
  by_cases h18:kd (E.rest σ6.at_)=18∨kd (E.rest σ6.at_)=19
  ·rw[if_pos h18] at hr;cases hr
  ·rw[if_neg h18] at hr⊢
   dsimp only
   rw[if_neg (by rw[hw];decide)]
   exact hr
 refine a7.text (gThen (gWord wOn) (fun q=>if kd q=13 then none else gSepL gName 13 q)) (fun h18 h19 res hr=>by unfold gText;rw[if_neg (by omega)];exact hr) fun u2 H8 a8=>?_
 refine a8.word wOn ?_
 refine fkI (fun h=>a8.failF hb (fun _ _=>?_) (by omega)) (fun h=>?_)
 ·have h':isW wOn (E.rest σ6.at_)=false:=by simpa using h
  unfold gThen gWord
  dsimp only
  rw[if_neg (by rw[h'];decide)]
 have h':isW wOn (E.rest σ6.at_)=true:=by simpa using h
 refine a8.next (fun q=>if kd q=13 then none else gSepL gName 13 q) (by dsimp only;rw[isW_kd h'];decide) (fun _ _ res hr=>?_) fun H9 a9=>?_
 ·dsimp only at hr⊢
  rw[gThen_pos (a:=gWord wOn) (r:=(E.rest σ6.at_).tail) (by unfold gWord;rw[if_pos h']),rest_tail]
  exact hr
 refine a9.orKind (gThen (gSepL gName 13) gEnd) (fun h13 res hr=>by dsimp only at h13 hr⊢;rw[if_neg h13];rw[gThen_end] at hr;exact hr) fun u H10 a10 hu10=>?_
 refine a10.opt (by decide) hu10 fun bt σ11 H11 lo11 a11=>?_
 refine a11.members (nameLike_location E) (by decide) kp hDH hDp (e:=1) (by omega) (by omega) (BI:=bV n+10040) (by omega) (by omega) (nd:=fun s=>⟨38,s,bs [],bs [],0,0⟩) rfl fun z l' σ' C' H' m' lo' a12 hm hl hp=>?_
 refine⟨(37,s,bs [],bs [],0,0),lcO a12.fr.2.2 rfl,?_⟩
 dsimp only
 have hz12:=a12.fr.1
 have hlim:=a12.lim
 refine a12.made (n:=⟨37,s,bs [],bs [],0,0⟩) hz12.slc.1 hz12.slc.2 (by omega) (by omega) fun w H13 a13 hw hbw=>?_
 exact a13.retF hb hbw (by omega) (by omega)
end Go.Vx
