/- A part of the proof of what the last text of this claim says: QE1, QT2, QT3, QE2, QE3. Conditions: none. -/
import Derived.Test.YtkopcepfeeemhaaGreatDoorYDAu
import Derived.Test.YtkopcepfeeemhaaGreatDoorYDAz
import Derived.Test.YtkopcepfeeemhaaGreatDoorYDBa
set_option maxRecDepth 10000
namespace Go.Vx
open Go Go.Proofs
def leGo (s:BA) (i:Nat):List (Nat×Nat):=
 if _h:i<s.size then
  if bt s i=13∧i+1<s.size∧bt s (i+1)=10 then(i,i+2)::leGo s (i+2)
  else if bt s i=13∨bt s i=10 then(i,i+1)::leGo s (i+1)
  else leGo s (i+1)
 else[]
 termination_by s.size -i
def leV (b:Nat):Value:= .slice (some ⟨b,0,none⟩) 2 2
structure LeI (H H':Heap) (x:Sl) (l:List (Nat×Nat)):Prop where
 ext:Ext [] H H'
 own: ∃bs:List Nat,OwnS H' tq30 1 x.1 x.2.1 x.2.2 (bs.map leV)∧All2 (fun b (p:Nat×Nat)=>H'[b]?=some (.cells #[.int .i64 p.1,.int .i64 p.2] tq3)) bs l
 row: ∀r,k0u x.1=some r→H.size≤r
theorem LeI.push {H H':Heap} {x:Sl} {l:List (Nat×Nat)} (h:LeI H H' x l) (hlen:l.length≤300000000) (p:Nat×Nat) {K:OA→Nat→Heap→Prop}
 (hk: ∀a c H2,LeI H H2 (a,x.2.1+1,c) (l++[p])→Ext [] H H2→K a c H2):
 newB H' (.cells #[(.int .i64 p.1),(.int .i64 p.2)] tq3) fun b8 H9=>newB H9 (.cells #[(.slice (some ⟨b8,0,none⟩) 2 2)] tq30) fun b10 H11=>appK H11 tq30 1 24 x.1 x.2.1 x.2.2 (some ⟨b10,0,none⟩) 1 K:=by
 obtain⟨he,⟨bs,hown,hall⟩,hrow⟩:=h
 have hml:400000000≤maxLen:=by decide
 have hn:=hown.1
 simp only[List.length_map,Nat.mul_one] at hn
 have hbl:=hall.len
 refine nbI fun H1 e1 hb1 x1 s1=>nbI fun H2 e2 hb2 x2 s2=>?_
 have o2:=(hown.ext x1 (by simp)).ext x2 (by simp)
 have y2:=x1.trans x2
 refine .inr ⟨_,_,o2,k2o.of_block hb2 rfl,?_,by omega,by omega,?_⟩
 ·intro u hu;simp at hu;subst hu;rfl
 intro a c H3 ho hg _ hr
 have keep: ∀(k:Nat) (cs:Array Value),H2[k]?=some (.cells cs tq3)→H3[k]?=some (.cells cs tq3):=by
  intro k cs hk'
  rw[hg.block k (k0l hk') fun eq=>?_,hk']
  obtain⟨cur,_,hg2,_⟩:=o2.row eq.symm
  rw[hk'] at hg2
  cases hg2
 have hx:Ext [] H H3:=by
  refine⟨by have:=he.size;have:=y2.size;have:=hg.size;omega,fun k o hk' _=>?_⟩
  have h2:=y2.get _ _ (he.get _ _ hk' (by simp)) (by simp)
  rw[hg.block k (k0l h2) fun eq=>?_,h2]
  have:=hrow k eq.symm
  have:=k0l hk'
  omega
 refine hk a c H3 ⟨hx,⟨bs++[H'.size],?_,?_⟩,?_⟩ hx
 ·rw[List.map_append];exact ho
 ·exact(hall.imp fun b q hq=>keep _ _ (y2.get _ _ hq (by simp))).snoc (keep _ _ (x2.get _ _ hb1 (by simp)))
 ·intro r hr'
  rcases hr with h5|h5
  ·exact hrow r (by rw[←h5];exact hr')
  ·rw[h5] at hr';cases hr';have:=he.size;have:=y2.size;omega
theorem kea {E:Src} {H:Heap} (h:SrcAt E H) {i:Nat} (hi:i<E.text.size):k07 H false 1 ⟨E.body,i,none⟩=some (.int .u8 (bt E.text i)):=by
 obtain⟨c,fr,hb,_,hc⟩:=h.body
 exact lcO hb (hc i hi)
theorem keJ {E:Src} {H:Heap} (h:SrcAt E H):Fn PP fq271 #[.slice (some ⟨E.body,0,none⟩) E.text.size E.cap] H fun v H'=> ∃x:Sl,v= .slice x.1 x.2.1 x.2.2∧LeI H H' x (leGo E.text 0):=by
 have hsm:=h.small
 refine zzLineEnds.enter _ _ _ H _ ?_
 unfold zzLineEnds.W
 refine⟨fun z H'=> ∃(i:Nat) (l:List (Nat×Nat)),z.2.1=i∧i≤E.text.size∧LeI H H' z.1 l∧l.length≤i∧l++leGo E.text i=leGo E.text 0,fun z _=>E.text.size -z.2.1.toNat,
  ⟨0,[],rfl,Nat.zero_le _,⟨Ext.refl _ _,⟨[],OwnS.nil _ _ _,.nil⟩,by simp[k0u]⟩,Nat.le_refl _,by simp⟩,?_⟩
 rintro⟨⟨a,n,cc⟩,_,_⟩ H2 ⟨i,l,hi1,hi2,hI,hli,heq⟩
 dsimp only at hi1 hI⊢
 subst hi1
 have h2:=h.ext hI.ext
 refine fkI (fun hlt=>?_) (fun hge=>?_)
 ·have hi:i<E.text.size:=by simp at hlt;omega
  have w1:IntKind.i64.wrap ((i:Int)+1)=((i+1:Nat):Int):=by rw[i64w (by omega)];rfl
  have w2:IntKind.i64.wrap ((i:Int)+2)=((i+2:Nat):Int):=by rw[i64w (by omega)];rfl
  have w3:IntKind.i64.wrap (((i+1:Nat):Int)+1)=((i+2:Nat):Int):=by rw[i64w (by omega)];omega
  have hb1:=kea h2 hi
  have e0:k0b (some ⟨E.body,0,none⟩)+((i:Nat):Int).toNat*1=i:=by simp[k0b]
  rw[leGo,dif_pos hi] at heq
  rw[w1,w2]
  refine⟨(decide (bt E.text i=13∧i+1<E.text.size∧bt E.text (i+1)=10),()),?_,?_⟩
  ·refine⟨k0k (by omega) (by omega),bt E.text i,by rw[e0];exact hb1,?_⟩
   refine fkI (fun h13=>?_) (fun h13=>?_)
   ·have h13':bt E.text i=13:=by simpa using h13
    refine fkI (fun h1=>?_) (fun h1=>?_)
    ·have h1':i+1<E.text.size:=by simp at h1;omega
     have hb2:=kea h2 h1'
     have e1:k0b (some ⟨E.body,0,none⟩)+((i+1:Nat):Int).toNat*1=i+1:=by simp[k0b]
     refine⟨k0k (by omega) (by omega),bt E.text ((i+1:Nat):Int),by rw[e1];exact hb2,?_,rfl⟩
     have ec:((i+1:Nat):Int)=(i:Int)+1:=by omega
     rw[ec]
     by_cases h10:bt E.text ((i:Int)+1)=10
     ·simp[h13',h1',h10]
     ·simp[h13',h10]
    ·have h1': ¬i+1<E.text.size:=by simp at h1;omega
     exact⟨by simp[h1'],rfl⟩
   ·have h13':bt E.text i≠13:=by simpa using h13
    exact⟨by simp[h13'],rfl⟩
  refine fkI (fun hA=>?_) (fun hA=>?_)
  ·have hA':bt E.text i=13∧i+1<E.text.size∧bt E.text (i+1)=10:=by simpa using hA
   rw[if_pos hA'] at heq
   refine hI.push (by omega) (i,i+2) fun a' c' H3 hI3 _=>?_
   rw[w3]
   exact⟨⟨i+2,l++[(i,i+2)],rfl,by omega,hI3,by simp;omega,by rw[←heq];simp⟩,by omega⟩
  ·have hA': ¬(bt E.text i=13∧i+1<E.text.size∧bt E.text (i+1)=10):=by simpa using hA
   rw[if_neg hA'] at heq
   refine⟨(decide (bt E.text i=13∨bt E.text i=10),()),?_,?_⟩
   ·refine⟨k0k (by omega) (by omega),bt E.text i,by rw[e0];exact hb1,?_⟩
    refine fkI (fun h13=>?_) (fun h13=>?_)
    ·have h13':bt E.text i=13:=by simpa using h13
     exact⟨by simp[h13'],rfl⟩
    ·have h13':bt E.text i≠13:=by simpa using h13
     refine⟨k0k (by omega) (by omega),bt E.text i,by rw[e0];exact hb1,?_,rfl⟩
     by_cases h10:bt E.text i=10
     ·simp[h10]
     ·simp[h13',h10]
   refine fkI (fun hB=>?_) (fun hB=>?_)
   ·have hB':bt E.text i=13∨bt E.text i=10:=by simpa using hB
    rw[if_pos hB'] at heq
    refine hI.push (by omega) (i,i+1) fun a' c' H3 hI3 _=>?_
    exact⟨⟨i+1,l++[(i,i+1)],rfl,by omega,hI3,by simp;omega,by rw[←heq];simp⟩,by omega⟩
   ·have hB': ¬(bt E.text i=13∨bt E.text i=10):=by simpa using hB
    rw[if_neg hB'] at heq
    exact⟨⟨i+1,l,rfl,by omega,hI,by omega,heq⟩,by omega⟩
 ·have hi:i=E.text.size:=by simp at hge;omega
  rw[leGo,dif_neg (by omega),List.append_nil] at heq
  exact rkI ⟨(a,n,cc),rfl,by rw[←heq];exact hI⟩
def Took (G:Heap) (tk:Nat) (H:Heap) (D X:List Nd) (v:Value) (H':Heap):Prop:=v= .tuple #[]∧KpT H H'∧ ∃Y,Sames Y X∧TkAt G H' tk (D++Y)
theorem Took.unit {G:Heap} {tk:Nat} {H:Heap} {D X:List Nd} {v:Value} {H':Heap} (h:Took G tk H D X v H'):v= .tuple #[]:=h.1
theorem Took.within {G H H':Heap} {tk:Nat} {D X:List Nd} {x:Nd} {v:Value} (h:Took G tk H (D++[x]) X v H') (hX:X.length≤10000):
 v= .tuple #[]∧KpT H H'∧ ∃W,W.length≤10000∧Sames W X∧TkAt G H' tk (D++x::W):=by
 obtain⟨h1,h2,Y,hY,hT⟩:=h
 exact⟨h1,h2,Y,by rw[hY.len];exact hX,hY,by simpa using hT⟩
theorem Took.zero {G H:Heap} {tk:Nat} {D:List Nd} (h:TkAt G H tk D):Took G tk H D [] (.tuple #[]) H:=⟨rfl,KpT.refl H,[],.nil,by simpa using h⟩
theorem Took.pre {G A H H':Heap} {tk:Nat} {D X:List Nd} {v:Value} (h:Took G tk H D X v H') (k:KpT A H):Took G tk A D X v H':=⟨h.1,k.trans h.2.1,h.2.2⟩
theorem Took.seq {G A H H':Heap} {tk:Nat} {D X Y Z:List Nd} {v:Value} (hk:KpT A H) (hY:Sames Y X) (h:Took G tk H (D++Y) Z v H'):Took G tk A D (X++Z) v H':=by
 obtain⟨h1,h2,W,hW,hT⟩:=h
 exact⟨h1,hk.trans h2,Y++W,hY.append hW,by rw[←List.append_assoc];exact hT⟩
theorem kgl {t:Tr} (h:t.ks=[]) (hw:Ws t):flat t=[t.n]∧t.n.size=1:=by
 cases t with|node n ks=>
 simp only[Tr.ks] at h
 subst h
 have:=hw.size
 simp only[Tr.n,flat,k0a,List.length_singleton] at this
 exact⟨by simp[flat,k0a,Tr.n],this⟩
theorem k1S (t:Tr):flat t=t.n::k0a t.ks:=by cases t;rfl
theorem k2B {t:Tr} (h:t.ks=[]) (hw:Ws t) (x:Nd) (h1:x.kind=t.n.kind) (h2:x.name=t.n.name) (h3:x.alias=t.n.alias) (h4:x.text=t.n.text) (h5:x.kind=15→x.flag=t.n.flag):Sames [x.sized 1] (flat t):=by
 obtain⟨e,hs⟩:=kgl h hw
 rw[e]
 exact .cons ⟨h1,h2,h3,h4,hs.symm,h5⟩ .nil
theorem k2C {t:Tr} (hw:Ws t) {W:List Nd} (hW:Sames W (k0a t.ks)) (x:Nd) (h1:x.kind=t.n.kind) (h2:x.name=t.n.name) (h3:x.alias=t.n.alias) (h4:x.text=t.n.text) (h5:x.kind≠15):Sames (x.sized ((1+W.length:Nat):Int)::W) (flat t):=by
 have hs:=hw.size
 rw[k1S] at hs⊢
 refine .cons ⟨h1,h2,h3,h4,?_,fun h=>absurd h h5⟩ hW
 rw[hs,hW.len]
 simp only[Nd.sized,List.length_cons]
 omega
theorem caps {G H:Heap} {tk:Nat} {D:List Nd} (h:TkAt G H tk D) (v:Nat) (eT:TypeId) {K:Nat→Nat→Heap→Prop}
 (hk: ∀b1 b3 H',Ext [] H H'→TkAt G H' tk D→H'[b1]?=some (.cells #[.pointer (some ⟨tk,0,none⟩)] tq60)→H'[b3]?=some (.cells #[.pointer (some ⟨v,0,none⟩)] eT)→K b1 b3 H'):
 newB H (.cells #[(.pointer (some ⟨tk,0,none⟩))] tq60) fun b1 H2=>newB H2 (.cells #[(.pointer none)] eT) fun b3 H4=>k08 H4 ⟨b3,0,none⟩ [(.pointer (some ⟨v,0,none⟩))] fun H5=>K b1 b3 H5:=by
 refine nbI fun H1 e1 hb1 x1 s1=>nbI fun H2 e2 hb2 x2 s2=>?_
 refine swI hb2 (by simp) rfl rfl fun H3 e3 hb3 x3 s3=>?_
 have y3:Ext [] H1 H3:=by rw[e3];exact x2.setNew (Nat.le_refl _) _
 exact hk _ _ H3 (x1.trans y3) (h.grow (x1.trans y3)) (y3.get _ _ hb1 (by simp)) hb3
theorem cap1 {G H:Heap} {tk:Nat} {D:List Nd} (h:TkAt G H tk D) (v:Nat) (eT:TypeId) {K:Nat→Heap→Prop}
 (hk: ∀b3 H',Ext [] H H'→TkAt G H' tk D→H'[b3]?=some (.cells #[.pointer (some ⟨v,0,none⟩)] eT)→K b3 H'):
 newB H (.cells #[(.pointer none)] eT) fun b3 H4=>k08 H4 ⟨b3,0,none⟩ [(.pointer (some ⟨v,0,none⟩))] fun H5=>K b3 H5:=by
 refine nbI fun H2 e2 hb2 x2 s2=>?_
 refine swI hb2 (by simp) rfl rfl fun H3 e3 hb3 x3 s3=>?_
 have y3:Ext [] H H3:=by rw[e3];exact x2.setNew (Nat.le_refl _) _
 exact hk _ H3 y3 (h.grow y3) hb3
def k1P (T b:Nat) (X:List Nd) (G:Heap):Prop:= ∀(H:Heap) (tk:Nat) (D:List Nd),TkAt G H tk D→D.length+X.length≤5000→
 Fn PP fq119 #[.pointer (some ⟨tk,0,none⟩),.iface T (.pointer (some ⟨b,0,none⟩))] H (Took G tk H D X)
def k1L (T b:Nat) (X:List Nd) (G:Heap):Prop:= ∀(H:Heap) (tk:Nat) (D:List Nd),TkAt G H tk D→D.length+X.length≤5000→
 Fn PP fq118 #[.pointer (some ⟨tk,0,none⟩),.iface T (.pointer (some ⟨b,0,none⟩))] H (Took G tk H D X)
theorem k3s {G H:Heap} {tk:Nat} {D:List Nd} (h:TkAt G H tk D) (hD:D.length≤5000) {A:Heap} (hk:KpT A H) (lb:Nat) (hl:k0B lb G) (x:Nd) {X:List Nd} (hX:Sames [x.sized 1] X):
 k00 PP fq67 #[(.pointer (some ⟨tk,0,none⟩)),(.pointer (some ⟨lb,0,none⟩)),.agg x.val,.nilFunc] H ⟨Unit,fun _=>(.tuple #[])⟩ fun(_:Unit) H7=>rk [] H7 (Took G tk A D X):=by
 obtain⟨ls,le,lq,hl⟩:=hl
 refine(k53 h (by omega) lb hl x).mono ?_
 rintro _ H3 ⟨rfl,k3,t3⟩
 exact⟨(),rfl,rkI ⟨rfl,hk.trans k3,_,hX,t3⟩⟩
section
variable {G:Heap} {b lb nb:Nat} {t:Tr}
theorem kkJ (hl:k0B lb G) (hn:k0W nb t.n.name G) (hb:G[b]?=some (.cells #[.string k9z,.pointer (some ⟨lb,0,none⟩),.pointer (some ⟨nb,0,none⟩)] tq176))
 (hk:t.n.kind=11) (ha:t.n.alias=eB) (hx:t.n.text=eB) (hks:t.ks=[]) (hw:Ws t):k1P tq169 b (flat t) G:=by
 intro H tk D h hD
 obtain⟨lb2,_,hnm⟩:=hn
 refine k7v.enter tk b H _ ?_
 unfold k7v.W
 refine nbI fun H2 e2 hb2 x2 s2=>?_
 have t2:=h.grow x2
 have b2:=t2.ext.get _ _ hb (by simp)
 refine⟨_,lcO hb2 rfl,_,lcO b2 rfl,_,lcO b2 rfl,?_⟩
 refine(k2R nb t.n.name H2 (t2.ext.get _ _ hnm (by simp))).mono ?_
 rintro _ _ ⟨rfl,rfl⟩
 refine⟨_,rfl,lcO b2 rfl,lcO hb2 rfl,?_⟩
 exact k3s t2 (by omega) x2.kpT lb hl ⟨11,t.n.name,eB,eB,0,0⟩ (k2B hks hw _ hk.symm rfl ha.symm hx.symm (fun h=>by simp at h))
theorem kkF (hl:k0B lb G) (hb:G[b]?=some (.cells #[.string kcp,.pointer (some ⟨lb,0,none⟩),.string t.n.text] tq301))
 (hk:t.n.kind=12) (hn:t.n.name=eB) (ha:t.n.alias=eB) (hks:t.ks=[]) (hw:Ws t):k1P tq300 b (flat t) G:=by
 intro H tk D h hD
 refine k7r.enter tk b H _ ?_
 unfold k7r.W
 refine nbI fun H2 e2 hb2 x2 s2=>?_
 have t2:=h.grow x2
 have b2:=t2.ext.get _ _ hb (by simp)
 refine⟨_,lcO hb2 rfl,_,lcO b2 rfl,_,lcO b2 rfl,?_⟩
 exact k3s t2 (by omega) x2.kpT lb hl ⟨12,eB,eB,t.n.text,0,0⟩ (k2B hks hw _ hk.symm hn.symm ha.symm rfl (fun h=>by simp at h))
theorem kkE (hl:k0B lb G) (hb:G[b]?=some (.cells #[.string kcn,.pointer (some ⟨lb,0,none⟩),.string t.n.text] tq303))
 (hk:t.n.kind=13) (hn:t.n.name=eB) (ha:t.n.alias=eB) (hks:t.ks=[]) (hw:Ws t):k1P tq302 b (flat t) G:=by
 intro H tk D h hD
 refine k7q.enter tk b H _ ?_
 unfold k7q.W
 refine nbI fun H2 e2 hb2 x2 s2=>?_
 have t2:=h.grow x2
 have b2:=t2.ext.get _ _ hb (by simp)
 refine⟨_,lcO hb2 rfl,_,lcO b2 rfl,_,lcO b2 rfl,?_⟩
 exact k3s t2 (by omega) x2.kpT lb hl ⟨13,eB,eB,t.n.text,0,0⟩ (k2B hks hw _ hk.symm hn.symm ha.symm rfl (fun h=>by simp at h))
theorem kkI (hl:k0B lb G) (hb:G[b]?=some (.cells #[.string k9y,.pointer (some ⟨lb,0,none⟩),.string t.n.text] tq183))
 (hk:t.n.kind=14) (hn:t.n.name=eB) (ha:t.n.alias=eB) (hks:t.ks=[]) (hw:Ws t):k1P tq102 b (flat t) G:=by
 intro H tk D h hD
 refine k7u.enter tk b H _ ?_
 unfold k7u.W
 refine nbI fun H2 e2 hb2 x2 s2=>?_
 have t2:=h.grow x2
 have b2:=t2.ext.get _ _ hb (by simp)
 refine⟨_,lcO hb2 rfl,_,lcO b2 rfl,_,lcO b2 rfl,?_⟩
 exact k3s t2 (by omega) x2.kpT lb hl ⟨14,eB,eB,t.n.text,0,0⟩ (k2B hks hw _ hk.symm hn.symm ha.symm rfl (fun h=>by simp at h))
theorem kkD (hl:k0B lb G) (hb:G[b]?=some (.cells #[.string kcm,.pointer (some ⟨lb,0,none⟩),.string t.n.name] tq308))
 (hk:t.n.kind=16) (hx:t.n.text=eB) (ha:t.n.alias=eB) (hks:t.ks=[]) (hw:Ws t):k1P tq307 b (flat t) G:=by
 intro H tk D h hD
 refine k7p.enter tk b H _ ?_
 unfold k7p.W
 refine nbI fun H2 e2 hb2 x2 s2=>?_
 have t2:=h.grow x2
 have b2:=t2.ext.get _ _ hb (by simp)
 refine⟨_,lcO hb2 rfl,_,lcO b2 rfl,_,lcO b2 rfl,?_⟩
 exact k3s t2 (by omega) x2.kpT lb hl ⟨16,t.n.name,eB,eB,0,0⟩ (k2B hks hw _ hk.symm rfl ha.symm hx.symm (fun h=>by simp at h))
theorem kei {v:Bool} (hl:k0B lb G) (hb:G[b]?=some (.cells #[.string kck,.pointer (some ⟨lb,0,none⟩),.bool v] tq306))
 (hk:t.n.kind=15) (hn:t.n.name=eB) (hx:t.n.text=eB) (ha:t.n.alias=eB) (hf:t.n.flag=if v=true then 1 else 0) (hks:t.ks=[]) (hw:Ws t):k1P tq304 b (flat t) G:=by
 intro H tk D h hD
 refine k7o.enter tk b H _ ?_
 unfold k7o.W
 refine nbI fun H2 e2 hb2 x2 s2=>nbI fun H3 e3 hb3 x3 s3=>?_
 refine swI hb3 (by simp) rfl rfl fun H4 e4 hb4 x4 s4=>?_
 have y4:Ext [] H2 H4:=by rw[e4];exact x3.setNew (Nat.le_refl _) _
 have hb4':H4[H2.size]?=some (.cells #[.int .i64 15,sE,sE,sE,.int .i64 0,.int .i64 0] tq41):=hb4
 have hb24:=y4.get _ _ hb2 (by simp)
 have t4:=h.grow (x2.trans y4)
 have b4:=t4.ext.get _ _ hb (by simp)
 refine⟨v,lcO b4 rfl,fkI (fun hv=>?_) (fun hv=>?_)⟩
 ·refine swI hb4' (by simp) rfl rfl fun H5 e5 hb5 x5 s5=>?_
  have hb5':H5[H2.size]?=some (.cells #[.int .i64 15,sE,sE,sE,.int .i64 1,.int .i64 0] tq41):=hb5
  have y5:Ext [] H H5:=by rw[e5];exact(x2.trans y4).setNew (by omega) _
  have t5:=h.grow y5
  have hb25:=x5.get _ _ hb24 (nm (by omega))
  have b5:=t5.ext.get _ _ hb (by simp)
  refine⟨_,lcO hb25 rfl,_,lcO b5 rfl,(15,bs [],bs [],bs [],1,0),lcO hb5' rfl,?_⟩
  exact k3s t5 (by omega) y5.kpT lb hl ⟨15,eB,eB,eB,1,0⟩ (k2B hks hw _ hk.symm hn.symm ha.symm hx.symm (fun _=>by rw[hf,if_pos hv]))
 ·refine⟨_,lcO hb24 rfl,_,lcO b4 rfl,(15,bs [],bs [],bs [],0,0),lcO hb4' rfl,?_⟩
  exact k3s t4 (by omega) (x2.trans y4).kpT lb hl ⟨15,eB,eB,eB,0,0⟩ (k2B hks hw _ hk.symm hn.symm ha.symm hx.symm (fun _=>by rw[hf,if_neg (by rw[hv];simp)]))
theorem kkB (hF:k2U b t.n.name G) (hk:t.n.kind=20) (hx:t.n.text=eB) (ha:t.n.alias=eB) (hks:t.ks=[]) (hw:Ws t):k1L tq107 b (flat t) G:=by
 intro H tk D h hD
 obtain⟨lb2,nb2,hl,⟨lb3,_,hnm⟩,hb⟩:=hF
 refine k7l.enter tk b H _ ?_
 unfold k7l.W
 refine nbI fun H2 e2 hb2 x2 s2=>?_
 have t2:=h.grow x2
 have b2:=t2.ext.get _ _ hb (by simp)
 refine⟨_,lcO hb2 rfl,_,lcO b2 rfl,?_⟩
 refine(k4U b nb2 t.n.name H2 b2 (t2.ext.get _ _ hnm (by simp))).mono ?_
 rintro _ _ ⟨rfl,rfl⟩
 refine⟨_,rfl,lcO b2 rfl,lcO hb2 rfl,?_⟩
 exact k3s t2 (by omega) x2.kpT lb2 hl ⟨20,t.n.name,eB,eB,0,0⟩ (k2B hks hw _ hk.symm rfl ha.symm hx.symm (fun h=>by simp at h))
theorem kkA {T v:Nat} {k:Tr} (hl:k0B lb G) (hb:G[b]?=some (.cells #[.string kcq,.pointer (some ⟨lb,0,none⟩),.iface T (.pointer (some ⟨v,0,none⟩))] tq297)) (hv:k1L T v (flat k) G)
 (hk:t.n.kind=21) (hn:t.n.name=eB) (hx:t.n.text=eB) (ha:t.n.alias=eB) (hks:t.ks=[k]) (hw:Ws t):k1L tq295 b (flat t) G:=by
 intro H tk D h hD
 have hfl:k0a t.ks=flat k:=by rw[hks];simp[k0a]
 rw[k1S,hfl,List.length_cons] at hD
 obtain⟨ls,le,lq,hl⟩:=hl
 refine k7k.enter tk b H _ ?_
 unfold k7k.W
 refine caps h b tq295 fun b1 b3 H5 x5 t5 h1 h3=>?_
 have b5:=t5.ext.get _ _ hb (by simp)
 refine⟨_,lcO h1 rfl,_,lcO h3 rfl,_,lcO b5 rfl,?_⟩
 refine(kjf.enter tk lb ⟨21,eB,eB,eB,0,0⟩ b1 b3 H5 _ (k2c fq179 t5 (by omega) lb hl ⟨21,eB,eB,eB,0,0⟩ b1 b3 (P:=fun W=>Sames W (flat k)) fun H7 k7 t7=>?_)).mono ?_
 ·have q1:=k7.get _ _ _ _ h1 (by decide) (by decide) (by decide)
  have q3:=k7.get _ _ _ _ h3 (by decide) (by decide) (by decide)
  have b7:=t7.ext.get _ _ hb (by simp)
  refine k60.enter b1 b3 H7 _ ?_
  unfold k60.W
  refine⟨_,lcO q1 rfl,_,lcO q3 rfl,_,lcO b7 rfl,?_⟩
  refine(hv H7 tk _ t7 (by simp;omega)).mono ?_
  intro v' H8 hT
  obtain rfl:=hT.unit
  exact⟨(),rfl,rkI (hT.within (by omega))⟩
 ·rintro _ H8 ⟨rfl,k8,W,hW,t8⟩
  exact⟨(),rfl,rkI ⟨rfl,x5.kpT.trans k8,_,k2C hw (by rw[hfl];exact hW) _ hk.symm hn.symm ha.symm hx.symm (by decide),t8⟩⟩
theorem kkC {T v:Nat} {k:Tr} (hl:k0B lb G) (hb:G[b]?=some (.cells #[.string kcu,.pointer (some ⟨lb,0,none⟩),.iface T (.pointer (some ⟨v,0,none⟩))] tq299)) (hv:k1L T v (flat k) G)
 (hk:t.n.kind=22) (hn:t.n.name=eB) (hx:t.n.text=eB) (ha:t.n.alias=eB) (hks:t.ks=[k]) (hw:Ws t):k1L tq298 b (flat t) G:=by
 intro H tk D h hD
 have hfl:k0a t.ks=flat k:=by rw[hks];simp[k0a]
 rw[k1S,hfl,List.length_cons] at hD
 obtain⟨ls,le,lq,hl⟩:=hl
 refine k7m.enter tk b H _ ?_
 unfold k7m.W
 refine caps h b tq298 fun b1 b3 H5 x5 t5 h1 h3=>?_
 have b5:=t5.ext.get _ _ hb (by simp)
 refine⟨_,lcO h1 rfl,_,lcO h3 rfl,_,lcO b5 rfl,?_⟩
 refine(kjg.enter tk lb ⟨22,eB,eB,eB,0,0⟩ b1 b3 H5 _ (k2c fq180 t5 (by omega) lb hl ⟨22,eB,eB,eB,0,0⟩ b1 b3 (P:=fun W=>Sames W (flat k)) fun H7 k7 t7=>?_)).mono ?_
 ·have q1:=k7.get _ _ _ _ h1 (by decide) (by decide) (by decide)
  have q3:=k7.get _ _ _ _ h3 (by decide) (by decide) (by decide)
  have b7:=t7.ext.get _ _ hb (by simp)
  refine k61.enter b1 b3 H7 _ ?_
  unfold k61.W
  refine⟨_,lcO q1 rfl,_,lcO q3 rfl,_,lcO b7 rfl,?_⟩
  refine(hv H7 tk _ t7 (by simp;omega)).mono ?_
  intro v' H8 hT
  obtain rfl:=hT.unit
  exact⟨(),rfl,rkI (hT.within (by omega))⟩
 ·rintro _ H8 ⟨rfl,k8,W,hW,t8⟩
  exact⟨(),rfl,rkI ⟨rfl,x5.kpT.trans k8,_,k2C hw (by rw[hfl];exact hW) _ hk.symm hn.symm ha.symm hx.symm (by decide),t8⟩⟩
end
theorem k4e (a:Tr) (l:List Tr):k0a (a::l)=flat a++k0a l:=by simp[k0a]
theorem k3o (l:List Tr) (k:Nat) (t:Tr) (h:l[k]?=some t):k0a (l.take (k+1))=k0a (l.take k)++flat t:=by
 have hlt:=(List.getElem?_eq_some_iff.1 h).1
 have he:l[k]=t:=(List.getElem?_eq_some_iff.1 h).2
 rw[List.take_succ_eq_append_getElem hlt,k0L,he]
 simp[k0a]
theorem k2J (l:List Tr) (k:Nat):(k0a (l.take k)).length≤(k0a l).length:=by
 have:k0a l=k0a (l.take k)++k0a (l.drop k):=by rw[←k0L,List.take_append_drop]
 rw[this,List.length_append];omega
theorem k2v: ∀l:List Tr,l.length≤(k0a l).length
 |[]=>by simp
 |a::l=>by
  have:=k2v l
  rw[k4e,List.length_append,k1S,List.length_cons,List.length_cons]
  omega
theorem All2.get {α β:Type} {R:α→β→Prop} {l:List α} {m:List β} (h:All2 R l m): ∀(i:Nat) (b:β),m[i]?=some b→ ∃a,l[i]?=some a∧R a b:=by
 induction h with
 |nil=>intro i b h;simp at h
 |cons h _ ih=>
  intro i b hb
  cases i with
  |zero=>simp at hb;subst hb;exact⟨_,rfl,h⟩
  |succ i=>simp at hb;exact ih i b hb
theorem SlAt.keep {x:Sl} {vs:List Value} {G H:Heap} (h:SlAt x vs G) (he:Ext [] G H):SlAt x vs H:=k0G.ext h he (by simp)
theorem k2Q {G H0 H:Heap} {tk:Nat} {D:List Nd} (ts:List Tr) (n:Nat) (hn:n=ts.length) (hlen:n≤10000) (hk:KpT H0 H) (hT:TkAt G H tk D)
 {body:Nat→Heap→(Int×Unit→Heap→Prop)→Prop}
 (hb: ∀(k:Nat) (t:Tr) (H1:Heap) (Y:List Nd) (next:Int×Unit→Heap→Prop),ts[k]?=some t→KpT H0 H1→Sames Y (k0a (ts.take k))→TkAt G H1 tk (D++Y)→
   (∀(H2:Heap) (Z:List Nd),KpT H0 H2→Sames Z (flat t)→TkAt G H2 tk ((D++Y)++Z)→next (((k+1:Nat):Int),()) H2)→body k H1 next)
 {rest:Heap→Prop} (hr: ∀(H1:Heap) (Y:List Nd),KpT H0 H1→Sames Y (k0a ts)→TkAt G H1 tk (D++Y)→rest H1)
 {lp:Int×Unit→Heap→(Int×Unit→Heap→Prop)→Prop} (hlp: ∀(k:Nat) (H1:Heap) (next:Int×Unit→Heap→Prop),lp ((k:Int),()) H1 next=k02 (decide ((k:Int)<((n:Nat):Int))) (body k H1 next) (rest H1)):
 k0e (Int×Unit) (0,()) H lp:=by
 refine⟨fun z H'=> ∃(k:Nat) (Y:List Nd),z.1=k∧k≤n∧KpT H0 H'∧Sames Y (k0a (ts.take k))∧TkAt G H' tk (D++Y),fun z _=>n -z.1.toNat,⟨0,[],rfl,Nat.zero_le _,hk,by simpa [k0a] using Sames.nil,by simpa using hT⟩,?_⟩
 rintro⟨_,_⟩ H1 ⟨k,Y,hk1,hkn,hk2,hY,hT1⟩
 dsimp only at hk1
 subst hk1
 rw[show(((k:Int),()):Int×Unit)=((k:Int),()) from rfl,hlp]
 refine fkI (fun hlt=>?_) (fun hge=>?_)
 ·have hlt':k<ts.length:=by simp at hlt;omega
  have hi:ts[k]?=some ts[k]:=List.getElem?_eq_getElem hlt'
  refine hb k ts[k] H1 Y _ hi hk2 hY hT1 fun H2 Z hk3 hZ hT2=>?_
  refine⟨⟨k+1,Y++Z,rfl,by omega,hk3,?_,by rw[←List.append_assoc];exact hT2⟩,by dsimp only;omega⟩
  rw[k3o ts k _ hi]
  exact hY.append hZ
 ·have he:k=ts.length:=by simp at hge;omega
  rw[he,List.take_length] at hY
  exact hr H1 Y hk2 hY hT1
section
variable {G:Heap} {b lb:Nat} {t:Tr} {a:OA} {n c:Nat}
theorem kkG {bs:List (Nat×Nat)} (hl:k0B lb G) (hb:G[b]?=some (.cells #[.string kcr,.pointer (some ⟨lb,0,none⟩),.slice a n c] tq312)) (hs:SlAt (a,n,c) (bs.map ifV) G)
 (hv:All2 (fun x k=>k1P x.1 x.2 (flat k) G) bs t.ks) (hk:t.n.kind=17) (hn:t.n.name=eB) (hx:t.n.text=eB) (ha:t.n.alias=eB) (hw:Ws t):k1P tq309 b (flat t) G:=by
 intro H tk D h hD
 rw[k1S,List.length_cons] at hD
 have hnl:n=t.ks.length:=by have:=hs.1;simp at this;rw[this,hv.len]
 have hks:t.ks.length≤(k0a t.ks).length:=k2v t.ks
 obtain⟨ls,le,lq,hl⟩:=hl
 refine k7s.enter tk b H _ ?_
 unfold k7s.W
 refine caps h b tq309 fun b1 b3 H5 x5 t5 h1 h3=>?_
 have b5:=t5.ext.get _ _ hb (by simp)
 refine⟨_,lcO h1 rfl,_,lcO h3 rfl,_,lcO b5 rfl,?_⟩
 refine(kjh.enter tk lb ⟨17,eB,eB,eB,0,0⟩ b3 b1 H5 _ (k2c fq181 t5 (by omega) lb hl ⟨17,eB,eB,eB,0,0⟩ b3 b1 (P:=fun W=>Sames W (k0a t.ks)) fun H7 k7 t7=>?_)).mono ?_
 ·have q1:=k7.get _ _ _ _ h1 (by decide) (by decide) (by decide)
  have q3:=k7.get _ _ _ _ h3 (by decide) (by decide) (by decide)
  have b7:=t7.ext.get _ _ hb (by simp)
  refine k62.enter b3 b1 H7 _ ?_
  unfold k62.W
  refine⟨_,lcO q3 rfl,(a,n,c),lcO b7 rfl,?_⟩
  refine k2Q t.ks n hnl (by omega) (KpT.refl H7) t7 (fun k kt H8 Y next hi k8 hY t8 hnext=>?_) (fun H8 Y k8 hY t8=>rkI ⟨rfl,k8,Y,by rw[hY.len];omega,hY,by simpa using t8⟩) (fun k H8 next=>rfl)
  obtain⟨x,hxi,hxv⟩:=hv.get k kt hi
  have hL:=(hs.keep t8.ext).load (i:=k) (v:=ifV x) (by simp[hxi])
  have q18:=k8.get _ _ _ _ q1 (by decide) (by decide) (by decide)
  have hlen:=k2J t.ks (k+1)
  rw[k3o t.ks k kt hi,List.length_append] at hlen
  refine⟨hL.1,_,hL.2,_,lcO q18 rfl,?_⟩
  refine(hxv H8 tk _ t8 ?_).mono ?_
  ·have:=hY.len
   simp only[List.length_append,List.length_cons,List.length_nil];omega
  intro v' H9 hT
  obtain rfl:=hT.unit
  obtain⟨_,k9,Z,hZ,t9⟩:=hT
  rw[k0h (k:=k) (by have:=(List.getElem?_eq_some_iff.1 hi).1;omega)]
  exact⟨(),rfl,hnext H9 Z (k8.trans k9) hZ t9⟩
 ·rintro _ H8 ⟨rfl,k8,W,hW,t8⟩
  exact⟨(),rfl,rkI ⟨rfl,x5.kpT.trans k8,_,k2C hw hW _ hk.symm hn.symm ha.symm hx.symm (by decide),t8⟩⟩
def k5k (b:Nat) (t:Tr) (G:Heap):Prop:= ∃(lb nb T v:Nat) (k:Tr),k0B lb G∧k0W nb t.n.name G∧G[b]?=some (.cells #[.string kcv,.pointer (some ⟨nb,0,none⟩),.pointer (some ⟨lb,0,none⟩),.iface T (.pointer (some ⟨v,0,none⟩))] tq319)∧
 k1P T v (flat k) G∧t.ks=[k]∧t.n.kind=19∧t.n.alias=eB∧t.n.text=eB∧Ws t
def k4y (b:Nat) (t:Tr) (G:Heap):Prop:= ∃(lb nb T v:Nat) (k:Tr),k0B lb G∧k0W nb t.n.name G∧G[b]?=some (.cells #[.string kcj,.pointer (some ⟨lb,0,none⟩),.pointer (some ⟨nb,0,none⟩),.iface T (.pointer (some ⟨v,0,none⟩))] tq180)∧
 k1P T v (flat k) G∧t.ks=[k]∧t.n.kind=9∧t.n.alias=eB∧t.n.text=eB∧Ws t
theorem k3O {t k:Tr} (h:t.ks=[k]):k0a t.ks=flat k:=by rw[h];simp[k0a]
theorem kkH {bs:List Nat} (hl:k0B lb G) (hb:G[b]?=some (.cells #[.string kcw,.pointer (some ⟨lb,0,none⟩),.slice a n c] tq316)) (hs:SlAt (a,n,c) (bs.map ptV) G)
 (hv:All2 (fun x k=>k5k x k G) bs t.ks) (hk:t.n.kind=18) (hn:t.n.name=eB) (hx:t.n.text=eB) (ha:t.n.alias=eB) (hw:Ws t):k1P tq313 b (flat t) G:=by
 intro H tk D h hD
 rw[k1S,List.length_cons] at hD
 have hnl:n=t.ks.length:=by have:=hs.1;simp at this;rw[this,hv.len]
 have hks:t.ks.length≤(k0a t.ks).length:=k2v t.ks
 obtain⟨ls,le,lq,hl⟩:=hl
 refine k7t.enter tk b H _ ?_
 unfold k7t.W
 refine caps h b tq313 fun b1 b3 H5 x5 t5 h1 h3=>?_
 have b5:=t5.ext.get _ _ hb (by simp)
 refine⟨_,lcO h1 rfl,_,lcO h3 rfl,_,lcO b5 rfl,?_⟩
 refine(kji.enter tk lb ⟨18,eB,eB,eB,0,0⟩ b3 b1 H5 _ (k2c fq182 t5 (by omega) lb hl ⟨18,eB,eB,eB,0,0⟩ b3 b1 (P:=fun W=>Sames W (k0a t.ks)) fun H7 k7 t7=>?_)).mono ?_
 ·have q1:=k7.get _ _ _ _ h1 (by decide) (by decide) (by decide)
  have q3:=k7.get _ _ _ _ h3 (by decide) (by decide) (by decide)
  have b7:=t7.ext.get _ _ hb (by simp)
  refine k63.enter b3 b1 H7 _ ?_
  unfold k63.W
  refine⟨_,lcO q3 rfl,(a,n,c),lcO b7 rfl,?_⟩
  refine k2Q t.ks n hnl (by omega) (KpT.refl H7) t7 (fun k kt H8 Y next hi k8 hY t8 hnext=>?_) (fun H8 Y k8 hY t8=>rkI ⟨rfl,k8,Y,by rw[hY.len];omega,hY,by simpa using t8⟩) (fun k H8 next=>rfl)
  obtain⟨x,hxi,lb2,nb2,T,v,kid,⟨ls2,le2,lq2,hl2⟩,⟨lb3,_,hnm⟩,hbx,htv,hkk,hkd,hal,htx,hwk⟩:=hv.get k kt hi
  have hL:=(hs.keep t8.ext).load (i:=k) (v:=ptV x) (by simp[hxi])
  have hlen:=k2J t.ks (k+1)
  rw[k3o t.ks k kt hi,List.length_append] at hlen
  have hYl:=hY.len
  have hfl:(flat kt).length=1+(flat kid).length:=by rw[k1S,k3O hkk];simp;omega
  refine⟨hL.1,x,hL.2,?_⟩
  refine cap1 t8 x tq317 fun b9 H9 x9 t9 h9=>?_
  have k9:=k8.trans x9.kpT
  have q19:=k9.get _ _ _ _ q1 (by decide) (by decide) (by decide)
  have bx9:=t9.ext.get _ _ hbx (by simp)
  refine⟨_,lcO q19 rfl,_,lcO h9 rfl,_,lcO bx9 rfl,_,lcO h9 rfl,_,lcO bx9 rfl,?_⟩
  refine(k2R nb2 kt.n.name H9 (t9.ext.get _ _ hnm (by simp))).mono ?_
  rintro _ _ ⟨rfl,rfl⟩
  refine⟨_,rfl,lcO bx9 rfl,lcO h9 rfl,lcO q19 rfl,?_⟩
  refine(kjj.enter tk lb2 ⟨19,kt.n.name,eB,eB,0,0⟩ b1 b9 H9 _ (k2c fq183 t9 (by simp only[List.length_append,List.length_cons,List.length_nil];omega) lb2 hl2 ⟨19,kt.n.name,eB,eB,0,0⟩ b1 b9 (P:=fun W=>Sames W (flat kid)) fun H10 k10 t10=>?_)).mono ?_
  ·have p1:=k10.get _ _ _ _ q19 (by decide) (by decide) (by decide)
   have p9:=k10.get _ _ _ _ h9 (by decide) (by decide) (by decide)
   have bx10:=t10.ext.get _ _ hbx (by simp)
   refine k64.enter b1 b9 H10 _ ?_
   unfold k64.W
   refine⟨_,lcO p1 rfl,_,lcO p9 rfl,_,lcO bx10 rfl,?_⟩
   refine(htv H10 tk _ t10 (by simp only[List.length_append,List.length_cons,List.length_nil];omega)).mono ?_
   intro v' H11 hT
   obtain rfl:=hT.unit
   exact⟨(),rfl,rkI (hT.within (by omega))⟩
  ·rintro _ H11 ⟨rfl,k11,W,hW,t11⟩
   have p9:=k11.get _ _ _ _ h9 (by decide) (by decide) (by decide)
   refine⟨(),rfl,lcO p9 rfl,?_⟩
   rw[k0h (k:=k) (by have:=(List.getElem?_eq_some_iff.1 hi).1;omega)]
   exact hnext H11 _ (k9.trans k11) (k2C hwk (by rw[k3O hkk];exact hW) ⟨19,kt.n.name,eB,eB,0,0⟩ hkd.symm rfl hal.symm htx.symm (by simp)) t11
 ·rintro _ H8 ⟨rfl,k8,W,hW,t8⟩
  exact⟨(),rfl,rkI ⟨rfl,x5.kpT.trans k8,_,k2C hw hW _ hk.symm hn.symm ha.symm hx.symm (by decide),t8⟩⟩
end
def k0O (f:FuncId) (x:Sl) (X:List Nd) (G:Heap):Prop:= ∀(H:Heap) (tk:Nat) (D:List Nd),TkAt G H tk D→D.length+X.length≤5000→
 Fn PP f #[.pointer (some ⟨tk,0,none⟩),.slice x.1 x.2.1 x.2.2] H (Took G tk H D X)
theorem kek {G:Heap} {x:Sl} {bs:List Nat} {ts:List Tr} (hs:SlAt x (bs.map ptV) G) (hv:All2 (fun b k=>k4y b k G) bs ts):k0O fq64 x (k0a ts) G:=by
 intro H tk D h hD
 obtain⟨a,n,c⟩:=x
 have hnl:n=ts.length:=by have:=hs.1;simp at this;rw[this,hv.len]
 have hks:ts.length≤(k0a ts).length:=k2v ts
 refine k4D.enter tk a n c H _ ?_
 unfold k4D.W
 refine nbI fun H1 e1 hb1 x1 s1=>?_
 refine k2Q ts n hnl (by omega) (KpT.refl H1) (h.grow x1) (fun k kt H8 Y next hi k8 hY t8 hnext=>?_) (fun H8 Y k8 hY t8=>rkI ⟨rfl,x1.kpT.trans k8,Y,hY,t8⟩) (fun k H8 next=>rfl)
 obtain⟨xb,hxi,lb2,nb2,T,v,kid,⟨ls2,le2,lq2,hl2⟩,⟨lb3,_,hnm⟩,hbx,htv,hkk,hkd,hal,htx,hwk⟩:=hv.get k kt hi
 have hL:=(hs.keep t8.ext).load (i:=k) (v:=ptV xb) (by simp[hxi])
 have hlen:=k2J ts (k+1)
 rw[k3o ts k kt hi,List.length_append] at hlen
 have hYl:=hY.len
 have hfl:(flat kt).length=1+(flat kid).length:=by rw[k1S,k3O hkk];simp;omega
 refine⟨hL.1,xb,hL.2,?_⟩
 refine cap1 t8 xb tq96 fun b9 H9 x9 t9 h9=>?_
 have k9:=k8.trans x9.kpT
 have q19:=k9.get _ _ _ _ hb1 (by decide) (by decide) (by decide)
 have bx9:=t9.ext.get _ _ hbx (by simp)
 refine⟨_,lcO q19 rfl,_,lcO h9 rfl,_,lcO bx9 rfl,_,lcO h9 rfl,_,lcO bx9 rfl,?_⟩
 refine(k2R nb2 kt.n.name H9 (t9.ext.get _ _ hnm (by simp))).mono ?_
 rintro _ _ ⟨rfl,rfl⟩
 refine⟨_,rfl,lcO bx9 rfl,lcO h9 rfl,lcO q19 rfl,?_⟩
 refine(kdF.enter tk lb2 ⟨9,kt.n.name,eB,eB,0,0⟩ H.size b9 H9 _ (k2c fq120 t9 (by simp only[List.length_append];omega) lb2 hl2 ⟨9,kt.n.name,eB,eB,0,0⟩ H.size b9 (P:=fun W=>Sames W (flat kid)) fun H10 k10 t10=>?_)).mono ?_
 ·have p1:=k10.get _ _ _ _ q19 (by decide) (by decide) (by decide)
  have p9:=k10.get _ _ _ _ h9 (by decide) (by decide) (by decide)
  have bx10:=t10.ext.get _ _ hbx (by simp)
  refine k4g.enter H.size b9 H10 _ ?_
  unfold k4g.W
  refine⟨_,lcO p1 rfl,_,lcO p9 rfl,_,lcO bx10 rfl,?_⟩
  refine(htv H10 tk _ t10 (by simp only[List.length_append,List.length_cons,List.length_nil];omega)).mono ?_
  intro v' H11 hT
  obtain rfl:=hT.unit
  exact⟨(),rfl,rkI (hT.within (by omega))⟩
 ·rintro _ H11 ⟨rfl,k11,W,hW,t11⟩
  have p9:=k11.get _ _ _ _ h9 (by decide) (by decide) (by decide)
  refine⟨(),rfl,lcO p9 rfl,?_⟩
  rw[k0h (k:=k) (by have:=(List.getElem?_eq_some_iff.1 hi).1;omega)]
  exact hnext H11 _ (k9.trans k11) (k2C hwk (by rw[k3O hkk];exact hW) ⟨9,kt.n.name,eB,eB,0,0⟩ hkd.symm rfl hal.symm htx.symm (by simp)) t11
def k3V (b:Nat) (t:Tr) (G:Heap):Prop:= ∃(lb nb:Nat) (x:Sl),k0B lb G∧k0W nb t.n.name G∧G[b]?=some (.cells #[.string kcl,.pointer (some ⟨lb,0,none⟩),.pointer (some ⟨nb,0,none⟩),.slice x.1 x.2.1 x.2.2] tq182)∧
 k0O fq64 x (k0a t.ks) G∧t.n.kind=10∧t.n.alias=eB∧t.n.text=eB∧Ws t
theorem kel {G:Heap} {x:Sl} {bs:List Nat} {ts:List Tr} (hs:SlAt x (bs.map ptV) G) (hv:All2 (fun b k=>k3V b k G) bs ts):k0O fq65 x (k0a ts) G:=by
 intro H tk D h hD
 obtain⟨a,n,c⟩:=x
 have hnl:n=ts.length:=by have:=hs.1;simp at this;rw[this,hv.len]
 have hks:ts.length≤(k0a ts).length:=k2v ts
 refine k3F.enter tk a n c H _ ?_
 unfold k3F.W
 refine nbI fun H1 e1 hb1 x1 s1=>?_
 refine k2Q ts n hnl (by omega) (KpT.refl H1) (h.grow x1) (fun k kt H8 Y next hi k8 hY t8 hnext=>?_) (fun H8 Y k8 hY t8=>rkI ⟨rfl,x1.kpT.trans k8,Y,hY,t8⟩) (fun k H8 next=>rfl)
 obtain⟨xb,hxi,lb2,nb2,xs,⟨ls2,le2,lq2,hl2⟩,⟨lb3,_,hnm⟩,hbx,htv,hkd,hal,htx,hwk⟩:=hv.get k kt hi
 have hL:=(hs.keep t8.ext).load (i:=k) (v:=ptV xb) (by simp[hxi])
 have hlen:=k2J ts (k+1)
 rw[k3o ts k kt hi,List.length_append] at hlen
 have hYl:=hY.len
 have hfl:(flat kt).length=1+(k0a kt.ks).length:=by rw[k1S];simp;omega
 refine⟨hL.1,xb,hL.2,?_⟩
 refine cap1 t8 xb tq99 fun b9 H9 x9 t9 h9=>?_
 have k9:=k8.trans x9.kpT
 have q19:=k9.get _ _ _ _ hb1 (by decide) (by decide) (by decide)
 have bx9:=t9.ext.get _ _ hbx (by simp)
 refine⟨_,lcO q19 rfl,_,lcO h9 rfl,_,lcO bx9 rfl,_,lcO h9 rfl,_,lcO bx9 rfl,?_⟩
 refine(k2R nb2 kt.n.name H9 (t9.ext.get _ _ hnm (by simp))).mono ?_
 rintro _ _ ⟨rfl,rfl⟩
 refine⟨_,rfl,lcO bx9 rfl,lcO h9 rfl,lcO q19 rfl,?_⟩
 refine(kdG.enter tk lb2 ⟨10,kt.n.name,eB,eB,0,0⟩ H.size b9 H9 _ (k2c fq121 t9 (by simp only[List.length_append];omega) lb2 hl2 ⟨10,kt.n.name,eB,eB,0,0⟩ H.size b9 (P:=fun W=>Sames W (k0a kt.ks)) fun H10 k10 t10=>?_)).mono ?_
 ·have p1:=k10.get _ _ _ _ q19 (by decide) (by decide) (by decide)
  have p9:=k10.get _ _ _ _ h9 (by decide) (by decide) (by decide)
  have bx10:=t10.ext.get _ _ hbx (by simp)
  refine k4h.enter H.size b9 H10 _ ?_
  unfold k4h.W
  refine⟨_,lcO p1 rfl,_,lcO p9 rfl,xs,lcO bx10 rfl,?_⟩
  refine(htv H10 tk _ t10 (by simp only[List.length_append,List.length_cons,List.length_nil];omega)).mono ?_
  intro v' H11 hT
  obtain rfl:=hT.unit
  exact⟨(),rfl,rkI (hT.within (by omega))⟩
 ·rintro _ H11 ⟨rfl,k11,W,hW,t11⟩
  have p9:=k11.get _ _ _ _ h9 (by decide) (by decide) (by decide)
  refine⟨(),rfl,lcO p9 rfl,?_⟩
  rw[k0h (k:=k) (by have:=(List.getElem?_eq_some_iff.1 hi).1;omega)]
  exact hnext H11 _ (k9.trans k11) (k2C hwk hW ⟨10,kt.n.name,eB,eB,0,0⟩ hkd.symm rfl hal.symm htx.symm (by simp)) t11
theorem kcJ (s:BA): ∀(n i:Nat),s.size -i=n→ ∀p∈leGo s i,i≤p.1∧p.1<p.2∧p.2≤s.size:=by
 intro n
 induction n using Nat.strongRecOn with
 |_ n ih=>
  intro i hn p hp
  rw[leGo] at hp
  split at hp
  ·split at hp
   ·rename_i h1 h2
    rcases List.mem_cons.1 hp with rfl|hp
    ·exact⟨Nat.le_refl _,by simp,by simp;omega⟩
    ·have:=ih (s.size -(i+2)) (by omega) (i+2) rfl p hp
     omega
   ·split at hp
    ·rcases List.mem_cons.1 hp with rfl|hp
     ·exact⟨Nat.le_refl _,by simp,by simp;omega⟩
     ·have:=ih (s.size -(i+1)) (by omega) (i+1) rfl p hp
      omega
    ·have:=ih (s.size -(i+1)) (by omega) (i+1) rfl p hp
     omega
  ·simp at hp
theorem kcK {H:Heap} {x:Sl} {l:List (Nat×Nat)} {H0:Heap} (h:LeI H0 H x l) {k:Nat} {p:Nat×Nat} (hp:l[k]?=some p):
 IxOk x.1 ((k:Nat):Int) x.2.1∧ ∃b:Nat,k07 H false 1 ⟨k0c x.1,k0b x.1+((k:Nat):Int).toNat*1,none⟩=some (.slice (some ⟨b,0,none⟩) 2 2)∧H[b]?=some (.cells #[.int .i64 p.1,.int .i64 p.2] tq3):=by
 obtain⟨bs,ho,hall⟩:=h.own
 obtain⟨b,hb,hbl⟩:=hall.get k p hp
 have hL:=(k0G.of_own ho).load (i:=k) (v:=leV b) (by simp[hb])
 exact⟨hL.1,b,hL.2,hbl⟩
abbrev k56:BA:=bs [83,121,110,116,97,120,32,69,114,114,111,114]
end Go.Vx
