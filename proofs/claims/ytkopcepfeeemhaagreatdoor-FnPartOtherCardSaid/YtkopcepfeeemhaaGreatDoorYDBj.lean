/- A part of the proof of what the last text of this claim says: QT7, QV11, QV12, QE4, QE5, QE6, QE7. Conditions: none. -/
import Derived.Test.YtkopcepfeeemhaaGreatDoorYDBb
import Derived.Test.YtkopcepfeeemhaaGreatDoorYDBc
import Derived.Test.YtkopcepfeeemhaaGreatDoorYDBh
import Derived.Test.YtkopcepfeeemhaaGreatDoorYDBi
set_option maxRecDepth 10000
namespace Go.Vx
open Go Go.Proofs
def k41 (x:OA) (X:List Nd) (G:Heap):Prop:= ∀(H:Heap) (tk:Nat) (D:List Nd),TkAt G H tk D→D.length+X.length≤5000→
 Fn PP fq125 #[.pointer (some ⟨tk,0,none⟩),.pointer x] H (Took G tk H D X)
def k3z (T b:Nat) (X:List Nd) (G:Heap):Prop:= ∀(H:Heap) (tk:Nat) (D:List Nd),TkAt G H tk D→D.length+X.length≤5000→
 Fn PP fq73 #[.pointer (some ⟨tk,0,none⟩),.iface T (.pointer (some ⟨b,0,none⟩))] H (Took G tk H D X)
theorem Took.grow {G A H H':Heap} {tk:Nat} {D X:List Nd} {v:Value} (x:Ext [] A H) (h:Took G tk H D X v H'):Took G tk A D X v H':=h.pre x.kpT
theorem kkx (G:Heap):k41 none [] G:=by
 intro H tk D h _
 refine k6T.enter tk H _ ?_
 unfold k6T.W
 refine nbI fun H1 e1 hb1 x1 s1=>nbI fun H2 e2 hb2 x2 s2=>?_
 refine⟨(),lcO hb2 rfl,rkI ?_⟩
 exact Took.grow (x1.trans x2) (Took.zero (h.grow (x1.trans x2)))
def k5b (x:OA) (s:BA) (G:Heap):Prop:=x=none∧s=eB∨ ∃b,x=some ⟨b,0,none⟩∧k0W b s G
def k8N (x:OA) (s:BA) (G:Heap):Prop:=x=none∧s=eB∨ ∃b,x=some ⟨b,0,none⟩∧k2U b s G
theorem kbk {x:OA} {s:BA} {G H:Heap} (h:k5b x s G) (he:Ext [] G H):Fn PP fq69 #[.pointer x] H fun v H'=>v= .string s∧H=H':=by
 rcases h with⟨rfl,rfl⟩|⟨b,rfl,_,_,hb⟩
 ·exact kl7 H
 ·exact k2R b s H (he.get _ _ hb (by simp))
theorem kbK {x:OA} {s:BA} {G H:Heap} (h:k8N x s G) (he:Ext [] G H):Fn PP fq68 #[.pointer x] H fun v H'=>v= .string s∧H=H':=by
 rcases h with⟨rfl,rfl⟩|⟨b,rfl,_,nb,_,⟨_,_,hn⟩,hb⟩
 ·exact kik H
 ·exact k4U b nb s H (he.get _ _ hb (by simp)) (he.get _ _ hn (by simp))
section
variable {G:Heap} {b lb nb:Nat} {t:Tr}
theorem kky {x:Sl} {bs:List (Nat×Nat)} {k0:Value} (hl:k0B lb G) (hb:G[b]?=some (.cells #[k0,.pointer (some ⟨lb,0,none⟩),.slice x.1 x.2.1 x.2.2] tq322)) (hs:SlAt x (bs.map ifV) G)
 (hv:All2 (fun x k=>k3z x.1 x.2 (flat k) G) bs t.ks) (hk:t.n.kind=5) (hn:t.n.name=eB) (hx:t.n.text=eB) (ha:t.n.alias=eB) (hw:Ws t):k41 (some ⟨b,0,none⟩) (flat t) G:=by
 intro H tk D h hD
 obtain⟨a,n,c⟩:=x
 rw[k1S,List.length_cons] at hD
 have hnl:n=t.ks.length:=by have:=hs.1;simp at this;rw[this,hv.len]
 have hks:t.ks.length≤(k0a t.ks).length:=k2v t.ks
 obtain⟨ls,le,lq,hl⟩:=hl
 refine k6U.enter tk b H _ ?_
 unfold k6U.W
 refine nbI fun H1 e1 hb1 x1 s1=>nbI fun H2 e2 hb2 x2 s2=>?_
 have x12:=x1.trans x2
 have h1:=x2.get _ _ hb1 (by simp)
 have t2:=h.grow x12
 have b2:=t2.ext.get _ _ hb (by simp)
 refine⟨_,lcO hb2 rfl,_,lcO h1 rfl,_,lcO hb2 rfl,_,lcO b2 rfl,?_⟩
 refine(kj6.enter tk lb ⟨5,eB,eB,eB,0,0⟩ H1.size H.size H2 _ (k2c fq184 t2 (by omega) lb hl ⟨5,eB,eB,eB,0,0⟩ H1.size H.size (P:=fun W=>Sames W (k0a t.ks)) fun H7 k7 t7=>?_)).mono ?_
 ·have q1:=k7.get _ _ _ _ h1 (by decide) (by decide) (by decide)
  have q3:=k7.get _ _ _ _ hb2 (by decide) (by decide) (by decide)
  have b7:=t7.ext.get _ _ hb (by simp)
  refine k5R.enter H1.size H.size H7 _ ?_
  unfold k5R.W
  refine⟨_,lcO q3 rfl,(a,n,c),lcO b7 rfl,?_⟩
  refine k2Q t.ks n hnl (by omega) (KpT.refl H7) t7 (fun k kt H8 Y next hi k8 hY t8 hnext=>?_) (fun H8 Y k8 hY t8=>rkI ⟨rfl,k8,Y,by rw[hY.len];omega,hY,by simpa using t8⟩) (fun k H8 next=>rfl)
  obtain⟨x,hxi,hxv⟩:=hv.get k kt hi
  have hL:=(hs.keep t8.ext).load (i:=k) (v:=ifV x) (by simp[hxi])
  have q18:=k8.get _ _ _ _ q1 (by decide) (by decide) (by decide)
  have hlen:=k2J t.ks (k+1)
  rw[k3o t.ks k kt hi,List.length_append] at hlen
  refine⟨hL.1,_,hL.2,_,lcO q18 rfl,?_⟩
  refine(hxv H8 tk _ t8 ?_).mono ?_
  ·have:=hY.len
   simp only[List.length_append,List.length_cons,List.length_nil];omega
  intro v' H9 hT
  obtain rfl:=hT.unit
  obtain⟨_,k9,Z,hZ,t9⟩:=hT
  rw[k0h (k:=k) (by have:=(List.getElem?_eq_some_iff.1 hi).1;omega)]
  exact⟨(),rfl,hnext H9 Z (k8.trans k9) hZ t9⟩
 ·rintro _ H8 ⟨rfl,k8,W,hW,t8⟩
  exact⟨(),rfl,rkI ⟨rfl,x12.kpT.trans k8,_,k2C hw hW ⟨5,eB,eB,eB,0,0⟩ hk.symm hn.symm ha.symm hx.symm (by decide),t8⟩⟩
theorem kkz (hI:ItemAt fq126 tq128 7 2 b t G):k3z tq128 b (flat t) G:=fun H tk D h hD=>
 k6R.enter tk b H _ (k3q kdH.enter (by unfold k0V;decide) (by decide) hI h hD)
theorem kbF {xr xs:Sl} {xt:OA} {ar ds ss:List Tr} {k0 k1 k2 k3:Value}
 (hb:G[b]?=some (.cells #[k0,k1,k2,k3,.slice xr.1 xr.2.1 xr.2.2,.slice xs.1 xs.2.1 xs.2.2,.pointer xt] tq194))
 (hA:k0O fq64 xr (k0a ar) G) (hs:k0O fq65 xs (k0a ds) G) (hS:k41 xt (k0a ss) G) (hks:t.ks=ar++(ds++ss)):k22 fq124 tq126 b (k0a t.ks) G:=by
 intro H tk c1 c2 D ht hD h1 h2
 rw[hks,k0L,k0L] at hD⊢
 simp only[List.length_append] at hD
 have bx:=ht.ext.get _ _ hb (by simp)
 refine k5O.enter c1 c2 H _ ?_
 unfold k5O.W
 refine⟨_,lcO h1 rfl,_,lcO h2 rfl,xr,lcO bx rfl,?_⟩
 refine(hA H tk D ht (by omega)).mono ?_
 rintro _ H5 ⟨rfl,k5,Y,hY,t5⟩
 have q1:=k5.get _ _ _ _ h1 (by decide) (by decide) (by decide)
 have q2:=k5.get _ _ _ _ h2 (by decide) (by decide) (by decide)
 have bx5:=t5.ext.get _ _ hb (by simp)
 have hYl:=hY.len
 refine⟨(),rfl,_,lcO q1 rfl,_,lcO q2 rfl,xs,lcO bx5 rfl,?_⟩
 refine(hs H5 tk _ t5 (by rw[List.length_append];omega)).mono ?_
 rintro _ H6 ⟨rfl,k6,Z,hZ,t6⟩
 have p1:=k6.get _ _ _ _ q1 (by decide) (by decide) (by decide)
 have p2:=k6.get _ _ _ _ q2 (by decide) (by decide) (by decide)
 have bx6:=t6.ext.get _ _ hb (by simp)
 have hZl:=hZ.len
 refine⟨(),rfl,_,lcO p1 rfl,_,lcO p2 rfl,_,lcO bx6 rfl,?_⟩
 refine(hS H6 tk _ t6 (by simp only[List.length_append];omega)).mono ?_
 intro v' H8 hT
 obtain rfl:=hT.unit
 exact⟨(),rfl,rkI (Took.seq k5 hY (Took.seq k6 hZ hT))⟩
theorem k8h {fcl:FuncId} {eT:TypeId} {H A:Heap} {tk c1 c2:Nat} {D:List Nd} (hput:k4B fcl) (hE:k0V eT) (hclose:k22 fcl eT b (k0a t.ks) G) (h:TkAt G H tk D) (hA:KpT A H) (hD:D.length+(flat t).length≤5000) (hl:k0B lb G) (x:Nd)
 (h1:H[c1]?=some (.cells #[.pointer (some ⟨tk,0,none⟩)] tq60)) (h2:H[c2]?=some (.cells #[.pointer (some ⟨b,0,none⟩)] eT)) (e1:x.kind=t.n.kind) (e2:x.name=t.n.name) (e3:x.alias=t.n.alias) (e4:x.text=t.n.text) (e5:x.kind≠15) (hw:Ws t)
 {K:Unit→Heap→Prop} (hk: ∀(H':Heap),H'[c2]?=some (.cells #[.pointer (some ⟨b,0,none⟩)] eT)→Took G tk A D (flat t) (.tuple #[]) H'→K () H'):
 k00 PP fq67 #[.pointer (some ⟨tk,0,none⟩),.pointer (some ⟨lb,0,none⟩),.agg x.val,.func (.func fcl) #[] #[.pointer (some ⟨c1,0,none⟩),.pointer (some ⟨c2,0,none⟩)]] H ⟨Unit,fun _=>(.tuple #[])⟩ K:=by
 obtain⟨ls,le,lq,hl⟩:=hl
 have hfl:(flat t).length=1+(k0a t.ks).length:=by rw[k1S];simp;omega
 refine(hput tk lb x c1 c2 H _ (k2c fcl h (by omega) lb hl x c1 c2 (P:=fun W=>Sames W (k0a t.ks)) fun H10 k10 t10=>?_)).mono ?_
 ·refine(hclose H10 tk c1 c2 _ t10 (by simp only[List.length_append,List.length_cons,List.length_nil];omega) (k10.get _ _ _ _ h1 (by decide) (by decide) (by decide)) (k10.get _ _ _ _ h2 hE.1 hE.2.1 hE.2.2)).mono ?_
  intro v' H11 hT
  exact hT.within (by omega)
 ·rintro _ H11 ⟨rfl,k11,W,hW,t11⟩
  exact⟨(),rfl,hk H11 (k11.get _ _ _ _ h2 hE.1 hE.2.1 hE.2.2) ⟨rfl,hA.trans k11,_,k2C hw hW x e1 e2 e3 e4 e5,t11⟩⟩
theorem keg {xa:OA} {k0 k4 k5 k6:Value} (hl:k0B lb G) (hn:k0W nb t.n.name G) (hal:k5b xa t.n.alias G)
 (hb:G[b]?=some (.cells #[k0,.pointer (some ⟨lb,0,none⟩),.pointer xa,.pointer (some ⟨nb,0,none⟩),k4,k5,k6] tq194)) (hclose:k22 fq124 tq126 b (k0a t.ks) G)
 (hk:t.n.kind=6) (hx:t.n.text=eB) (hw:Ws t):k3z tq126 b (flat t) G:=by
 intro H tk D h hD
 obtain⟨lb3,_,hnm⟩:=hn
 refine k6Q.enter tk b H _ ?_
 unfold k6Q.W
 refine caps h b tq126 fun b1 b3 H5 x5 t5 h1 h3=>?_
 have bx:=t5.ext.get _ _ hb (by simp)
 refine⟨_,lcO h1 rfl,_,lcO h3 rfl,_,lcO bx rfl,_,lcO h3 rfl,_,lcO bx rfl,_,lcO h3 rfl,_,lcO bx rfl,?_⟩
 refine(k2R nb t.n.name H5 (t5.ext.get _ _ hnm (by simp))).mono ?_
 rintro _ _ ⟨rfl,rfl⟩
 refine⟨_,rfl,lcO bx rfl,lcO h3 rfl,lcO bx rfl,lcO h3 rfl,lcO h1 rfl,?_⟩
 refine(kbk hal t5.ext).mono ?_
 rintro _ _ ⟨rfl,rfl⟩
 refine⟨_,rfl,lcO h3 rfl,lcO bx rfl,lcO h3 rfl,lcO h1 rfl,?_⟩
 refine k8h kj4.enter (by unfold k0V;decide) hclose t5 x5.kpT hD hl ⟨6,t.n.name,t.n.alias,eB,0,0⟩ h1 h3 hk.symm rfl rfl hx.symm (by simp) hw fun H' h3' hT=>?_
 exact⟨lcO h3' rfl,lcO h3' rfl,rkI hT⟩
theorem kbG {xs:Sl} {xt:OA} {ds:List Tr} {s:Tr} {k0 k1 k2:Value}
 (hb:G[b]?=some (.cells #[k0,k1,k2,.slice xs.1 xs.2.1 xs.2.2,.pointer xt] tq199))
 (hs:k0O fq65 xs (k0a ds) G) (hS:k41 xt (flat s) G) (hks:t.ks=ds++[s]):k22 fq127 tq129 b (k0a t.ks) G:=by
 intro H tk c1 c2 D ht hD h1 h2
 have e:k0a t.ks=k0a ds++flat s:=by rw[hks,k0L];simp[k0a]
 rw[e] at hD⊢
 simp only[List.length_append] at hD
 have bx:=ht.ext.get _ _ hb (by simp)
 refine k5Q.enter c1 c2 H _ ?_
 unfold k5Q.W
 refine⟨_,lcO h1 rfl,_,lcO h2 rfl,xs,lcO bx rfl,?_⟩
 refine(hs H tk D ht (by omega)).mono ?_
 rintro _ H6 ⟨rfl,k6,Z,hZ,t6⟩
 have p1:=k6.get _ _ _ _ h1 (by decide) (by decide) (by decide)
 have p2:=k6.get _ _ _ _ h2 (by decide) (by decide) (by decide)
 have bx6:=t6.ext.get _ _ hb (by simp)
 have hZl:=hZ.len
 refine⟨(),rfl,_,lcO p1 rfl,_,lcO p2 rfl,_,lcO bx6 rfl,?_⟩
 refine(hS H6 tk _ t6 (by simp only[List.length_append];omega)).mono ?_
 intro v' H8 hT
 obtain rfl:=hT.unit
 exact⟨(),rfl,rkI (Took.seq k6 hZ hT)⟩
theorem keh {xc:OA} {k0 k3 k4:Value} (hl:k0B lb G) (hc:k8N xc t.n.text G)
 (hb:G[b]?=some (.cells #[k0,.pointer (some ⟨lb,0,none⟩),.pointer xc,k3,k4] tq199)) (hclose:k22 fq127 tq129 b (k0a t.ks) G)
 (hk:t.n.kind=8) (hn:t.n.name=eB) (ha:t.n.alias=eB) (hw:Ws t):k3z tq129 b (flat t) G:=by
 intro H tk D h hD
 refine k6S.enter tk b H _ ?_
 unfold k6S.W
 refine caps h b tq129 fun b1 b3 H5 x5 t5 h1 h3=>?_
 have bx:=t5.ext.get _ _ hb (by simp)
 refine⟨_,lcO h1 rfl,_,lcO h3 rfl,_,lcO bx rfl,_,lcO h3 rfl,_,lcO bx rfl,?_⟩
 refine(kbK hc t5.ext).mono ?_
 rintro _ _ ⟨rfl,rfl⟩
 refine⟨_,rfl,lcO bx rfl,lcO h3 rfl,lcO h1 rfl,?_⟩
 refine k8h kj5.enter (by unfold k0V;decide) hclose t5 x5.kpT hD hl ⟨8,eB,eB,t.n.text,0,0⟩ h1 h3 hk.symm hn.symm ha.symm rfl (by simp) hw fun H' h3' hT=>?_
 exact⟨lcO h3' rfl,rkI hT⟩
theorem kbH {xv xs:Sl} {xt:OA} {vs ds:List Tr} {s:Tr} {k0 k1 k2 k3:Value}
 (hb:G[b]?=some (.cells #[k0,k1,k2,k3,.slice xv.1 xv.2.1 xv.2.2,.slice xs.1 xs.2.1 xs.2.2,.pointer xt] tq202))
 (hA:k0O fq63 xv (k0a vs) G) (hs:k0O fq65 xs (k0a ds) G) (hS:k41 xt (flat s) G) (hks:t.ks=vs++(ds++[s])):k22 fq128 tq200 b (k0a t.ks) G:=by
 intro H tk c1 c2 D ht hD h1 h2
 have e:k0a t.ks=k0a vs++(k0a ds++flat s):=by rw[hks,k0L,k0L];simp[k0a]
 rw[e] at hD⊢
 simp only[List.length_append] at hD
 have bx:=ht.ext.get _ _ hb (by simp)
 refine k5H.enter c1 c2 H _ ?_
 unfold k5H.W
 refine⟨_,lcO h1 rfl,_,lcO h2 rfl,xv,lcO bx rfl,?_⟩
 refine(hA H tk D ht (by omega)).mono ?_
 rintro _ H5 ⟨rfl,k5,Y,hY,t5⟩
 have q1:=k5.get _ _ _ _ h1 (by decide) (by decide) (by decide)
 have q2:=k5.get _ _ _ _ h2 (by decide) (by decide) (by decide)
 have bx5:=t5.ext.get _ _ hb (by simp)
 have hYl:=hY.len
 refine⟨(),rfl,_,lcO q1 rfl,_,lcO q2 rfl,xs,lcO bx5 rfl,?_⟩
 refine(hs H5 tk _ t5 (by rw[List.length_append];omega)).mono ?_
 rintro _ H6 ⟨rfl,k6,Z,hZ,t6⟩
 have p1:=k6.get _ _ _ _ q1 (by decide) (by decide) (by decide)
 have p2:=k6.get _ _ _ _ q2 (by decide) (by decide) (by decide)
 have bx6:=t6.ext.get _ _ hb (by simp)
 have hZl:=hZ.len
 refine⟨(),rfl,_,lcO p1 rfl,_,lcO p2 rfl,_,lcO bx6 rfl,?_⟩
 refine(hS H6 tk _ t6 (by simp only[List.length_append];omega)).mono ?_
 intro v' H8 hT
 obtain rfl:=hT.unit
 exact⟨(),rfl,rkI (Took.seq k5 hY (Took.seq k6 hZ hT))⟩
theorem keo (kind:Int) {xa:OA} {k0 k4 k5 k6:Value} (hf:Fine t) (hl:k0B lb G) (hn:k5b xa t.n.name G)
 (hb:G[b]?=some (.cells #[k0,.pointer (some ⟨lb,0,none⟩),.string t.n.text,.pointer xa,k4,k5,k6] tq202)) (hclose:k22 fq128 tq200 b (k0a t.ks) G)
 (hk:t.n.kind=2):k0Y kind tq200 b (flat t) G:=by
 intro H tk D ht hD
 have ha:=k0R hf.1.self.1 (by omega)
 refine k7d.enter tk b kind H _ ?_
 unfold k7d.W
 refine nbI fun H2 e2 hb2 x2 s2=>?_
 refine⟨fun w=>by kernel_rfl,?_⟩
 have t2:=ht.grow x2
 refine⟨_,lcO hb2 rfl,k5y.enter tk b H2 _ ?_⟩
 unfold k5y.W
 refine caps t2 b tq200 fun b1 b3 H5 x5 t5 h1 h3=>?_
 have bx:=t5.ext.get _ _ hb (by simp)
 refine⟨_,lcO h1 rfl,_,lcO h3 rfl,_,lcO bx rfl,_,lcO h3 rfl,_,lcO bx rfl,_,lcO h3 rfl,_,lcO bx rfl,?_⟩
 refine(kbk hn t5.ext).mono ?_
 rintro _ _ ⟨rfl,rfl⟩
 refine⟨_,rfl,lcO bx rfl,lcO h3 rfl,lcO bx rfl,lcO h3 rfl,lcO h1 rfl,?_⟩
 refine k8h kj0.enter (by unfold k0V;decide) hclose t5 x5.kpT (k1y hf.2.2 hD) hl ⟨2,t.n.name,eB,t.n.text,0,0⟩ h1 h3 hk.symm rfl ha.symm rfl (by simp) hf.2.1 fun H' h3' hT=>?_
 exact⟨lcO h3' rfl,lcO h3' rfl,rkI ⟨(),rfl,rkI ⟨rfl,hT.2.2⟩⟩⟩
theorem kfU {xs:Sl} {xt:OA} {ds:List Tr} {s:Tr} {k0 k1 k2 k3 k4 k5:Value}
 (hb:G[b]?=some (.cells #[k0,k1,k2,k3,k4,k5,.slice xs.1 xs.2.1 xs.2.2,.pointer xt] tq205))
 (hs:k0O fq65 xs (k0a ds) G) (hS:k41 xt (flat s) G) (hks:t.ks=ds++[s]):k22 fq129 tq203 b (k0a t.ks) G:=by
 intro H tk c1 c2 D ht hD h1 h2
 have e:k0a t.ks=k0a ds++flat s:=by rw[hks,k0L];simp[k0a]
 rw[e] at hD⊢
 simp only[List.length_append] at hD
 have bx:=ht.ext.get _ _ hb (by simp)
 refine k5I.enter c1 c2 H _ ?_
 unfold k5I.W
 refine⟨_,lcO h1 rfl,_,lcO h2 rfl,xs,lcO bx rfl,?_⟩
 refine(hs H tk D ht (by omega)).mono ?_
 rintro _ H6 ⟨rfl,k6,Z,hZ,t6⟩
 have p1:=k6.get _ _ _ _ h1 (by decide) (by decide) (by decide)
 have p2:=k6.get _ _ _ _ h2 (by decide) (by decide) (by decide)
 have bx6:=t6.ext.get _ _ hb (by simp)
 have hZl:=hZ.len
 refine⟨(),rfl,_,lcO p1 rfl,_,lcO p2 rfl,_,lcO bx6 rfl,?_⟩
 refine(hS H6 tk _ t6 (by simp only[List.length_append];omega)).mono ?_
 intro v' H8 hT
 obtain rfl:=hT.unit
 exact⟨(),rfl,rkI (Took.seq k6 hZ hT)⟩
theorem kkU (kind:Int) {xc:OA} {k0 k2 k4 k6 k7:Value} (hf:Fine t) (hl:k0B lb G) (hn:k0W nb t.n.name G) (hc:k8N xc t.n.text G)
 (hb:G[b]?=some (.cells #[k0,.pointer (some ⟨lb,0,none⟩),k2,.pointer (some ⟨nb,0,none⟩),k4,.pointer xc,k6,k7] tq205)) (hclose:k22 fq129 tq203 b (k0a t.ks) G)
 (hk:t.n.kind=3):k0Y kind tq203 b (flat t) G:=by
 intro H tk D ht hD
 have ha:=k0R hf.1.self.1 (by omega)
 obtain⟨lb3,_,hnm⟩:=hn
 refine k78.enter tk b kind H _ ?_
 unfold k78.W
 refine nbI fun H2 e2 hb2 x2 s2=>?_
 refine⟨fun w=>by kernel_rfl,?_⟩
 have t2:=ht.grow x2
 refine⟨_,lcO hb2 rfl,k5u.enter tk b H2 _ ?_⟩
 unfold k5u.W
 refine caps t2 b tq203 fun b1 b3 H5 x5 t5 h1 h3=>?_
 have bx:=t5.ext.get _ _ hb (by simp)
 refine⟨_,lcO h1 rfl,_,lcO h3 rfl,_,lcO bx rfl,_,lcO h3 rfl,_,lcO bx rfl,_,lcO h3 rfl,_,lcO bx rfl,?_⟩
 refine(k2R nb t.n.name H5 (t5.ext.get _ _ hnm (by simp))).mono ?_
 rintro _ _ ⟨rfl,rfl⟩
 refine⟨_,rfl,lcO bx rfl,lcO h3 rfl,lcO bx rfl,lcO h3 rfl,lcO h1 rfl,?_⟩
 refine(kbK hc t5.ext).mono ?_
 rintro _ _ ⟨rfl,rfl⟩
 refine⟨_,rfl,lcO h3 rfl,lcO bx rfl,lcO h3 rfl,lcO h1 rfl,?_⟩
 refine k8h kj1.enter (by unfold k0V;decide) hclose t5 x5.kpT (k1y hf.2.2 hD) hl ⟨3,t.n.name,eB,t.n.text,0,0⟩ h1 h3 hk.symm rfl ha.symm rfl (by simp) hf.2.1 fun H' h3' hT=>?_
 exact⟨lcO h3' rfl,lcO h3' rfl,rkI ⟨(),rfl,rkI ⟨rfl,hT.2.2⟩⟩⟩
end
theorem k2f {a K:Int} {l:List Tr} (h:InK [a] l) (hne:a≠K):selK [K] (kvL l)=[]:=k0H fun x hx=>by rw[k0f h x hx];simpa using hne
def SelT (T:Nat):Prop:=T=tq126∨T=tq129∨T=tq128
theorem kk1 (x:Nat×Nat) (h:SelT x.1): ∀w,(Instr.typeAssert (ifV x) tq20 tq191 false).run PP w= .ok (asV (ifV x) false) w:=by
 obtain⟨T,b⟩:=x
 rcases h with rfl|rfl|rfl
 all_goals
  intro w
  kernel_rfl
theorem kiY:k15 tq191:=by unfold k15;decide
def SelQ (x:Nat×Nat) (t:Tr) (G:Heap):Prop:=k3z x.1 x.2 (flat t) G∧SelT x.1
def NoF (u:KV):Prop:=u.1≠4∧u.1≠9∧u.1≠7∧u.1≠12
def PSel (E:PEnv) (t:Tr):Prop:= ∀(u:KV) (r:List KV),NoF u→POk E fq207 #[.pointer (some ⟨E.p,0,none⟩)] (kvs t++u::r) (u::r) N2v fun x G=>SelQ x t G
def PSet (E:PEnv) (t:Tr):Prop:= ∀(u:KV) (r:List KV),POk E fq165 #[.pointer (some ⟨E.p,0,none⟩)] (kvs t++u::r) (u::r) P1v fun b G=>k41 (some ⟨b,0,none⟩) (flat t) G
theorem k57 {t:Tr} (hf:Fine t) (hk:t.n.kind=5):InK [6,7,8] t.ks∧t.ks≠ []:=by
 cases hf.1.self.2 with
 |selections _ h1 h2=>exact⟨h1,List.length_pos_iff.1 h2⟩
 |_=>omega
theorem k9V {t:Tr} (hk:t.n.kind=5) (hK:InK [6,7,8] t.ks):kvs t=brK (some kBL) (some kBR) t.ks:=by
 rw[k0z];simp only[k0r,hk];simp[k0T (k0Q hK (K:=[6,7,8]) (by simp))]
theorem k3c {t:Tr} (hf:Fine t) (hk:t.n.kind=5) (u:KV) (r:List KV):kvs t++u::r=kBL::(t.ks.flatMap kvs++kBR::u::r):=by
 obtain⟨h1,h2⟩:=k57 hf hk
 rw[k9V hk h1,k2W h2]
theorem k9i {t:Tr} (hf:Fine t) (hk:t.n.kind=6): ∃ar ds ss:List Tr,t.ks=ar++(ds++ss)∧InK [9] ar∧InK [10] ds∧InK [5] ss∧ss.length≤1:=by
 cases hf.1.self.2 with
 |field ar ds ss _ h1 h2 h3 h4 h5=>exact⟨ar,ds,ss,h1,h2,h3,h4,h5⟩
 |_=>omega
theorem k9J {t:Tr} {ar ds ss:List Tr} (hk:t.n.kind=6) (hks:t.ks=ar++(ds++ss)) (har:InK [9] ar) (hds:InK [10] ds) (hss:InK [5] ss):
 kvs t=(if t.n.alias=eB then[] else[nmK t.n.alias,kCol])++(nmK t.n.name::(brK (some kPL) (some kPR) ar++(kvF ds++kvF ss))):=by
 have e1:k0g (some kPL) (some kPR) none [9] (kvL (ar++(ds++ss)))=brK (some kPL) (some kPR) ar:=
  k0T (l:=ar) (by rw[k0p,k0p,k2f hds (by decide),k2f hss (by decide),k0Q har (by simp),List.nil_append,List.append_nil])
 have e2:k0o (kvL (ar++(ds++ss)))=kvF ds:=by
  unfold k0o
  rw[k0T (l:=ds) (by rw[k0p,k0p,k2f har (by decide),k2f hss (by decide),k0Q hds (by simp),List.nil_append,List.append_nil]),k1x]
 have e3:k21 (kvL (ar++(ds++ss)))=kvF ss:=by
  unfold k21
  rw[k0T (l:=ss) (by rw[k0p,k0p,k2f har (by decide),k2f hds (by decide),k0Q hss (by simp),List.nil_append,List.nil_append]),k1x]
 rw[k0z,hks];simp[k0r,hk,e1,e2,e3]
theorem dset {ds:List Tr} {s:Tr} (hds:InK [10] ds) (hs:s.n.kind=5):k0o (kvL (ds++[s]))=kvF ds∧k21 (kvL (ds++[s]))=kvs s:=by
 have hss:InK [5] [s]:=fun x hx=>by simp at hx;subst hx;simpa using hs
 constructor
 ·unfold k0o
  rw[k0T (l:=ds) (by rw[k0p,k2f hss (by decide),k0Q hds (by simp),List.append_nil]),k1x]
 ·unfold k21
  rw[k0T (l:=[s]) (by rw[k0p,k2f hds (by decide),k0Q hss (by simp),List.nil_append]),k1x]
  simp[kvF]
theorem k4J {t:Tr} (hf:Fine t) (hk:t.n.kind=8∨t.n.kind=3): ∃(ds:List Tr) (s:Tr),t.ks=ds++[s]∧InK [10] ds∧s.n.kind=5:=by
 cases hf.1.self.2 with
 |fragment ds s _ h1 h2 h3=>exact⟨ds,s,h1,h2,h3⟩
 |_=>omega
theorem k7Z {t s:Tr} {ds:List Tr} (hk:t.n.kind=8) (hks:t.ks=ds++[s]) (hds:InK [10] ds) (hs:s.n.kind=5):
 kvs t=k2x::((if t.n.text=eB then[] else[nmK onB,nmK t.n.text])++(kvF ds++kvs s)):=by
 obtain⟨e2,e3⟩:=dset hds hs
 rw[k0z,hks];simp[k0r,hk,e2,e3]
theorem k9K {t s:Tr} {ds:List Tr} (hk:t.n.kind=3) (hks:t.ks=ds++[s]) (hds:InK [10] ds) (hs:s.n.kind=5):
 kvs t=nmK k3h::nmK t.n.name::nmK onB::nmK t.n.text::(kvF ds++kvs s):=by
 obtain⟨e2,e3⟩:=dset hds hs
 rw[k0z,hks];simp[k0r,hk,e2,e3]
theorem k8t {t:Tr} (hf:Fine t) (hk:t.n.kind=6∨t.n.kind=7∨t.n.kind=8): ∃h r,kvs t=h::r∧NoF h∧h.1≠14:=by
 rcases hk with hk|hk|hk
 ·obtain⟨ar,ds,ss,h1,h2,h3,h4,_⟩:=k9i hf hk
  rw[k9J hk h1 h2 h3 h4]
  by_cases ha:t.n.alias=eB
  ·rw[if_pos ha];exact⟨nmK t.n.name,_,rfl,⟨by simp,by simp,by simp,by simp⟩,by simp⟩
  ·rw[if_neg ha];exact⟨nmK t.n.alias,_,rfl,⟨by simp,by simp,by simp,by simp⟩,by simp⟩
 ·rw[k6c hk (k6W hf hk).2];exact⟨k2x,_,rfl,⟨by decide,by decide,by decide,by decide⟩,by decide⟩
 ·obtain⟨ds,s,h1,h2,h3⟩:=k4J hf (.inl hk)
  rw[k7Z hk h1 h2 h3];exact⟨k2x,_,rfl,⟨by decide,by decide,by decide,by decide⟩,by decide⟩
theorem kdl (E:PEnv) (t:Tr) (hk:t.n.kind=5) (hf:Fine t) (hsel: ∀k∈t.ks,PSel E k):PSet E t:=by
 intro u r H ps
 obtain⟨hK,hne⟩:=k57 hf hk
 have hfew:=hf.few
 obtain⟨hn1,hn2⟩:=k45 hf.1.self.1.2 (n:=t.n) (by omega)
 have hal:=k0R hf.1.self.1 (by omega)
 rw[k3c hf hk] at ps
 refine parseSelectionSet.enter _ H _ ?_
 unfold parseSelectionSet.W
 obtain⟨st,hst,_⟩:=ps.start
 refine⟨_,hst,?_⟩
 refine nbI fun H1 e1 hb1 x1 s1=>?_
 refine(kjN.enter _ _ _ _ _ _ (k8k fq207 E 12 14 true kvs SelQ NoF t.ks (by omega) (fun _=>hne) (fun k hkm u' r' hu'=>hsel k hkm u' r' hu') (fun k hkm=>k8t (hf.kid hkm) (by simpa using hK k hkm)) ⟨by decide,by decide,by decide,by decide⟩ u r H1 (ps.grow x1))).mono ?_
 rintro _ H2 ⟨x,bs,rfl,c2⟩
 refine⟨x,rfl,?_⟩
 have hV:=c2.self.2.left (P:=fun b=>SelT b.1) fun _ _ h=>h.2
 have hbl:=c2.self.2.len
 have hb2:=c2.ext.get _ _ hb1 (by have:=ps.lt;simp only[PEnv.S,List.mem_cons,List.not_mem_nil,or_false,not_or];omega)
 refine k9c tq191 tq191 SelT kiY kk1 E hV c2 (by omega) x1.of_nil ps.lt (Ext.refl _ _) hb2 (Nat.le_refl _) (.inl (by omega))
  (K:=fun y H'=>k00 PP fq141 #[(.pointer (some ⟨E.p,0,none⟩)),(.int .i64 (st:Int))] H' pBlk fun(x15:Nat) H16=>
    newB H16 (.cells #[(.string (Go.Vx.bs [])),(.pointer (some ⟨x15,0,none⟩)),(.slice y.1 y.2.1 y.2.2)] tq322) fun b17 H18=>
    k00 PP fq208 #[(.pointer (some ⟨b17,0,none⟩))] H18 pBlk fun(x19:Nat) H20=>
    rk [(.pointer (some ⟨x19,0,none⟩)),nI] H20 _) fun y H3 c3=>?_
 refine c3.call (k0D E _ _) fun lb H4 _ c4=>?_
 refine c4.node (kfj _ _ _ _) fun b H5 _ c5=>?_
 refine rkI ⟨b,rfl,c5.weak fun G hG=>?_⟩
 obtain⟨⟨⟨hsl,hall⟩,hl⟩,hbG⟩:=hG
 exact kky hl hbG hsl (hall.imp fun _ _ h=>h.1) hk hn1 hn2 hal hf.2.1
def kbX (p:Nat) (x1:Int) (xa:OA) (nb:Nat) (H5:Heap) (R:Value→Heap→Prop):Prop:=
 k00 PP fq173 #[(.pointer (some ⟨p,0,none⟩))] H5 ⟨Sl,fun x=>(.tuple #[(.slice x.1 x.2.1 x.2.2),nI])⟩ fun(x28:Sl) H29=>
  k00 PP fq138 #[(.pointer (some ⟨p,0,none⟩))] H29 ⟨Sl,fun x=>(.tuple #[(.slice x.1 x.2.1 x.2.2),nI])⟩ fun(x30:Sl) H31=>
  k00 PP fq153 #[(.pointer (some ⟨p,0,none⟩)),(.int .i64 12)] H31 k04 fun(x32:Bool) H33=>
  k02 x32
  (k00 PP fq165 #[(.pointer (some ⟨p,0,none⟩))] H33 ⟨Nat,fun x=>(.tuple #[(.pointer (some ⟨x,0,none⟩)),nI])⟩ fun(x34:Nat) H35=>
    k00 PP fq141 #[(.pointer (some ⟨p,0,none⟩)),(.int .i64 x1)] H35 pBlk fun(x36:Nat) H37=>
    newB H37 (.cells #[sE,(.pointer (some ⟨x36,0,none⟩)),(.pointer xa),(.pointer (some ⟨nb,0,none⟩)),(.slice x28.1 x28.2.1 x28.2.2),(.slice x30.1 x30.2.1 x30.2.2),(.pointer (some ⟨x34,0,none⟩))] tq194) fun b38 H39=>
    k00 PP fq174 #[(.pointer (some ⟨b38,0,none⟩))] H39 pBlk fun(x40:Nat) H41=>
    rk [(.pointer (some ⟨x40,0,none⟩)),nI] H41 R)
  (k00 PP fq141 #[(.pointer (some ⟨p,0,none⟩)),(.int .i64 x1)] H33 pBlk fun(x42:Nat) H43=>
    newB H43 (.cells #[sE,(.pointer (some ⟨x42,0,none⟩)),(.pointer xa),(.pointer (some ⟨nb,0,none⟩)),(.slice x28.1 x28.2.1 x28.2.2),(.slice x30.1 x30.2.1 x30.2.2),(.pointer none)] tq194) fun b44 H45=>
    k00 PP fq174 #[(.pointer (some ⟨b44,0,none⟩))] H45 pBlk fun(x46:Nat) H47=>
    rk [(.pointer (some ⟨x46,0,none⟩)),nI] H47 R)
theorem kbY {E:PEnv} {t:Tr} {ar ds ss:List Tr} (hk:t.n.kind=6) (hf:Fine t) (hks:t.ks=ar++(ds++ss)) (har:InK [9] ar) (hds:InK [10] ds) (hss:InK [5] ss) (h1:ss.length≤1) (hset: ∀s∈ss,PSet E s) {u:KV} {r:List KV} (hu:NoF u)
 {A H:Heap} {F:Heap→Prop} {xa:OA} {nb:Nat} {x1:Int} (c:Cx E A H (brK (some kPL) (some kPR) ar++(kvF ds++(kvF ss++u::r))) F) (hF: ∀G,F G→k0W nb t.n.name G∧k5b xa t.n.alias G):
 kbX E.p x1 xa nb H fun v H'=> ∃b,v=P1v b∧Cx E A H' (u::r) fun G=>k3z tq126 b (flat t) G:=by
 have hkf:=k1A hf
 have hlen:=hf.few
 rw[hks] at hkf hlen
 simp only[List.length_append] at hlen
 have hdf: ∀m∈ds,Fine m:=fun m hm=>hkf m (by simp[hm])
 have htx:=k1l hf.1.self.1.2 (n:=t.n) (by omega)
 obtain⟨s1,s2,hs12,hs1⟩: ∃s1 s2,kvF ss++u::r=s1::s2∧s1.1≠4∧s1.1≠9:=by
  rcases k27 h1 with rfl|⟨s,rfl⟩
  ·exact⟨u,r,rfl,hu.1,hu.2.1⟩
  ·have e:kvF [s]=kvs s:=by simp[kvF]
   rw[e,k3c (hkf s (by simp)) (k0f hss s (by simp))]
   exact⟨kBL,_,rfl,by decide,by decide⟩
 rw[hs12] at c
 obtain⟨d1,d2,hd12,hd1⟩:=k4c hds hdf (u:=s1) s2 (P:=fun k=>k≠4) hs1.1 (by decide)
 rw[hd12] at c
 unfold kbX
 refine c.call (p:=slP) (kdb E ar har (fun x hx=>hkf x (by simp[hx])) (by omega) d1 d2 hd1) fun xr H1 _ c1=>?_
 rw[←hd12] at c1
 refine c1.call (p:=slP) (k1T E ds hds hdf (by omega) s1 s2 hs1.1 hs1.2) fun xs H2 _ c2=>?_
 rcases k27 h1 with rfl|⟨s,rfl⟩
 ·obtain⟨rfl,rfl⟩:u=s1∧r=s2:=by simpa [kvF] using hs12
  refine c2.call1 (k1k E u r 12) (u.1==12) rfl fun H3 _ c3=>?_
  refine fkI (fun hh=>absurd (by simpa using hh) hu.2.2.2) (fun _=>?_)
  refine c3.call (k0D E _ _) fun lb H4 _ c4=>?_
  refine c4.node (kb8 _ _ _ _ _ _ _ _ _ _) fun b H5 _ c5=>?_
  refine rkI ⟨b,rfl,c5.weak fun G hG=>?_⟩
  obtain⟨⟨⟨⟨hFG,hA⟩,hs⟩,hl⟩,hb⟩:=hG
  obtain⟨hn,ha⟩:=hF G hFG
  exact keg hl hn ha hb (kbF (ss:=[]) hb hA hs (kkx G) hks) hk htx hf.2.1
 ·have e:kvF [s]=kvs s:=by simp[kvF]
  have hs12':=hs12
  rw[e,k3c (hkf s (by simp)) (k0f hss s (by simp))] at hs12'
  rw[←hs12',] at c2
  refine c2.call1 (k1k E kBL _ 12) true rfl fun H3 _ c3=>?_
  refine fkI (fun _=>?_) (fun hh=>absurd hh (by decide))
  rw[←k3c (hkf s (by simp)) (k0f hss s (by simp))] at c3
  refine c3.call (hset s (by simp) u r) fun sb H4 _ c4=>?_
  refine c4.call (k0D E _ _) fun lb H5 _ c5=>?_
  refine c5.node (kb8 _ _ _ _ _ _ _ _ _ _) fun b H6 _ c6=>?_
  refine rkI ⟨b,rfl,c6.weak fun G hG=>?_⟩
  obtain⟨⟨⟨⟨⟨hFG,hA⟩,hs⟩,hS⟩,hl⟩,hb⟩:=hG
  obtain⟨hn,ha⟩:=hF G hFG
  have e2:k0a [s]=flat s:=by simp[k0a]
  exact keg hl hn ha hb (kbF hb hA hs (by rw[e2];exact hS) hks) hk htx hf.2.1
theorem kdg (E:PEnv) (t:Tr) (hk:t.n.kind=6) (hf:Fine t) (hset: ∀s∈t.ks,s.n.kind=5→PSet E s) (u:KV) (r:List KV) (hu:NoF u):
 POk E fq112 #[.pointer (some ⟨E.p,0,none⟩)] (kvs t++u::r) (u::r) P1v fun b G=>k3z tq126 b (flat t) G:=by
 intro H ps
 obtain⟨ar,ds,ss,hks,har,hds,hss,h1⟩:=k9i hf hk
 have hkf:=k1A hf
 rw[hks] at hkf
 have hdf: ∀m∈ds,Fine m:=fun m hm=>hkf m (by simp[hm])
 have hset': ∀s∈ss,PSet E s:=fun s hs=>hset s (by rw[hks];simp[hs]) (k0f hss s hs)
 rw[k9J hk hks har hds hss] at ps
 simp only[List.append_assoc,List.cons_append] at ps
 obtain⟨s1,s2,hs12,hs1⟩: ∃s1 s2,kvF ss++u::r=s1::s2∧s1.1≠7:=by
  rcases k27 h1 with rfl|⟨s,rfl⟩
  ·exact⟨u,r,rfl,hu.2.2.1⟩
  ·have e:kvF [s]=kvs s:=by simp[kvF]
   rw[e,k3c (hkf s (by simp)) (k0f hss s (by simp))]
   exact⟨kBL,_,rfl,by decide⟩
 obtain⟨d1,d2,hd12,hd1⟩:=k4c hds hdf (u:=s1) s2 (P:=fun k=>k≠7) hs1 (by decide)
 obtain⟨a1,a2,ha12,ha1⟩: ∃a1 a2,brK (some kPL) (some kPR) ar++(kvF ds++(kvF ss++u::r))=a1::a2∧a1.1≠7:=by
  rw[hs12,hd12]
  by_cases ha:ar=[]
  ·subst ha;rw[k2V];exact⟨d1,d2,rfl,hd1⟩
  ·rw[k2W ha];exact⟨kPL,_,rfl,by decide⟩
 refine parseField.enter _ H _ ?_
 unfold parseField.W
 by_cases ha:t.n.alias=eB
 ·rw[if_pos ha,List.nil_append] at ps
  obtain⟨st,hst,_⟩:=ps.start
  refine⟨_,hst,?_⟩
  rw[ha12] at ps
  refine(Cx.start ps).call (k1p E t.n.name a1 a2) fun nb H1 _ c1=>?_
  refine c1.call1 (k3v E a1 a2 7 ha1) false rfl fun H2 _ c2=>?_
  refine fkI (fun hh=>absurd hh (by decide)) (fun _=>?_)
  rw[←ha12] at c2
  exact kbY hk hf hks har hds hss h1 hset' hu c2 fun G hG=>⟨hG.2,.inl ⟨rfl,ha⟩⟩
 ·rw[if_neg ha] at ps
  simp only[List.cons_append,List.nil_append] at ps
  obtain⟨st,hst,_⟩:=ps.start
  refine⟨_,hst,?_⟩
  refine(Cx.start ps).call (k1p E t.n.alias _ _) fun ab H1 _ c1=>?_
  refine c1.call1 (k3S E kCol _ _ 7 rfl) true rfl fun H2 _ c2=>?_
  refine fkI (fun _=>?_) (fun hh=>absurd hh (by decide))
  rw[ha12] at c2
  refine c2.call (k1p E t.n.name a1 a2) fun nb H3 _ c3=>?_
  rw[←ha12] at c3
  exact kbY hk hf hks har hds hss h1 hset' hu c3 fun G hG=>⟨hG.2,.inr ⟨ab,rfl,hG.1.2⟩⟩
theorem kdi (E:PEnv) (t:Tr) (hk:t.n.kind=8) (hf:Fine t) (hset: ∀s∈t.ks,s.n.kind=5→PSet E s) (u:KV) (r:List KV):
 POk E fq113 #[.pointer (some ⟨E.p,0,none⟩)] (kvs t++u::r) (u::r) N2v fun x G=>SelQ x t G:=by
 intro H ps
 obtain⟨ds,s,hks,hds,hs⟩:=k4J hf (.inl hk)
 have hkf:=k1A hf
 have hlen:=hf.few
 rw[hks] at hkf hlen
 simp only[List.length_append] at hlen
 have hdf: ∀m∈ds,Fine m:=fun m hm=>hkf m (by simp[hm])
 have hsf:=hkf s (by simp)
 have hps:=hset s (by rw[hks];simp) hs
 have hnm:=k4E hf.1.self.1.2 (n:=t.n) (by omega)
 have hal:=k0R hf.1.self.1 (by omega)
 rw[k7Z hk hks hds hs] at ps
 simp only[List.append_assoc,List.cons_append] at ps
 have eS:=k3c hsf hs u r
 obtain⟨d1,d2,hd12,hdk⟩:=k4c hds hdf (u:=kBL) (s.ks.flatMap kvs++kBR::u::r) (P:=fun k=>k≠15) (by decide) (by decide)
 have hdv:d1.2≠onB:=by
  have hne:eB≠onB:=fun h=>absurd (congrArg ByteArray.size h) (by decide)
  cases ds with
  |nil=>simp only[kvF,List.flatMap_nil,List.nil_append,List.cons.injEq] at hd12;rw[←hd12.1];exact hne
  |cons d ds=>
   rw[k4L,k4M (k0f hds d (by simp)) (k4H (hdf d (by simp)).1 (k0f hds d (by simp)))] at hd12
   simp only[List.cons_append,List.cons.injEq] at hd12
   rw[←hd12.1];exact hne
 rw[eS,hd12] at ps
 refine parseFragment.enter _ H _ ?_
 unfold parseFragment.W
 obtain⟨st,hst,_⟩:=ps.start
 refine⟨_,hst,?_⟩
 have hkind:t.n.kind=8:=hk
 by_cases hx:t.n.text=eB
 ·rw[if_pos hx,List.nil_append] at ps
  refine(Cx.start ps).call (k1R E k2x d1 d2 6 rfl) fun _ H1 _ c1=>?_
  refine⟨fun y H'=>y.1=false∧Cx E H H' (d1::d2) fun _=>True,?_,?_⟩
  ·refine c1.call1 (k1k E d1 d2 15) (d1.1==15) rfl fun H2 _ c2=>?_
   refine fkI (fun hh=>absurd (by simpa using hh) hdk) (fun _=>⟨rfl,c2.weak fun _ _=>trivial⟩)
  rintro⟨y,_⟩ H2 ⟨hy,c2⟩
  dsimp only at hy⊢
  subst hy
  refine fkI (fun hh=>absurd hh (by decide)) (fun _=>?_)
  refine⟨d1.2,c2.ps.value,fkI (fun hh=>?_) (fun _=>?_)⟩
  ·rw[k0t] at hh;simp at hh;exact absurd hh hdv
  rw[←hd12] at c2
  refine c2.call (p:=slP) (k1T E ds hds hdf (by omega) kBL _ (by decide) (by decide)) fun xs H3 _ c3=>?_
  rw[←eS] at c3
  refine c3.call (hps u r) fun sb H4 _ c4=>?_
  refine c4.call (k0D E _ _) fun lb H5 _ c5=>?_
  refine c5.node (kb9 _ _ _ _ _ _) fun b H6 _ c6=>?_
  refine rkI ⟨(tq129,b),rfl,c6.weak fun G hG=>⟨?_,.inr (.inl rfl)⟩⟩
  obtain⟨⟨⟨⟨_,hs'⟩,hS⟩,hl⟩,hb⟩:=hG
  exact keh hl (.inl ⟨rfl,hx⟩) hb (kbG hb hs' hS hks) hk hnm hal hf.2.1
 ·rw[if_neg hx] at ps
  simp only[List.cons_append,List.nil_append] at ps
  refine(Cx.start ps).call (k1R E k2x _ _ 6 rfl) fun _ H1 _ c1=>?_
  refine⟨fun y H'=>y.1=false∧Cx E H H' (nmK onB::nmK t.n.text::d1::d2) fun _=>True,?_,?_⟩
  ·refine c1.call1 (k1k E (nmK onB) _ 15) true rfl fun H2 _ c2=>?_
   refine fkI (fun _=>?_) (fun hh=>absurd hh (by decide))
   refine⟨onB,c2.ps.value,?_,c2.weak fun _ _=>trivial⟩
   rw[k0t];simp
  rintro⟨y,_⟩ H2 ⟨hy,c2⟩
  dsimp only at hy⊢
  subst hy
  refine fkI (fun hh=>absurd hh (by decide)) (fun _=>?_)
  refine⟨onB,c2.ps.value,fkI (fun _=>?_) (fun hh=>(k0J hh).elim)⟩
  refine c2.call1 (k2q E (nmK onB) (nmK t.n.text) _) () rfl fun H3 _ c3=>?_
  refine c3.call (k4V E t.n.text d1 d2) fun nb H4 _ c4=>?_
  rw[←hd12] at c4
  refine c4.call (p:=slP) (k1T E ds hds hdf (by omega) kBL _ (by decide) (by decide)) fun xs H5 _ c5=>?_
  rw[←eS] at c5
  refine c5.call (hps u r) fun sb H6 _ c6=>?_
  refine c6.call (k0D E _ _) fun lb H7 _ c7=>?_
  refine c7.node (kb9 _ _ _ _ _ _) fun b H8 _ c8=>?_
  refine rkI ⟨(tq129,b),rfl,c8.weak fun G hG=>⟨?_,.inr (.inl rfl)⟩⟩
  obtain⟨⟨⟨⟨⟨_,hc⟩,hs'⟩,hS⟩,hl⟩,hb⟩:=hG
  exact keh hl (.inr ⟨nb,rfl,hc⟩) hb (kbG hb hs' hS hks) hk hnm hal hf.2.1
theorem kdk (E:PEnv) (t:Tr) (hk:t.n.kind=6∨t.n.kind=7∨t.n.kind=8) (hf:Fine t):PSel E t:=by
 have hset: ∀s∈t.ks,s.n.kind=5→PSet E s:=fun s hs h5=>
  kdl E s h5 (hf.kid hs) fun k hkm=>kdk E k (by simpa using (k57 (hf.kid hs) h5).1 k hkm) ((hf.kid hs).kid hkm)
 intro u r hu H ps
 refine parseSelection.enter _ H _ ?_
 unfold parseSelection.W
 rcases hk with hk|hk|hk
 ·obtain⟨h,l,hh,_,_⟩:=k8t hf (.inl hk)
  have h6:h.1≠6:=by
   obtain⟨ar,ds,ss,h1,h2,h3,h4,_⟩:=k9i hf hk
   rw[k9J hk h1 h2 h3 h4] at hh
   by_cases ha:t.n.alias=eB
   ·rw[if_pos ha] at hh;simp only[List.nil_append,List.cons.injEq] at hh;rw[←hh.1];simp
   ·rw[if_neg ha] at hh;simp only[List.cons_append,List.cons.injEq] at hh;rw[←hh.1];simp
  have ps':=ps
  rw[hh,List.cons_append] at ps'
  refine(Cx.start ps').call1 (k1k E h _ 6) (h.1==6) rfl fun H1 _ c1=>?_
  refine fkI (fun hh=>absurd (by simpa using hh) h6) (fun _=>?_)
  rw[←List.cons_append,←hh] at c1
  refine c1.call (kdg E t hk hf hset u r hu) fun b H2 _ c2=>?_
  exact rkI ⟨(tq126,b),rfl,c2.weak fun G hG=>⟨hG.2,.inl rfl⟩⟩
 ·have ps':=ps
  rw[k6c hk (k6W hf hk).2,List.cons_append] at ps'
  refine(Cx.start ps').call1 (k1k E k2x _ 6) true rfl fun H1 _ c1=>?_
  refine fkI (fun _=>?_) (fun hh=>absurd hh (by decide))
  rw[←List.cons_append,←k6c hk (k6W hf hk).2] at c1
  refine c1.call (p:=N2p) (kdm E t hk hf u r hu.1 hu.2.1) fun x H2 _ c2=>?_
  refine rkI ⟨x,rfl,c2.weak fun G hG=>⟨?_,.inr (.inr hG.2.1)⟩⟩
  rw[hG.2.1]
  exact kkz hG.2.2
 ·obtain⟨ds,s,h1,h2,h3⟩:=k4J hf (.inl hk)
  have ps':=ps
  rw[k7Z hk h1 h2 h3,List.cons_append] at ps'
  refine(Cx.start ps').call1 (k1k E k2x _ 6) true rfl fun H1 _ c1=>?_
  refine fkI (fun _=>?_) (fun hh=>absurd hh (by decide))
  rw[←List.cons_append,←k7Z hk h1 h2 h3] at c1
  refine c1.call (p:=N2p) (kdi E t hk hf hset u r) fun x H2 _ c2=>?_
  exact rkI ⟨x,rfl,c2.weak fun G hG=>hG.2⟩
 termination_by SizeOf.sizeOf t
 decreasing_by
 have h1:=List.sizeOf_lt_of_mem hs
 have h2:=List.sizeOf_lt_of_mem hkm
 cases t with|node n ks=>cases s with|node n2 ks2=>
 simp only[Tr.ks] at*
 simp at*;omega
theorem k6x (E:PEnv) {t:Tr} (hf:Fine t): ∀s∈t.ks,s.n.kind=5→PSet E s:=fun s hs h5=>
 kdl E s h5 (hf.kid hs) fun k hkm=>kdk E k (by simpa using (k57 (hf.kid hs) h5).1 k hkm) ((hf.kid hs).kid hkm)
theorem khp (t:Tr) (hk:t.n.kind=4) (hf:Fine t): ∃h r,kvs t=h::r∧NoT h∧h.1≠5:=by
 obtain⟨vs,ty,h1,h2,h3,h4⟩:=kew hf hk
 rw[k9X hk h1 h2 h3 h4]
 exact⟨kDol,_,rfl,⟨by decide,by decide,by decide,by decide⟩,by decide⟩
theorem kiD (E:PEnv) (l:List Tr) (hK:InK [4] l) (hf: ∀t∈l,Fine t) (hlen:l.length≤400) (u:KV) (r:List KV) (hu:u.1≠4):
 POk E fq167 #[.pointer (some ⟨E.p,0,none⟩)] (brK (some kPL) (some kPR) l++u::r) (u::r) slV fun x G=>k0O fq63 x (k0a l) G:=by
 intro H ps
 refine parseVariableDefinitions.enter _ H _ ?_
 unfold parseVariableDefinitions.W
 refine nbI fun H1 e1 hb1 x1 s1=>?_
 have c1:=((Cx.start ps).add (F':=fun _=>True) x1 fun _ _=>trivial).weak fun _ h=>h.1
 have take: ∀ {G:Heap} {x:Sl} {bs:List Nat} {ts:List Tr},SlAt x (bs.map ptV) G→All2 (fun b k=>VarDAt b k G) bs ts→k0O fq63 x (k0a ts) G:=
  fun h1 h2 H tk D h hD=>kaQ h1.slK h2 h hD
 by_cases hl:l=[]
 ·subst hl
  rw[k2V,List.nil_append] at c1
  refine c1.call1 (k1k E u r 4) (u.1==4) rfl fun H2 _ c2=>?_
  refine fkI (fun _=>rkI ⟨(some ⟨H.size,0,none⟩,0,0),rfl,c2.weak fun G _=>?_⟩) (fun hh=>by simp[hu] at hh)
  exact take (bs:=[]) (SlAt.zero _ _ _) .nil
 ·rw[k2W hl] at c1
  refine c1.call1 (k1k E kPL _ 4) true rfl fun H2 y2 c2=>?_
  refine fkI (fun hh=>absurd hh (by decide)) (fun _=>?_)
  have hb2:=y2.get _ _ hb1 (c1.nin (Nat.le_refl _))
  refine k6H tq93 tq93 (by unfold k15;decide) (Q:=fun b t G=>VarDAt b t G) NoT hlen hl (fun t ht u' r' hu'=>kdn E t (k0f hK t ht) (hf t ht) u' r' hu') (fun t ht=>khp t (k0f hK t ht) (hf t ht)) ⟨by decide,by decide,by decide,by decide⟩ c2.ps (fun R h=>kjP.enter _ _ _ _ _ R h) fun x bs H3 hbl c3=>?_
  have hb3:=c3.ext.get _ _ hb2 (c1.nin (Nat.le_refl _))
  refine k5r tq93 tq93 (by unfold k15;decide) E c3 (by omega) c2.ext ps.lt (Ext.refl _ _) hb3 (Nat.le_refl _) (.inl (k0l hb2)) (K:=fun y H'=>rk [(.slice y.1 y.2.1 y.2.2),nI] H' _) fun y H4 c4=>?_
  exact rkI ⟨y,rfl,c4.weak fun G hG=>take hG.1 hG.2⟩
theorem kad {t:Tr} (hf:Fine t) (hk:t.n.kind=2):(∃s,t.n.flag=1∧t.n.text=k8i∧t.n.name=eB∧t.ks=[s]∧s.n.kind=5)∨
 ∃(vs ds:List Tr) (s:Tr),t.n.flag=0∧t.ks=vs++(ds++[s])∧InK [4] vs∧InK [10] ds∧s.n.kind=5:=by
 have hfl:t.n.flag=0∨t.n.flag=1∧t.n.text=k8i∧t.n.name=eB:=by
  cases hf.1.self.1.2<;>first|assumption|(exfalso;omega)
 cases hf.1.self.2 with
 |short s _ h1 h2 h3=>
  rcases hfl with h|⟨_,h4,h5⟩
  ·omega
  ·exact .inl ⟨s,h1,h4,h5,h2,h3⟩
 |operation vs ds s _ h1 h2 h3 h4 h5=>
  rcases hfl with h|⟨h,_⟩
  ·exact .inr ⟨vs,ds,s,h,h2,h3,h4,h5⟩
  ·exact absurd h h1
 |_=>omega
theorem k9S {t s:Tr} (hk:t.n.kind=2) (hfl:t.n.flag=1) (hks:t.ks=[s]) (hs:s.n.kind=5):kvs t=kvs s:=by
 obtain⟨e2,e3⟩:=dset (ds:=[]) (fun x hx=>by simp at hx) hs
 have e1:k0g (some kPL) (some kPR) none [4] (kvL [s])=[]:=by
  rw[k0T (l:=[]) (by rw[k0H (by simp[hs])];rfl)];simp[brK]
 rw[List.nil_append] at e2 e3
 rw[k0z,hks];simp[k0r,hk,hfl,e1,e2,e3,kvF]
theorem k9R {t s:Tr} {vs ds:List Tr} (hk:t.n.kind=2) (hfl:t.n.flag=0) (hks:t.ks=vs++(ds++[s])) (hvs:InK [4] vs) (hds:InK [10] ds) (hs:s.n.kind=5):
 kvs t=nmK t.n.text::((if t.n.name=eB then[] else[nmK t.n.name])++(brK (some kPL) (some kPR) vs++(kvF ds++kvs s))):=by
 have hss:InK [5] [s]:=fun x hx=>by simp at hx;subst hx;simpa using hs
 have e1:k0g (some kPL) (some kPR) none [4] (kvL (vs++(ds++[s])))=brK (some kPL) (some kPR) vs:=
  k0T (l:=vs) (by rw[k0p,k0p,k2f hds (by decide),k2f hss (by decide),k0Q hvs (by simp),List.nil_append,List.append_nil])
 have e2:k0o (kvL (vs++(ds++[s])))=kvF ds:=by
  unfold k0o
  rw[k0T (l:=ds) (by rw[k0p,k0p,k2f hvs (by decide),k2f hss (by decide),k0Q hds (by simp),List.nil_append,List.append_nil]),k1x]
 have e3:k21 (kvL (vs++(ds++[s])))=kvs s:=by
  unfold k21
  rw[k0T (l:=[s]) (by rw[k0p,k0p,k2f hvs (by decide),k2f hds (by decide),k0Q hss (by simp),List.nil_append,List.nil_append]),k1x]
  simp[kvF]
 rw[k0z,hks];simp[k0r,hk,hfl,e1,e2,e3]
def kd4 (p:Nat) (x1:Int) (x14:BA) (xa:OA) (H17:Heap) (R:Value→Heap→Prop):Prop:=
 k00 PP fq167 #[(.pointer (some ⟨p,0,none⟩))] H17 ⟨Sl,fun x=>(.tuple #[(.slice x.1 x.2.1 x.2.2),nI])⟩ fun(x32:Sl) H33=>
  k00 PP fq138 #[(.pointer (some ⟨p,0,none⟩))] H33 ⟨Sl,fun x=>(.tuple #[(.slice x.1 x.2.1 x.2.2),nI])⟩ fun(x34:Sl) H35=>
  k00 PP fq165 #[(.pointer (some ⟨p,0,none⟩))] H35 ⟨Nat,fun x=>(.tuple #[(.pointer (some ⟨x,0,none⟩)),nI])⟩ fun(x36:Nat) H37=>
  k00 PP fq141 #[(.pointer (some ⟨p,0,none⟩)),(.int .i64 x1)] H37 pBlk fun(x38:Nat) H39=>
  newB H39 (.cells #[sE,(.pointer (some ⟨x38,0,none⟩)),(.string x14),(.pointer xa),(.slice x32.1 x32.2.1 x32.2.2),(.slice x34.1 x34.2.1 x34.2.2),(.pointer (some ⟨x36,0,none⟩))] tq202) fun b40 H41=>
  k00 PP fq166 #[(.pointer (some ⟨b40,0,none⟩))] H41 pBlk fun(x42:Nat) H43=>
  rk [(.iface tq200 (.pointer (some ⟨x42,0,none⟩))),nI] H43 R
theorem kd5 {E:PEnv} {t s:Tr} {vs ds:List Tr} (hk:t.n.kind=2) (hf:Fine t) (hks:t.ks=vs++(ds++[s])) (hvs:InK [4] vs) (hds:InK [10] ds) (hs:s.n.kind=5) {u:KV} {r:List KV}
 {A H:Heap} {F:Heap→Prop} {xa:OA} {x1:Int} (c:Cx E A H (brK (some kPL) (some kPR) vs++(kvF ds++(kvs s++u::r))) F) (hF: ∀G,F G→k5b xa t.n.name G):
 kd4 E.p x1 t.n.text xa H fun v H'=> ∃b,v=ifP tq200 b∧Cx E A H' (u::r) fun G=>k0Y 2 tq200 b (flat t) G:=by
 have hkf:=k1A hf
 have hlen:=hf.few
 rw[hks] at hkf hlen
 simp only[List.length_append] at hlen
 have hdf: ∀m∈ds,Fine m:=fun m hm=>hkf m (by simp[hm])
 have hsf:=hkf s (by simp)
 have hps:=k6x E hf s (by rw[hks];simp) hs
 have eS:=k3c hsf hs u r
 rw[eS] at c
 obtain⟨d1,d2,hd12,hd1⟩:=k4c hds hdf (u:=kBL) (s.ks.flatMap kvs++kBR::u::r) (P:=fun k=>k≠4) (by decide) (by decide)
 rw[hd12] at c
 unfold kd4
 refine c.call (p:=slP) (kiD E vs hvs (fun x hx=>hkf x (by simp[hx])) (by omega) d1 d2 hd1) fun xv H1 _ c1=>?_
 rw[←hd12] at c1
 refine c1.call (p:=slP) (k1T E ds hds hdf (by omega) kBL _ (by decide) (by decide)) fun xs H2 _ c2=>?_
 rw[←eS] at c2
 refine c2.call (hps u r) fun sb H3 _ c3=>?_
 refine c3.call (k0D E _ _) fun lb H4 _ c4=>?_
 refine c4.node (kba _ _ _ _ _ _ _ _ _ _) fun b H5 _ c5=>?_
 refine rkI ⟨b,rfl,c5.weak fun G hG=>?_⟩
 obtain⟨⟨⟨⟨⟨hFG,hV⟩,hs'⟩,hS⟩,hl⟩,hb⟩:=hG
 exact keo 2 hf hl (hF G hFG) hb (kbH hb hV hs' hS hks) hk
theorem kiw (E:PEnv) (t:Tr) (hk:t.n.kind=2) (hf:Fine t) (u:KV) (r:List KV):
 POk E fq109 #[.pointer (some ⟨E.p,0,none⟩)] (kvs t++u::r) (u::r) (ifP tq200) fun b G=>k0Y 2 tq200 b (flat t) G:=by
 intro H ps
 have hkf:=k1A hf
 refine parseOperationDefinition.enter _ H _ ?_
 unfold parseOperationDefinition.W
 rcases kad hf hk with⟨s,hfl,htx,hnm,hks,hs⟩|⟨vs,ds,s,hfl,hks,hvs,hds,hs⟩
 ·rw[hks] at hkf
  have hsf:=hkf s (by simp)
  have hps:=k6x E hf s (by rw[hks];simp) hs
  have eS:=k3c hsf hs u r
  rw[k9S hk hfl hks hs,eS] at ps
  obtain⟨st,hst,_⟩:=ps.start
  refine⟨_,hst,?_⟩
  refine(Cx.start ps).call1 (k1k E kBL _ 12) true rfl fun H1 _ c1=>?_
  refine fkI (fun _=>?_) (fun hh=>absurd hh (by decide))
  rw[←eS] at c1
  refine c1.call (hps u r) fun sb H2 _ c2=>?_
  refine nbI fun H3 e3 hb3 x3 s3=>?_
  have c3:=(c2.add (F':=fun _=>True) x3 fun _ _=>trivial).weak fun _ h=>h.1
  refine c3.call (k0D E _ _) fun lb H4 _ c4=>?_
  refine c4.node (kba _ _ _ _ _ _ _ _ _ _) fun b H5 _ c5=>?_
  refine rkI ⟨b,rfl,c5.weak fun G hG=>?_⟩
  obtain⟨⟨⟨_,hS⟩,hl⟩,hb⟩:=hG
  have hb':G[b]?=some (.cells #[.string kcx,.pointer (some ⟨lb,0,none⟩),.string t.n.text,.pointer none,.slice none 0 0,.slice (some ⟨H2.size,0,none⟩) 0 0,.pointer (some ⟨sb,0,none⟩)] tq202):=by rw[htx];exact hb
  have hV:k0O fq63 (none,0,0) (k0a []) G:=fun H tk D h hD=>kaQ (x:=(none,0,0)) (bs:=[]) (ts:=[]) (SlAt.zero none 0 G).slK .nil h hD
  have hs':k0O fq65 (some ⟨H2.size,0,none⟩,0,0) (k0a []) G:=kel (bs:=[]) (ts:=[]) (SlAt.zero _ _ _) .nil
  exact keo 2 hf hl (.inl ⟨rfl,hnm⟩) hb' (kbH (vs:=[]) (ds:=[]) hb' hV hs' hS (by simpa using hks)) hk
 ·rw[k9R hk hfl hks hvs hds hs] at ps
  simp only[List.append_assoc,List.cons_append] at ps
  rw[hks] at hkf
  have hdf: ∀m∈ds,Fine m:=fun m hm=>hkf m (by simp[hm])
  have eS:=k3c (hkf s (by simp)) hs u r
  obtain⟨d1,d2,hd12,hd1⟩:=k4c hds hdf (u:=kBL) (s.ks.flatMap kvs++kBR::u::r) (P:=fun k=>k≠15) (by decide) (by decide)
  obtain⟨a1,a2,ha12,ha1⟩: ∃a1 a2,brK (some kPL) (some kPR) vs++(kvF ds++(kvs s++u::r))=a1::a2∧a1.1≠15:=by
   rw[eS,hd12]
   by_cases hv:vs=[]
   ·subst hv;rw[k2V];exact⟨d1,d2,rfl,hd1⟩
   ·rw[k2W hv];exact⟨kPL,_,rfl,by decide⟩
  have hw:k2p t.n.text:=k7L hf.1.self.1.2 (by omega)
  obtain⟨st,hst,_⟩:=ps.start
  refine⟨_,hst,?_⟩
  refine(Cx.start ps).call1 (k1k E (nmK t.n.text) _ 12) false rfl fun H1 _ c1=>?_
  refine fkI (fun hh=>absurd hh (by decide)) (fun _=>?_)
  by_cases hn:t.n.name=eB
  ·rw[if_pos hn,List.nil_append,ha12] at c1
   refine c1.call (kai E t.n.text a1 a2 hw) fun x H2 _ c2=>?_
   have hx:=c2.self.2
   refine c2.call1 (k1k E a1 a2 15) (a1.1==15) rfl fun H3 _ c3=>?_
   refine fkI (fun hh=>absurd (by simpa using hh) ha1) (fun _=>?_)
   rw[←ha12] at c3
   have:=kd5 (E:=E) (x1:=(st:Int)) hk hf hks hvs hds hs (xa:=none) c3 fun G _=> .inl ⟨rfl,hn⟩
   rw[←hx] at this
   exact this
  ·rw[if_neg hn] at c1
   simp only[List.cons_append,List.nil_append] at c1
   refine c1.call (kai E t.n.text _ _ hw) fun x H2 _ c2=>?_
   have hx:=c2.self.2
   refine c2.call1 (k1k E (nmK t.n.name) _ 15) true rfl fun H3 _ c3=>?_
   refine fkI (fun _=>?_) (fun hh=>absurd hh (by decide))
   rw[ha12] at c3
   refine c3.call (k1p E t.n.name a1 a2) fun nb H4 _ c4=>?_
   rw[←ha12] at c4
   have:=kd5 (E:=E) (x1:=(st:Int)) hk hf hks hvs hds hs (xa:=some ⟨nb,0,none⟩) c4 fun G hG=> .inr ⟨nb,rfl,hG.2⟩
   rw[←hx] at this
   exact this
theorem kgo {t:Tr} (hf:Fine t) (hk:t.n.kind=3):t.n.name≠onB:=by
 cases hf.1.self.1.2<;>first|assumption|(exfalso;omega)
theorem kiq (E:PEnv) (t:Tr) (hk:t.n.kind=3) (hf:Fine t) (u:KV) (r:List KV):
 POk E fq110 #[.pointer (some ⟨E.p,0,none⟩)] (kvs t++u::r) (u::r) (ifP tq203) fun b G=>k0Y 3 tq203 b (flat t) G:=by
 intro H ps
 obtain⟨ds,s,hks,hds,hs⟩:=k4J hf (.inr hk)
 have hkf:=k1A hf
 have hlen:=hf.few
 rw[hks] at hkf hlen
 simp only[List.length_append] at hlen
 have hdf: ∀m∈ds,Fine m:=fun m hm=>hkf m (by simp[hm])
 have hsf:=hkf s (by simp)
 have hps:=k6x E hf s (by rw[hks];simp) hs
 have eS:=k3c hsf hs u r
 rw[k9K hk hks hds hs] at ps
 simp only[List.append_assoc,List.cons_append] at ps
 rw[eS] at ps
 obtain⟨d1,d2,hd12⟩:=k0P (kvF ds) kBL (s.ks.flatMap kvs++kBR::u::r)
 rw[hd12] at ps
 refine parseFragmentDefinition.enter _ H _ ?_
 unfold parseFragmentDefinition.W
 obtain⟨st,hst,_⟩:=ps.start
 refine⟨_,hst,?_⟩
 refine(Cx.start ps).call (k2u E _ _ k3h) fun x1 H1 _ c1=>?_
 refine c1.tok rfl fun H2 _ _ c2=>?_
 refine c2.call (kdh E t.n.name (kgo hf hk) _ _) fun nb H3 _ c3=>?_
 refine c3.call (k2u E _ _ onB) fun _ H4 _ c4=>?_
 refine c4.call (k4V E t.n.text d1 d2) fun cb H5 _ c5=>?_
 rw[←hd12] at c5
 refine c5.call (p:=slP) (k1T E ds hds hdf (by omega) kBL _ (by decide) (by decide)) fun xs H6 _ c6=>?_
 rw[←eS] at c6
 refine c6.call (hps u r) fun sb H7 _ c7=>?_
 refine c7.call (k0D E _ _) fun lb H8 _ c8=>?_
 refine c8.node (kf1 _ _ _ _ _ _ _ _ _ _ _) fun b H9 _ c9=>?_
 refine rkI ⟨b,rfl,c9.weak fun G hG=>?_⟩
 obtain⟨⟨⟨⟨⟨⟨⟨_,hn⟩,_⟩,hc⟩,hs'⟩,hS⟩,hl⟩,hb⟩:=hG
 exact kkU 3 hf hl hn (.inr ⟨cb,rfl,hc⟩) hb (kfU hb hs' hS hks) hk
abbrev kaH:BA:=bs [111,112,101,114,97,116,105,111,110]
theorem kiM (H:Heap):Fn PP fq33 #[.int .i64 2] H fun v H'=>v= .string kaH∧H=H':=by
 refine partName.enter 2 H _ ?_
 unfold partName.W
 refine fkI (fun _=>rkI ⟨rfl,rfl⟩) (fun hh=>absurd hh (by decide))
theorem kiQ (H:Heap):Fn PP fq33 #[.int .i64 3] H fun v H'=>v= .string k3h∧H=H':=by
 refine partName.enter 3 H _ ?_
 unfold partName.W
 repeat refine fkI (fun hh=>absurd hh (by decide)) (fun _=>?_)
 refine fkI (fun _=>rkI ⟨rfl,rfl⟩) (fun hh=>absurd hh (by decide))
theorem kho {t:Tr} (hf:Fine t) (hk:t.n.kind=2):kvs t≠ []:=by
 rcases kad hf hk with⟨s,hfl,htx,hnm,hks,hs⟩|⟨vs,ds,s,hfl,hks,hvs,hds,hs⟩
 ·have hsf:=hf.kid (k:=s) (by rw[hks];simp)
  obtain⟨h1,h2⟩:=k57 hsf hs
  rw[k9S hk hfl hks hs,k9V hs h1]
  simp[brK,h2,optK]
 ·rw[k9R hk hfl hks hvs hds hs];simp
theorem khh:KindOk 2 2 kaH:=k1t 2 2 kaH kiM (fun h=>absurd (congrArg ByteArray.size h) (by decide)) (by
 intro t hf hk
 refine⟨kho hf hk,?_⟩
 intro E u hu H ps
 refine k0x.enter _ _ H _ ?_
 unfold k0x.W
 repeat refine fkI (fun hh=>(k0N (by decide) hh).elim) (fun _=>?_)
 refine fkI (fun _=>?_) (fun hh=>(k0J hh).elim)
 exact k1B (val:=ifP tq200) (ofA:=fun b=>(tq200,b)) ps (kiw E t hk hf u []))
theorem khd:KindOk 3 3 k3h:=k1t 3 3 k3h kiQ (fun h=>absurd (congrArg ByteArray.size h) (by decide)) (by
 intro t hf hk
 obtain⟨ds,s,h1,h2,h3⟩:=k4J hf (.inr hk)
 refine⟨by rw[k9K hk h1 h2 h3];simp,?_⟩
 intro E u hu H ps
 refine k0x.enter _ _ H _ ?_
 unfold k0x.W
 repeat refine fkI (fun hh=>(k0N (by decide) hh).elim) (fun _=>?_)
 refine fkI (fun _=>?_) (fun hh=>(k0J hh).elim)
 exact k1B (val:=ifP tq203) (ofA:=fun b=>(tq203,b)) ps (kiq E t hk hf u []))
theorem khz (s:BA): ∀(n i:Nat),s.size -i=n→(leGo s i).length≤s.size -i:=by
 intro n
 induction n using Nat.strongRecOn with
 |_ n ih=>
  intro i hn
  rw[leGo]
  split
  ·split
   ·have:=ih (s.size -(i+2)) (by omega) (i+2) rfl
    simp only[List.length_cons];omega
   ·split
    ·have:=ih (s.size -(i+1)) (by omega) (i+1) rfl
     simp only[List.length_cons];omega
    ·have:=ih (s.size -(i+1)) (by omega) (i+1) rfl
     omega
  ·simp
theorem keN {E:Src} {H:Heap} (h:SrcAt E H) (pos:Int):
 Fn PP fq263 #[.pointer (some ⟨E.src,0,none⟩),.int .i64 pos] H fun v H'=> ∃a b:Int,v= .agg #[.int .i64 a,.int .i64 b]∧Ext [] H H':=by
 have hsm:=h.small
 refine GetLocation.enter _ _ H _ ?_
 unfold GetLocation.W
 refine nbI fun H2 e2 hb2 x2 s2=>nbI fun H4 e4 hb4 x4 s4=>?_
 have x24:=x2.trans x4
 have h4:=h.ext x24
 obtain⟨nm,fr,hsrc⟩:=h4.src
 refine⟨(some ⟨E.body,0,none⟩,E.text.size,E.cap),lcO hsrc rfl,?_⟩
 refine(keJ h4).mono ?_
 rintro _ H7 ⟨x,rfl,hI⟩
 refine⟨x,rfl,?_⟩
 have hlx:x.2.1=(leGo E.text 0).length:=by
  obtain⟨bs,ho,hall⟩:=hI.own
  have:=ho.1
  simp only[List.length_map,Nat.mul_one] at this
  rw[←this,hall.len]
 have hmem:=kcJ E.text _ 0 rfl
 have hl0:=khz E.text _ 0 rfl
 have hb7:=hI.ext.get _ _ (x4.get _ _ hb2 (by simp)) (by simp)
 have fin: ∀(line col:Int),k08 H7 ⟨H.size,0,none⟩ [(.int .i64 line),(.int .i64 col)] fun H16=>
  retK (k09 (k07 H16 true 2 ⟨H.size,0,none⟩) (some [])) H16 fun v H'=> ∃a b:Int,v= .agg #[.int .i64 a,.int .i64 b]∧Ext [] H H':=by
  intro line col
  refine swI hb7 (by simp) rfl rfl fun H16 e16 hb16 x16 s16=>?_
  refine⟨[.agg #[.int .i64 line,.int .i64 col]],by rw[lcO hb16 rfl];rfl,line,col,rfl,?_⟩
  rw[e16]
  exact(x24.trans hI.ext).setNew (Nat.le_refl _) _
 refine⟨fun z H'=>H'=H7∧ ∃k:Nat,z.2.2.1=k∧k≤(leGo E.text 0).length,fun z _=>(leGo E.text 0).length -z.2.2.1.toNat,⟨rfl,0,rfl,Nat.zero_le _⟩,?_⟩
 rintro⟨line,col,_,_⟩ _ ⟨rfl,k,hk1,hkl⟩
 dsimp only at hk1⊢
 subst hk1
 refine fkI (fun hlt=>?_) (fun _=>fin _ _)
 have hlt':k<(leGo E.text 0).length:=by simp at hlt;omega
 have hi:(leGo E.text 0)[k]?=some (leGo E.text 0)[k]:=List.getElem?_eq_getElem hlt'
 obtain⟨_,hp1,hp2⟩:=hmem _ (List.getElem_mem hlt')
 obtain⟨hix,b,hlb,hbl⟩:=kcK hI hi
 generalize (leGo E.text 0)[k]=p at hp1 hp2 hbl
 refine⟨hix,(some ⟨b,0,none⟩,2,2),hlb,k0k (by simp) (by simp),(p.1:Int),lcO hbl rfl,?_⟩
 refine fkI (fun _=>?_) (fun _=>fin _ _)
 have h7:=h4.ext hI.ext
 obtain⟨nm7,fr7,hsrc7⟩:=h7.src
 have hle:=h7.le
 refine⟨(some ⟨E.body,0,none⟩,E.text.size,E.cap),lcO hsrc7 rfl,k0k (by simp) (by simp),(p.1:Int),lcO hbl rfl,k0k (by simp) (by simp),(p.2:Int),lcO hbl rfl,⟨by dsimp only;omega,by omega⟩,?_⟩
 rw[k0h (k:=k) (by omega)]
 exact⟨⟨rfl,k+1,rfl,hlt'⟩,by omega⟩
theorem kie {E:Src} {H:Heap} (h:SrcAt E H) (pos:Int) (b1 b3:Nat) (hb3:H[b3]?=some (.cells #[.int .i64 pos] tq3)):
 Fn PP fq247 #[.string k56,.slice (some ⟨b1,0,none⟩) 0 0,.string eB,.pointer (some ⟨E.src,0,none⟩),.slice (some ⟨b3,0,none⟩) 1 1,.slice none 0 0,nI] H fun v H'=>
  ∃b:Nat,v= .pointer (some ⟨b,0,none⟩)∧Ext [] H H':=by
 refine k4l.enter _ _ _ _ _ _ _ _ _ H _ ?_
 unfold k4l.W
 have hne:(k56.toList==(bs []).toList)=false:=by rw[k0t];exact decide_eq_false fun h=>absurd (congrArg ByteArray.size h) (by decide)
 refine⟨(true,()),fkI (fun _=>⟨by rw[hne];rfl,rfl⟩) (fun hh=>(k0J hh).elim),?_⟩
 refine fkI (fun _=>?_) (fun hh=>absurd hh (by decide))
 refine⟨(false,()),fkI (fun hh=>absurd hh (by decide)) (fun _=>⟨rfl,rfl⟩),?_⟩
 refine fkI (fun hh=>absurd hh (by decide)) (fun _=>?_)
 refine nbI fun H2 e2 hb2 x2 s2=>?_
 have o2:OwnS H2 tq394 2 (some ⟨H.size,0,none⟩) 0 0 []:=⟨by simp,.inr ⟨H.size,#[],rfl,hb2,Nat.le_refl _,Nat.zero_le _,rfl,rfl⟩⟩
 refine⟨fun z H'=>z.2.1=0∧H'=H2∧z.1=(some ⟨H.size,0,none⟩,0,0)∨z.2.1=1∧Ext [] H H',fun z _=>1 -z.2.1.toNat,.inl ⟨rfl,rfl,rfl⟩,?_⟩
 rintro⟨⟨a,n,c⟩,i,_⟩ H3 (⟨rfl,rfl,hz⟩|⟨rfl,hx⟩)
 ·simp only[Prod.mk.injEq] at hz
  obtain⟨rfl,rfl,rfl⟩:=hz
  refine fkI (fun _=>?_) (fun hh=>by simp at hh)
  have hb3':=x2.get _ _ hb3 (by simp)
  refine⟨k0k (by simp) (by simp),(pos:Int),lcO hb3' rfl,?_⟩
  refine(keN (h.ext x2) pos).mono ?_
  rintro _ H4 ⟨la,lb,rfl,x4⟩
  refine⟨(la,lb),rfl,?_⟩
  dsimp only
  refine nbI fun H5 e5 hb5 x5 s5=>?_
  refine swI hb5 (by simp) rfl rfl fun H6 e6 hb6 x6 s6=>?_
  have hb6':H6[H4.size]?=some (.cells #[.int .i64 la,.int .i64 lb] tq394):=hb6
  have y6:Ext [] H4 H6:=by rw[e6];exact x5.setNew (Nat.le_refl _) _
  refine⟨(la,lb),lcO hb6' rfl,?_⟩
  dsimp only
  refine nbI fun H7 e7 hb7 x7 s7=>?_
  have o7:=((o2.ext x4 (by simp)).ext y6 (by simp)).ext x7 (by simp)
  have hml:1000≤maxLen:=by decide
  refine .inr ⟨_,_,o7,k2o.of_block hb7 rfl,?_,by omega,by omega,?_⟩
  ·intro u hu;simp at hu;rcases hu with rfl|rfl<;>rfl
  intro a8 c8 H8 ho8 hg8 _ hr8
  have xx:Ext [] H H8:=by
   have x27:=((x2.trans x4).trans y6).trans x7
   refine⟨by have:=x27.size;have:=hg8.size;omega,fun k o hk _=>?_⟩
   have h2:=x27.get _ _ hk (by simp)
   rw[hg8.block k (k0l h2) fun eq=>?_,h2]
   cases eq
   have:=k0l hk
   dsimp only at this
   omega
  exact⟨.inr ⟨by decide,xx⟩,by decide⟩
 ·refine fkI (fun hh=>by simp at hh) (fun _=>?_)
  refine nbI fun H4 e4 hb4 x4 s4=>?_
  exact rkI ⟨H3.size,rfl,hx.trans x4⟩
theorem kfm {E:Src} {H:Heap} (h:SrcAt E H) (pos:Int) (d:BA):
 Fn PP fq198 #[.pointer (some ⟨E.src,0,none⟩),.int .i64 pos,.string d] H fun v H'=> ∃b:Nat,v= .pointer (some ⟨b,0,none⟩)∧Ext [] H H':=by
 refine NewSyntaxError.enter _ _ _ H _ ?_
 unfold NewSyntaxError.W
 refine nbI fun H1 e1 hb1 x1 s1=>nbI fun H2 e2 hb2 x2 s2=>?_
 have x12:=x1.trans x2
 have key:Fn PP fq232 #[.string k56,.slice (some ⟨H.size,0,none⟩) 0 0,.string eB,.pointer (some ⟨E.src,0,none⟩),.slice (some ⟨H1.size,0,none⟩) 1 1,nI] H2 fun v H'=> ∃b:Nat,v= .pointer (some ⟨b,0,none⟩)∧Ext [] H2 H':=by
  refine k3X.enter _ _ _ _ _ _ _ _ _ H2 _ ?_
  unfold k3X.W
  refine(kie (h.ext x12) pos H.size H1.size hb2).mono ?_
  rintro _ H3 ⟨b,rfl,x3⟩
  exact⟨b,rfl,rkI ⟨b,rfl,x3⟩⟩
 refine key.mono ?_
 rintro _ H3 ⟨b,rfl,x3⟩
 exact⟨b,rfl,rkI ⟨b,rfl,x12.trans x3⟩⟩
def kfq (v:Value):Prop:= ∃x:Int×Int×Int×BA×Nat,v= .tuple #[.agg #[.int .i64 x.1,.int .i64 x.2.1,.int .i64 x.2.2.1,.string x.2.2.2.1],.iface tq328 (.pointer (some ⟨x.2.2.2.2,0,none⟩))]
theorem kbV (E:PEnv) (t:KV) (l:List KV) (v:BA) (ht:t.1=15→t.2≠v) (H:Heap) (ps:PS E H (t::l)):
 Fn PP fq137 #[.pointer (some ⟨E.p,0,none⟩),.string v] H fun r H'=>kfq r∧Ext [] H H':=by
 refine expectKeyWord.enter _ _ H _ ?_
 unfold expectKeyWord.W
 refine nbI fun H1 e1 hb1 x1 s1=>?_
 obtain⟨pe,t',st,en,r,hl,hp,_⟩:=ps.p
 cases hl
 have hp1:=x1.get _ _ hp (by simp)
 refine⟨(t.1,(st:Int),(en:Int),t.2),lcO hp1 rfl,?_⟩
 dsimp only
 refine nbI fun H2 e2 hb2 x2 s2=>?_
 refine swI hb2 (by simp) rfl rfl fun H3 e3 hb3 x3 s3=>?_
 have hb3':H3[H1.size]?=some (.cells #[.int .i64 t.1,.int .i64 (st:Int),.int .i64 (en:Int),.string t.2] tq85):=hb3
 have y3:Ext [] H1 H3:=by rw[e3];exact x2.setNew (Nat.le_refl _) _
 have x13:=x1.trans y3
 refine⟨(false,()),⟨t.1,lcO hb3' rfl,fkI (fun hk=>⟨t.2,lcO hb3' rfl,?_,rfl⟩) (fun _=>⟨rfl,rfl⟩)⟩,?_⟩
 ·rw[k0t,decide_eq_false (ht (by simpa using hk))]
 refine fkI (fun hh=>absurd hh (by decide)) (fun _=>?_)
 have hp3:=y3.get _ _ hp1 (by simp)
 refine⟨(t.1,(st:Int),(en:Int),t.2),lcO hb3' rfl,E.src,lcO hp3 rfl,(st:Int),lcO hb3' rfl,?_⟩
 refine(kfm (ps.ls.src.ext x13) (st:Int) _).mono ?_
 rintro _ H4 ⟨b,rfl,x4⟩
 have hb4:=x4.get _ _ hb3' (by simp)
 refine⟨b,rfl,lcO hb4 rfl,?_⟩
 have hb14:=x4.get _ _ (y3.get _ _ hb1 (by simp)) (by simp)
 refine swI hb14 (by simp) rfl rfl fun H5 e5 hb5 x5 s5=>?_
 refine⟨[.agg #[.int .i64 t.1,.int .i64 (st:Int),.int .i64 (en:Int),.string t.2],.iface tq328 (.pointer (some ⟨b,0,none⟩))],by rw[lcO hb5 rfl];rfl,⟨(t.1,(st:Int),(en:Int),t.2,b),rfl⟩,?_⟩
 rw[e5]
 exact(x13.trans x4).setNew (Nat.le_refl _) _
abbrev errV (b:Nat):Value:= .iface tq328 (.pointer (some ⟨b,0,none⟩))
def RefP (E:PEnv) (H:Heap) (v:Value) (H':Heap):Prop:= ∃b:Nat,v= .tuple #[nI,errV b]∧Ext E.S H H'∧ ∃l,PS E H' l
def kbQ (p:Nat) (w:BA) (H:Heap) (R:Value→Heap→Prop):Prop:=
 k01 H false 1 ⟨p,6,none⟩ (pInt .i64) fun(_:Int)=>
 k00 PP fq108 #[(.pointer (some ⟨p,0,none⟩))] H ⟨OA,fun x=>(.tuple #[(.pointer x),nI])⟩ fun(_:OA) H3=>
 k00 PP fq137 #[(.pointer (some ⟨p,0,none⟩)),(.string w)] H3 ⟨Int×Int×Int×BA×Nat,fun x=>(.tuple #[(.agg #[(.int .i64 x.1),(.int .i64 x.2.1),(.int .i64 x.2.2.1),(.string x.2.2.2.1)]),(.iface tq328 (.pointer (some ⟨x.2.2.2.2,0,none⟩)))])⟩ fun(x4:Int×Int×Int×BA×Nat) H5=>
 rk [nI,(.iface tq328 (.pointer (some ⟨x4.2.2.2.2,0,none⟩)))] H5 R
def keA (p:Nat) (w:BA) (H:Heap) (R:Value→Heap→Prop):Prop:=
 k01 H false 1 ⟨p,6,none⟩ (pInt .i64) fun(_:Int)=>
 k00 PP fq137 #[(.pointer (some ⟨p,0,none⟩)),(.string w)] H ⟨Int×Int×Int×BA×Nat,fun x=>(.tuple #[(.agg #[(.int .i64 x.1),(.int .i64 x.2.1),(.int .i64 x.2.2.1),(.string x.2.2.2.1)]),(.iface tq328 (.pointer (some ⟨x.2.2.2.2,0,none⟩)))])⟩ fun(x2:Int×Int×Int×BA×Nat) H3=>
 newB H3 (.cells #[(.int .i64 0),(.int .i64 0),(.int .i64 0),sE] tq85) fun b4 H5=>
 k08 H5 ⟨b4,0,none⟩ [(.int .i64 x2.1),(.int .i64 x2.2.1),(.int .i64 x2.2.2.1),(.string x2.2.2.2.1)] fun H6=>
 rk [nI,(.iface tq328 (.pointer (some ⟨x2.2.2.2.2,0,none⟩)))] H6 R
theorem k48 {E:PEnv} {de:List Tr} {h:KV} {r:List KV} (w:BA) (hde:InK [23] de) (h1:de.length≤1) (hf: ∀t∈de,Fine t) (hh:h.1≠18∧h.1≠19) (hno:h.1=15→h.2≠w) {H:Heap} (ps:PS E H (kvF de++h::r)):kbQ E.p w H (RefP E H):=by
 unfold kbQ
 obtain⟨w0,w1,hw0⟩:=k0P (kvF de) h r
 have ps':=ps
 rw[hw0] at ps'
 obtain⟨st,hst,_⟩:=ps'.start
 refine⟨_,hst,?_⟩
 refine(Cx.start ps).call (p:=opP) (k31 E de hde h1 hf h r hh) fun _ H1 _ c1=>?_
 refine(kbV E h r w hno H1 c1.ps).mono ?_
 rintro _ H2 ⟨⟨x,rfl⟩,x2⟩
 exact⟨x,rfl,rkI ⟨_,rfl,c1.ext.trans x2.of_nil,_,c1.ps.grow x2⟩⟩
theorem keB {E:PEnv} {h:KV} {r:List KV} (w:BA) (hno:h.1=15→h.2≠w) {H:Heap} (ps:PS E H (h::r)):keA E.p w H (RefP E H):=by
 unfold keA
 obtain⟨st,hst,_⟩:=ps.start
 refine⟨_,hst,?_⟩
 refine(kbV E h r w hno H ps).mono ?_
 rintro _ H2 ⟨⟨x,rfl⟩,x2⟩
 refine⟨x,rfl,?_⟩
 refine nbI fun H3 e3 hb3 x3 s3=>?_
 refine swI hb3 (by simp) rfl rfl fun H4 e4 hb4 x4 s4=>?_
 have y4:Ext [] H2 H4:=by rw[e4];exact x3.setNew (Nat.le_refl _) _
 exact rkI ⟨_,rfl,(x2.trans y4).of_nil,_,ps.grow (x2.trans y4)⟩
def k29 (E:PEnv) (H:Heap) (v:Value) (H':Heap):Prop:= ∃(x:Sl) (b:Nat),v= .tuple #[.slice x.1 x.2.1 x.2.2,errV b]∧Ext E.S H H'∧ ∃l,PS E H' l
theorem k3i {E:PEnv} {H:Heap} {f:FuncId} (hf:Fn PP f #[.pointer (some ⟨E.p,0,none⟩)] H (RefP E H)):
 k00 PP f #[(.pointer (some ⟨E.p,0,none⟩))] H ⟨Nat,fun x=>(.tuple #[nI,(.iface tq328 (.pointer (some ⟨x,0,none⟩)))])⟩ fun(x1:Nat) H2=>
  k00 PP fq87 #[nI,(.iface tq328 (.pointer (some ⟨x1,0,none⟩)))] H2 ⟨Sl×Nat,fun x=>(.tuple #[(.slice x.1.1 x.1.2.1 x.1.2.2),(.iface tq328 (.pointer (some ⟨x.2,0,none⟩)))])⟩ fun(x3:Sl×Nat) H4=>
  rk [(.slice x3.1.1 x3.1.2.1 x3.1.2.2),(.iface tq328 (.pointer (some ⟨x3.2,0,none⟩)))] H4 (k29 E H):=by
 refine hf.mono ?_
 rintro _ H1 ⟨b,rfl,x1,l,ps⟩
 refine⟨b,rfl,?_⟩
 refine k5n.enter b H1 _ ?_
 unfold k5n.W
 refine nbI fun H2 e2 hb2 x2 s2=>rkI ⟨((some ⟨H1.size,0,none⟩,1,1),b),rfl,?_⟩
 exact rkI ⟨(some ⟨H1.size,0,none⟩,1,1),b,rfl,x1.trans x2.of_nil,l,ps.grow x2⟩
theorem kjD {E:PEnv} {de:List Tr} {h:KV} {r:List KV} (hde:InK [23] de) (h1:de.length≤1) (hf: ∀t∈de,Fine t) (hh:h.1≠18∧h.1≠19) (hno:h.1=15→h.2≠k1f) {H:Heap} (ps:PS E H (kvF de++h::r)):Fn PP fq62 #[.pointer (some ⟨E.p,0,none⟩),.string k1f] H (k29 E H):=by
 refine k1u.enter _ _ H _ ?_
 unfold k1u.W
 repeat refine fkI (fun hh=>(k0N (by decide) hh).elim) (fun _=>?_)
 refine fkI (fun _=>?_) (fun hh=>(k0J hh).elim)
 exact k3i (k8b.enter _ H _ (k48 k1f hde h1 hf hh hno ps))
theorem kjF {E:PEnv} {de:List Tr} {h:KV} {r:List KV} (hde:InK [23] de) (h1:de.length≤1) (hf: ∀t∈de,Fine t) (hh:h.1≠18∧h.1≠19) (hno:h.1=15→h.2≠k2k) {H:Heap} (ps:PS E H (kvF de++h::r)):Fn PP fq62 #[.pointer (some ⟨E.p,0,none⟩),.string k2k] H (k29 E H):=by
 refine k1u.enter _ _ H _ ?_
 unfold k1u.W
 repeat refine fkI (fun hh=>(k0N (by decide) hh).elim) (fun _=>?_)
 refine fkI (fun _=>?_) (fun hh=>(k0J hh).elim)
 exact k3i (k8a.enter _ H _ (k48 k2k hde h1 hf hh hno ps))
theorem kjC {E:PEnv} {de:List Tr} {h:KV} {r:List KV} (hde:InK [23] de) (h1:de.length≤1) (hf: ∀t∈de,Fine t) (hh:h.1≠18∧h.1≠19) (hno:h.1=15→h.2≠k2j) {H:Heap} (ps:PS E H (kvF de++h::r)):Fn PP fq62 #[.pointer (some ⟨E.p,0,none⟩),.string k2j] H (k29 E H):=by
 refine k1u.enter _ _ H _ ?_
 unfold k1u.W
 repeat refine fkI (fun hh=>(k0N (by decide) hh).elim) (fun _=>?_)
 refine fkI (fun _=>?_) (fun hh=>(k0J hh).elim)
 exact k3i (k89.enter _ H _ (k48 k2j hde h1 hf hh hno ps))
theorem kjG {E:PEnv} {de:List Tr} {h:KV} {r:List KV} (hde:InK [23] de) (h1:de.length≤1) (hf: ∀t∈de,Fine t) (hh:h.1≠18∧h.1≠19) (hno:h.1=15→h.2≠k2l) {H:Heap} (ps:PS E H (kvF de++h::r)):Fn PP fq62 #[.pointer (some ⟨E.p,0,none⟩),.string k2l] H (k29 E H):=by
 refine k1u.enter _ _ H _ ?_
 unfold k1u.W
 repeat refine fkI (fun hh=>(k0N (by decide) hh).elim) (fun _=>?_)
 refine fkI (fun _=>?_) (fun hh=>(k0J hh).elim)
 exact k3i (k8e.enter _ H _ (k48 k2l hde h1 hf hh hno ps))
theorem kjz {E:PEnv} {de:List Tr} {h:KV} {r:List KV} (hde:InK [23] de) (h1:de.length≤1) (hf: ∀t∈de,Fine t) (hh:h.1≠18∧h.1≠19) (hno:h.1=15→h.2≠k2h) {H:Heap} (ps:PS E H (kvF de++h::r)):Fn PP fq62 #[.pointer (some ⟨E.p,0,none⟩),.string k2h] H (k29 E H):=by
 refine k1u.enter _ _ H _ ?_
 unfold k1u.W
 repeat refine fkI (fun hh=>(k0N (by decide) hh).elim) (fun _=>?_)
 refine fkI (fun _=>?_) (fun hh=>(k0J hh).elim)
 exact k3i (k87.enter _ H _ (k48 k2h hde h1 hf hh hno ps))
theorem kjB {E:PEnv} {de:List Tr} {h:KV} {r:List KV} (hde:InK [23] de) (h1:de.length≤1) (hf: ∀t∈de,Fine t) (hh:h.1≠18∧h.1≠19) (hno:h.1=15→h.2≠k2i) {H:Heap} (ps:PS E H (kvF de++h::r)):Fn PP fq62 #[.pointer (some ⟨E.p,0,none⟩),.string k2i] H (k29 E H):=by
 refine k1u.enter _ _ H _ ?_
 unfold k1u.W
 repeat refine fkI (fun hh=>(k0N (by decide) hh).elim) (fun _=>?_)
 refine fkI (fun _=>?_) (fun hh=>(k0J hh).elim)
 exact k3i (k88.enter _ H _ (k48 k2i hde h1 hf hh hno ps))
theorem kjy {E:PEnv} {de:List Tr} {h:KV} {r:List KV} (hde:InK [23] de) (h1:de.length≤1) (hf: ∀t∈de,Fine t) (hh:h.1≠18∧h.1≠19) (hno:h.1=15→h.2≠k3g) {H:Heap} (ps:PS E H (kvF de++h::r)):Fn PP fq62 #[.pointer (some ⟨E.p,0,none⟩),.string k6N] H (k29 E H):=by
 refine k1u.enter _ _ H _ ?_
 unfold k1u.W
 repeat refine fkI (fun hh=>(k0N (by decide) hh).elim) (fun _=>?_)
 refine fkI (fun _=>?_) (fun hh=>(k0J hh).elim)
 exact k3i (k86.enter _ H _ (k48 k3g hde h1 hf hh hno ps))
theorem kjE {E:PEnv} {h:KV} {r:List KV} (hno:h.1=15→h.2≠k2F) {H:Heap} (ps:PS E H (h::r)):Fn PP fq62 #[.pointer (some ⟨E.p,0,none⟩),.string k2F] H (k29 E H):=by
 refine k1u.enter _ _ H _ ?_
 unfold k1u.W
 repeat refine fkI (fun hh=>(k0N (by decide) hh).elim) (fun _=>?_)
 refine fkI (fun _=>?_) (fun hh=>(k0J hh).elim)
 exact k3i (k8c.enter _ H _ (keB k2F hno ps))
theorem kjA {E:PEnv} {h:KV} {r:List KV} (hno:h.1=15→h.2≠k2E) {H:Heap} (ps:PS E H (h::r)):Fn PP fq62 #[.pointer (some ⟨E.p,0,none⟩),.string k2E] H (k29 E H):=by
 refine k1u.enter _ _ H _ ?_
 unfold k1u.W
 repeat refine fkI (fun hh=>(k0N (by decide) hh).elim) (fun _=>?_)
 refine fkI (fun _=>?_) (fun hh=>(k0J hh).elim)
 exact k3i (k8d.enter _ H _ (keB k2E hno ps))
theorem kjq (nm:BA) (kind:Int) (text:BA) (hsm:text.size<268435456) (t:KV) (l:List KV) (hr: ∀S:Src,S.text=text→Rest S (t::l) 0) (hno: ∀(E:PEnv) (H:Heap),PS E H (t::l)→Fn PP fq62 #[.pointer (some ⟨E.p,0,none⟩),.string nm] H (k29 E H)) (H:Heap) (hT:TabsAt H.size H):
 Fn PP fq30 #[.string nm,.int .i64 kind,.string text] H fun v H'=>v= .tuple #[.slice none 0 0,.int .i64 0,.bool false]∧Ext [] H H':=by
 have key:Fn PP fq37 #[.string nm,.string text] H fun v H'=> ∃(x:Sl) (i:Int) (b:Nat),v= .tuple #[.slice x.1 x.2.1 x.2.2,.int .i64 i,errV b]∧Ext [] H H':=by
  refine k5m.enter nm text H _ ?_
  unfold k5m.W
  refine(kbp text hsm t l hr H hT).mono ?_
  rintro _ H1 ⟨E,rfl,hE,hps,x1,h1,h2⟩
  refine⟨E.p,rfl,?_⟩
  refine(hno E H1 hps).mono ?_
  rintro _ H2 ⟨x,b,rfl,x2,l2,ps2⟩
  refine⟨(x,b),rfl,?_⟩
  obtain⟨t2,r2,rfl⟩:=ps2.ne
  obtain⟨st,hst2,_⟩:=ps2.start
  refine⟨(st:Int),hst2,rkI ⟨x,(st:Int),b,rfl,?_⟩⟩
  refine⟨by have:=x1.size;have:=x2.size;omega,fun k o ho _=>x2.get _ _ (x1.get _ _ ho (by simp)) ?_⟩
  have:=k0l ho
  simp only[PEnv.S,List.mem_cons,List.not_mem_nil,or_false,not_or]
  omega
 refine k6B.enter nm kind text H _ ?_
 unfold k6B.W
 refine key.mono ?_
 rintro _ H2 ⟨x,i,b,rfl,x2⟩
 exact⟨(x,i,b),rfl,rkI ⟨rfl,x2⟩⟩
def kwOf (k:Int):BA:=if k=24 then k2F else if k=26 then k1f else if k=27 then k2k else if k=31 then k2j else if k=32 then k2l else if k=34 then k2h else if k=36 then k2i else if k=37 then k3g else if k=39 then k2E else k3h
def k90 (k:Int) (h:KV):Prop:=(k≠2→h=nmK (kwOf k))∧(k=2→h=kBL∨ ∃w,k2p w∧h=nmK w)
theorem kbO {t:Tr} (hf:Fine t) (hk:t.n.kind=2∨t.n.kind=3∨t.n.kind=24∨t.n.kind=26∨t.n.kind=27∨t.n.kind=31∨t.n.kind=32∨t.n.kind=34∨t.n.kind=36∨t.n.kind=37∨t.n.kind=39):
 ∃(de:List Tr) (h:KV) (r:List KV),kvs t=kvF de++h::r∧InK [23] de∧de.length≤1∧(∀d∈de,Fine d)∧k90 t.n.kind h∧((t.n.kind=2∨t.n.kind=3∨t.n.kind=24∨t.n.kind=39)→de=[]):=by
 have hkf:=k1A hf
 have hnil:InK [23] ([]:List Tr):=fun x hx=>by simp at hx
 rcases hk with hk|hk|hk|hk|hk|hk|hk|hk|hk|hk|hk
 ·rcases kad hf hk with⟨s,hfl,htx,hnm,hks,hs⟩|⟨vs,ds,s,hfl,hks,hvs,hds,hs⟩
  ·have hsf:=hf.kid (k:=s) (by rw[hks];simp)
   obtain⟨h1,h2⟩:=k57 hsf hs
   refine⟨[],kBL,s.ks.flatMap kvs++[kBR],?_,hnil,by simp,by simp,⟨fun h=>absurd hk h,fun _=> .inl rfl⟩,fun _=>rfl⟩
   rw[k9S hk hfl hks hs,k9V hs h1]
   simp[brK,h2,optK,kvF]
  ·exact⟨[],nmK t.n.text,_,by rw[k9R hk hfl hks hvs hds hs];rfl,hnil,by simp,by simp,⟨fun h=>absurd hk h,fun _=> .inr ⟨_,k7L hf.1.self.1.2 (by omega),rfl⟩⟩,fun _=>rfl⟩
 ·obtain⟨ds,s,h1,h2,h3⟩:=k4J hf (.inr hk)
  exact⟨[],nmK k3h,_,by rw[k9K hk h1 h2 h3];rfl,hnil,by simp,by simp,⟨fun _=>by rw[hk];rfl,fun h=>by omega⟩,fun _=>rfl⟩
 ·obtain⟨ds,os,h1,h2,h3,_⟩:=kaK hf hk
  exact⟨[],nmK k2F,_,by rw[k9U hk h1 h2 h3];rfl,hnil,by simp,by simp,⟨fun _=>by rw[hk];rfl,fun h=>by omega⟩,fun _=>rfl⟩
 ·obtain⟨de,ds,h1,h2,h3,h4⟩:=k6P hf (.inl hk)
  exact⟨de,nmK k1f,_,k9T hk h1 h2 h4,h2,h3,fun d hd=>hkf d (by rw[h1];simp[hd]),⟨fun _=>by rw[hk];rfl,fun h=>by omega⟩,fun h=>by omega⟩
 ·obtain⟨de,is,ds,fs,h1,h2,h3,h4,h5,h6,_⟩:=kab hf hk
  exact⟨de,nmK k2k,_,k9Q hk h1 h2 h4 h5 h6,h2,h3,fun d hd=>hkf d (by rw[h1];simp[hd]),⟨fun _=>by rw[hk];rfl,fun h=>by omega⟩,fun h=>by omega⟩
 ·obtain⟨de,ds,fs,h1,h2,h3,h4,h5,_⟩:=k9v hf hk
  exact⟨de,nmK k2j,_,k9N hk h1 h2 h4 h5,h2,h3,fun d hd=>hkf d (by rw[h1];simp[hd]),⟨fun _=>by rw[hk];rfl,fun h=>by omega⟩,fun h=>by omega⟩
 ·obtain⟨de,ds,ms,h1,h2,h3,h4,h5,_⟩:=kaW hf hk
  exact⟨de,nmK k2l,_,k9W hk h1 h2 h4 h5,h2,h3,fun d hd=>hkf d (by rw[h1];simp[hd]),⟨fun _=>by rw[hk];rfl,fun h=>by omega⟩,fun h=>by omega⟩
 ·obtain⟨de,ds,fs,h1,h2,h3,h4,h5,_⟩:=k9f hf hk
  exact⟨de,nmK k2h,_,k9F hk h1 h2 h4 h5,h2,h3,fun d hd=>hkf d (by rw[h1];simp[hd]),⟨fun _=>by rw[hk];rfl,fun h=>by omega⟩,fun h=>by omega⟩
 ·obtain⟨de,ds,fs,h1,h2,h3,h4,h5,_⟩:=k9t hf hk
  exact⟨de,nmK k2i,_,k9L hk h1 h2 h4 h5,h2,h3,fun d hd=>hkf d (by rw[h1];simp[hd]),⟨fun _=>by rw[hk];rfl,fun h=>by omega⟩,fun h=>by omega⟩
 ·obtain⟨de,ar,ls,h1,h2,h3,h4,h5,_⟩:=k9d hf hk
  exact⟨de,nmK k3g,_,k9E hk h1 h2 h4 h5,h2,h3,fun d hd=>hkf d (by rw[h1];simp[hd]),⟨fun _=>by rw[hk];rfl,fun h=>by omega⟩,fun h=>by omega⟩
 ·obtain⟨o,h1,h2⟩:=k9h hf hk
  exact⟨[],nmK k2E,_,by rw[k9H hk h1 h2];rfl,hnil,by simp,by simp,⟨fun _=>by rw[hk];rfl,fun h=>by omega⟩,fun _=>rfl⟩
def DefK (k:Int):Prop:=k=2∨k=3∨k=24∨k=26∨k=27∨k=31∨k=32∨k=34∨k=36∨k=37∨k=39
theorem kd1 {a b:BA} (h:(a.data.toList==b.data.toList)=false):a≠b:=by
 rintro rfl
 simp at h
theorem khq (s k:Int) (hs:s=24∨s=26∨s=27∨s=31∨s=32∨s=34∨s=36∨s=37∨s=39) (hk:DefK k) (hne:k≠s) (hk2:k≠2):kwOf k≠kwOf s:=by
 unfold DefK at hk
 rcases hk with rfl|rfl|rfl|rfl|rfl|rfl|rfl|rfl|rfl|rfl|rfl
 all_goals(rcases hs with rfl|rfl|rfl|rfl|rfl|rfl|rfl|rfl|rfl)
 all_goals first
  |exact absurd rfl hne
  |exact absurd rfl hk2
  |exact kd1 (by decide)
theorem kil (s:Int) (hs:s=24∨s=26∨s=27∨s=31∨s=32∨s=34∨s=36∨s=37∨s=39) {w:BA} (hw:k2p w):w≠kwOf s:=by
 rcases hw with rfl|rfl|rfl
 all_goals(rcases hs with rfl|rfl|rfl|rfl|rfl|rfl|rfl|rfl|rfl)
 all_goals exact kd1 (by decide)
theorem kgv {s k:Int} {h:KV} (hs:s=24∨s=26∨s=27∨s=31∨s=32∨s=34∨s=36∨s=37∨s=39) (hk:DefK k) (hne:k≠s) (hH:k90 k h):h.1=15→h.2≠kwOf s:=by
 intro h15
 by_cases h2:k=2
 ·rcases hH.2 h2 with rfl|⟨w,hw,rfl⟩
  ·exact absurd h15 (by decide)
  ·exact kil s hs hw
 ·rw[hH.1 h2]
  exact khq s k hs hk hne h2
theorem kgu {k:Int} {h:KV} (hH:k90 k h):h.1≠18∧h.1≠19:=by
 by_cases h2:k=2
 ·rcases hH.2 h2 with rfl|⟨w,_,rfl⟩
  ·exact⟨by decide,by decide⟩
  ·exact⟨by simp,by simp⟩
 ·rw[hH.1 h2];exact⟨by simp,by simp⟩
def k4t (s:Int):BA:=if s=37 then k6N else kwOf s
theorem kiX {t:Tr} (hf:Fine t) (hk:DefK t.n.kind) (s:Int) (hs:s=24∨s=26∨s=27∨s=31∨s=32∨s=34∨s=36∨s=37∨s=39) (hne:t.n.kind≠s) (E:PEnv) (u:KV) (r:List KV) (H:Heap) (ps:PS E H (kvs t++u::r)):
 Fn PP fq62 #[.pointer (some ⟨E.p,0,none⟩),.string (k4t s)] H (k29 E H):=by
 obtain⟨de,h,l,hkv,hde,h1,hdf,hH,_⟩:=kbO hf hk
 have hno:=kgv hs hk hne hH
 have hh:=kgu hH
 rw[hkv,List.append_assoc,List.cons_append] at ps
 have first: ∃h' l',kvF de++h::(l++u::r)=h'::l'∧(h'.1=15→h'.2≠kwOf s):=by
  rcases k27 h1 with rfl|⟨d,rfl⟩
  ·exact⟨h,_,rfl,hno⟩
  ·have hkd:=k0f hde d (by simp)
   refine⟨strK d.n,_,by simp[kvF,k3L hkd];rfl,fun h15=>?_⟩
   rcases k35 d.n with h|h<;>omega
 rcases hs with rfl|rfl|rfl|rfl|rfl|rfl|rfl|rfl|rfl
 ·obtain⟨h',l',he,hno'⟩:=first
  rw[he] at ps
  exact kjE hno' ps
 ·exact kjD hde h1 hdf hh hno ps
 ·exact kjF hde h1 hdf hh hno ps
 ·exact kjC hde h1 hdf hh hno ps
 ·exact kjG hde h1 hdf hh hno ps
 ·exact kjz hde h1 hdf hh hno ps
 ·exact kjB hde h1 hdf hh hno ps
 ·exact kjy hde h1 hdf hh hno ps
 ·obtain⟨h',l',he,hno'⟩:=first
  rw[he] at ps
  exact kjA hno' ps
end Go.Vx
