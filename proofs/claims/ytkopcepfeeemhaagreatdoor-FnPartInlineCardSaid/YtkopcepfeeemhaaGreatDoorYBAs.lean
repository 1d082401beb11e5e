/- A part of the proof of what the last text of this claim says: QT7, QV11, QV12. Conditions: none. -/
import Derived.Test.YtkopcepfeeemhaaGreatDoorYBAq
import Derived.Test.YtkopcepfeeemhaaGreatDoorYBAr
set_option maxRecDepth 10000
namespace Go.Vx
open Go Go.Proofs
def TakeS (x:Option Addr) (X:List Nd) (G:Heap):Prop:= ∀(H:Heap) (tk:Nat) (D:List Nd),TkAt G H tk D→D.length+X.length≤5000→
 Fn PP fq125 #[.pointer (some ⟨tk,0,none⟩),.pointer x] H (Took G tk H D X)
def TakeSel (T b:Nat) (X:List Nd) (G:Heap):Prop:= ∀(H:Heap) (tk:Nat) (D:List Nd),TkAt G H tk D→D.length+X.length≤5000→
 Fn PP fq73 #[.pointer (some ⟨tk,0,none⟩),.iface T (.pointer (some ⟨b,0,none⟩))] H (Took G tk H D X)
theorem Took.grow {G A H H':Heap} {tk:Nat} {D X:List Nd} {v:Value} (x:Ext [] A H) (h:Took G tk H D X v H'):Took G tk A D X v H':=h.pre x.kpT
theorem takeS_nil (G:Heap):TakeS none [] G:=by
 intro H tk D h _
 refine setNil0.enter tk H _ ?_
 unfold setNil0.W
 refine nbI fun H1 e1 hb1 x1 s1=>nbI fun H2 e2 hb2 x2 s2=>?_
 refine⟨(),lcO hb2 rfl,rkI ?_⟩
 exact Took.grow (x1.trans x2) (Took.zero (h.grow (x1.trans x2)))
def AliasAt (x:Option Addr) (s:ByteArray) (G:Heap):Prop:=x=none∧s=eB∨ ∃b,x=some ⟨b,0,none⟩∧NameAt b s G
def CondAt (x:Option Addr) (s:ByteArray) (G:Heap):Prop:=x=none∧s=eB∨ ∃b,x=some ⟨b,0,none⟩∧NamedAt b s G
theorem alias_ok {x:Option Addr} {s:ByteArray} {G H:Heap} (h:AliasAt x s G) (he:Ext [] G H):Fn PP fq69 #[.pointer x] H fun v H'=>v= .string s∧H=H':=by
 rcases h with⟨rfl,rfl⟩|⟨b,rfl,_,_,hb⟩
 ·exact text_nil H
 ·exact text_ok b s H (he.get _ _ hb (by simp))
theorem cond_ok {x:Option Addr} {s:ByteArray} {G H:Heap} (h:CondAt x s G) (he:Ext [] G H):Fn PP fq68 #[.pointer x] H fun v H'=>v= .string s∧H=H':=by
 rcases h with⟨rfl,rfl⟩|⟨b,rfl,_,nb,_,⟨_,_,hn⟩,hb⟩
 ·exact on_nil H
 ·exact on_ok b nb s H (he.get _ _ hb (by simp)) (he.get _ _ hn (by simp))
section
variable {G:Heap} {b lb nb:Nat} {t:Tr}
theorem takeS_set {x:Sl} {bs:List (Nat×Nat)} {k0:Value} (hl:LocAt lb G) (hb:G[b]?=some (.cells #[k0,.pointer (some ⟨lb,0,none⟩),.slice x.1 x.2.1 x.2.2] tq322)) (hs:SlAt x (bs.map ifV) G)
 (hv:All2 (fun x k=>TakeSel x.1 x.2 (flat k) G) bs t.ks) (hk:t.n.kind=5) (hn:t.n.name=eB) (hx:t.n.text=eB) (ha:t.n.alias=eB) (hw:Ws t):TakeS (some ⟨b,0,none⟩) (flat t) G:=by
 intro H tk D h hD
 obtain⟨a,n,c⟩:=x
 rw[flat_node,List.length_cons] at hD
 have hnl:n=t.ks.length:=by have:=hs.1;simp at this;rw[this,hv.len]
 have hks:t.ks.length≤(flatL t.ks).length:=flatL_len t.ks
 obtain⟨ls,le,lq,hl⟩:=hl
 refine setOf.enter tk b H _ ?_
 unfold setOf.W
 refine nbI fun H1 e1 hb1 x1 s1=>nbI fun H2 e2 hb2 x2 s2=>?_
 have x12:=x1.trans x2
 have h1:=x2.get _ _ hb1 (by simp)
 have t2:=h.grow x12
 have b2:=t2.ext.get _ _ hb (by simp)
 refine⟨_,lcO hb2 rfl,_,lcO h1 rfl,_,lcO hb2 rfl,_,lcO b2 rfl,?_⟩
 refine(putSet.enter tk lb ⟨5,eB,eB,eB,0,0⟩ H1.size H.size H2 _ (putG_ok fq184 t2 (by omega) lb hl ⟨5,eB,eB,eB,0,0⟩ H1.size H.size (P:=fun W=>Sames W (flatL t.ks)) fun H7 k7 t7=>?_)).mono ?_
 ·have q1:=k7.get _ _ _ _ h1 (by decide) (by decide) (by decide)
  have q3:=k7.get _ _ _ _ hb2 (by decide) (by decide) (by decide)
  have b7:=t7.ext.get _ _ hb (by simp)
  refine inSet.enter H1.size H.size H7 _ ?_
  unfold inSet.W
  refine⟨_,lcO q3 rfl,(a,n,c),lcO b7 rfl,?_⟩
  refine take_loop t.ks n hnl (by omega) (KpT.refl H7) t7 (fun k kt H8 Y next hi k8 hY t8 hnext=>?_) (fun H8 Y k8 hY t8=>rkI ⟨rfl,k8,Y,by rw[hY.len];omega,hY,by simpa using t8⟩) (fun k H8 next=>rfl)
  obtain⟨x,hxi,hxv⟩:=hv.get k kt hi
  have hL:=(hs.keep t8.ext).load (i:=k) (v:=ifV x) (by simp[hxi])
  have q18:=k8.get _ _ _ _ q1 (by decide) (by decide) (by decide)
  have hlen:=flatL_take_le t.ks (k+1)
  rw[flatL_take_succ t.ks k kt hi,List.length_append] at hlen
  refine⟨hL.1,_,hL.2,_,lcO q18 rfl,?_⟩
  refine(hxv H8 tk _ t8 ?_).mono ?_
  ·have:=hY.len
   simp only[List.length_append,List.length_cons,List.length_nil];omega
  intro v' H9 hT
  obtain rfl:=hT.unit
  obtain⟨_,k9,Z,hZ,t9⟩:=hT
  rw[wrap1 (k:=k) (by have:=(List.getElem?_eq_some_iff.1 hi).1;omega)]
  exact⟨(),rfl,hnext H9 Z (k8.trans k9) hZ t9⟩
 ·rintro _ H8 ⟨rfl,k8,W,hW,t8⟩
  exact⟨(),rfl,rkI ⟨rfl,x12.kpT.trans k8,_,same_node hw hW ⟨5,eB,eB,eB,0,0⟩ hk.symm hn.symm ha.symm hx.symm (by decide),t8⟩⟩
theorem takeSel_spread (hI:ItemAt fq126 tq128 7 2 b t G):TakeSel tq128 b (flat t) G:=fun H tk D h hD=>
 selectionFragmentSpread.enter tk b H _ (item_ok putSel2.enter (by unfold apartT;decide) (by decide) hI h hD)
theorem close_field {xr xs:Sl} {xt:Option Addr} {ar ds ss:List Tr} {k0 k1 k2 k3:Value}
 (hb:G[b]?=some (.cells #[k0,k1,k2,k3,.slice xr.1 xr.2.1 xr.2.2,.slice xs.1 xs.2.1 xs.2.2,.pointer xt] tq194))
 (hA:TakeL fq64 xr (flatL ar) G) (hs:TakeL fq65 xs (flatL ds) G) (hS:TakeS xt (flatL ss) G) (hks:t.ks=ar++(ds++ss)):CloseOk fq124 tq126 b (flatL t.ks) G:=by
 intro H tk c1 c2 D ht hD h1 h2
 rw[hks,flatL_append,flatL_append] at hD⊢
 simp only[List.length_append] at hD
 have bx:=ht.ext.get _ _ hb (by simp)
 refine inSel1.enter c1 c2 H _ ?_
 unfold inSel1.W
 refine⟨_,lcO h1 rfl,_,lcO h2 rfl,xr,lcO bx rfl,?_⟩
 refine(hA H tk D ht (by omega)).mono ?_
 rintro _ H5 ⟨rfl,k5,Y,hY,t5⟩
 have q1:=k5.get _ _ _ _ h1 (by decide) (by decide) (by decide)
 have q2:=k5.get _ _ _ _ h2 (by decide) (by decide) (by decide)
 have bx5:=t5.ext.get _ _ hb (by simp)
 have hYl:=hY.len
 refine⟨(),rfl,_,lcO q1 rfl,_,lcO q2 rfl,xs,lcO bx5 rfl,?_⟩
 refine(hs H5 tk _ t5 (by rw[List.length_append];omega)).mono ?_
 rintro _ H6 ⟨rfl,k6,Z,hZ,t6⟩
 have p1:=k6.get _ _ _ _ q1 (by decide) (by decide) (by decide)
 have p2:=k6.get _ _ _ _ q2 (by decide) (by decide) (by decide)
 have bx6:=t6.ext.get _ _ hb (by simp)
 have hZl:=hZ.len
 refine⟨(),rfl,_,lcO p1 rfl,_,lcO p2 rfl,_,lcO bx6 rfl,?_⟩
 refine(hS H6 tk _ t6 (by simp only[List.length_append];omega)).mono ?_
 intro v' H8 hT
 obtain rfl:=hT.unit
 exact⟨(),rfl,rkI (Took.seq k5 hY (Took.seq k6 hZ hT))⟩
theorem put_close {fcl:FuncId} {eT:TypeId} {H A:Heap} {tk c1 c2:Nat} {D:List Nd} (hput:PutOk fcl) (hE:apartT eT) (hclose:CloseOk fcl eT b (flatL t.ks) G) (h:TkAt G H tk D) (hA:KpT A H) (hD:D.length+(flat t).length≤5000) (hl:LocAt lb G) (x:Nd)
 (h1:H[c1]?=some (.cells #[.pointer (some ⟨tk,0,none⟩)] tq60)) (h2:H[c2]?=some (.cells #[.pointer (some ⟨b,0,none⟩)] eT)) (e1:x.kind=t.n.kind) (e2:x.name=t.n.name) (e3:x.alias=t.n.alias) (e4:x.text=t.n.text) (e5:x.kind≠15) (hw:Ws t)
 {K:Unit→Heap→Prop} (hk: ∀(H':Heap),H'[c2]?=some (.cells #[.pointer (some ⟨b,0,none⟩)] eT)→Took G tk A D (flat t) (.tuple #[]) H'→K () H'):
 callW PP fq67 #[.pointer (some ⟨tk,0,none⟩),.pointer (some ⟨lb,0,none⟩),.agg x.val,.func (.func fcl) #[] #[.pointer (some ⟨c1,0,none⟩),.pointer (some ⟨c2,0,none⟩)]] H ⟨Unit,fun _=>(.tuple #[])⟩ K:=by
 obtain⟨ls,le,lq,hl⟩:=hl
 have hfl:(flat t).length=1+(flatL t.ks).length:=by rw[flat_node];simp;omega
 refine(hput tk lb x c1 c2 H _ (putG_ok fcl h (by omega) lb hl x c1 c2 (P:=fun W=>Sames W (flatL t.ks)) fun H10 k10 t10=>?_)).mono ?_
 ·refine(hclose H10 tk c1 c2 _ t10 (by simp only[List.length_append,List.length_cons,List.length_nil];omega) (k10.get _ _ _ _ h1 (by decide) (by decide) (by decide)) (k10.get _ _ _ _ h2 hE.1 hE.2.1 hE.2.2)).mono ?_
  intro v' H11 hT
  exact hT.within (by omega)
 ·rintro _ H11 ⟨rfl,k11,W,hW,t11⟩
  exact⟨(),rfl,hk H11 (k11.get _ _ _ _ h2 hE.1 hE.2.1 hE.2.2) ⟨rfl,hA.trans k11,_,same_node hw hW x e1 e2 e3 e4 e5,t11⟩⟩
theorem takeSel_field {xa:Option Addr} {k0 k4 k5 k6:Value} (hl:LocAt lb G) (hn:NameAt nb t.n.name G) (hal:AliasAt xa t.n.alias G)
 (hb:G[b]?=some (.cells #[k0,.pointer (some ⟨lb,0,none⟩),.pointer xa,.pointer (some ⟨nb,0,none⟩),k4,k5,k6] tq194)) (hclose:CloseOk fq124 tq126 b (flatL t.ks) G)
 (hk:t.n.kind=6) (hx:t.n.text=eB) (hw:Ws t):TakeSel tq126 b (flat t) G:=by
 intro H tk D h hD
 obtain⟨lb3,_,hnm⟩:=hn
 refine selectionField.enter tk b H _ ?_
 unfold selectionField.W
 refine caps h b tq126 fun b1 b3 H5 x5 t5 h1 h3=>?_
 have bx:=t5.ext.get _ _ hb (by simp)
 refine⟨_,lcO h1 rfl,_,lcO h3 rfl,_,lcO bx rfl,_,lcO h3 rfl,_,lcO bx rfl,_,lcO h3 rfl,_,lcO bx rfl,?_⟩
 refine(text_ok nb t.n.name H5 (t5.ext.get _ _ hnm (by simp))).mono ?_
 rintro _ _ ⟨rfl,rfl⟩
 refine⟨_,rfl,lcO bx rfl,lcO h3 rfl,lcO bx rfl,lcO h3 rfl,lcO h1 rfl,?_⟩
 refine(alias_ok hal t5.ext).mono ?_
 rintro _ _ ⟨rfl,rfl⟩
 refine⟨_,rfl,lcO h3 rfl,lcO bx rfl,lcO h3 rfl,lcO h1 rfl,?_⟩
 refine put_close putSel1.enter (by unfold apartT;decide) hclose t5 x5.kpT hD hl ⟨6,t.n.name,t.n.alias,eB,0,0⟩ h1 h3 hk.symm rfl rfl hx.symm (by simp) hw fun H' h3' hT=>?_
 exact⟨lcO h3' rfl,lcO h3' rfl,rkI hT⟩
theorem close_inline {xs:Sl} {xt:Option Addr} {ds:List Tr} {s:Tr} {k0 k1 k2:Value}
 (hb:G[b]?=some (.cells #[k0,k1,k2,.slice xs.1 xs.2.1 xs.2.2,.pointer xt] tq199))
 (hs:TakeL fq65 xs (flatL ds) G) (hS:TakeS xt (flat s) G) (hks:t.ks=ds++[s]):CloseOk fq127 tq129 b (flatL t.ks) G:=by
 intro H tk c1 c2 D ht hD h1 h2
 have e:flatL t.ks=flatL ds++flat s:=by rw[hks,flatL_append];simp[flatL]
 rw[e] at hD⊢
 simp only[List.length_append] at hD
 have bx:=ht.ext.get _ _ hb (by simp)
 refine inSel3.enter c1 c2 H _ ?_
 unfold inSel3.W
 refine⟨_,lcO h1 rfl,_,lcO h2 rfl,xs,lcO bx rfl,?_⟩
 refine(hs H tk D ht (by omega)).mono ?_
 rintro _ H6 ⟨rfl,k6,Z,hZ,t6⟩
 have p1:=k6.get _ _ _ _ h1 (by decide) (by decide) (by decide)
 have p2:=k6.get _ _ _ _ h2 (by decide) (by decide) (by decide)
 have bx6:=t6.ext.get _ _ hb (by simp)
 have hZl:=hZ.len
 refine⟨(),rfl,_,lcO p1 rfl,_,lcO p2 rfl,_,lcO bx6 rfl,?_⟩
 refine(hS H6 tk _ t6 (by simp only[List.length_append];omega)).mono ?_
 intro v' H8 hT
 obtain rfl:=hT.unit
 exact⟨(),rfl,rkI (Took.seq k6 hZ hT)⟩
theorem takeSel_inline {xc:Option Addr} {k0 k3 k4:Value} (hl:LocAt lb G) (hc:CondAt xc t.n.text G)
 (hb:G[b]?=some (.cells #[k0,.pointer (some ⟨lb,0,none⟩),.pointer xc,k3,k4] tq199)) (hclose:CloseOk fq127 tq129 b (flatL t.ks) G)
 (hk:t.n.kind=8) (hn:t.n.name=eB) (ha:t.n.alias=eB) (hw:Ws t):TakeSel tq129 b (flat t) G:=by
 intro H tk D h hD
 refine selectionInlineFragment.enter tk b H _ ?_
 unfold selectionInlineFragment.W
 refine caps h b tq129 fun b1 b3 H5 x5 t5 h1 h3=>?_
 have bx:=t5.ext.get _ _ hb (by simp)
 refine⟨_,lcO h1 rfl,_,lcO h3 rfl,_,lcO bx rfl,_,lcO h3 rfl,_,lcO bx rfl,?_⟩
 refine(cond_ok hc t5.ext).mono ?_
 rintro _ _ ⟨rfl,rfl⟩
 refine⟨_,rfl,lcO bx rfl,lcO h3 rfl,lcO h1 rfl,?_⟩
 refine put_close putSel3.enter (by unfold apartT;decide) hclose t5 x5.kpT hD hl ⟨8,eB,eB,t.n.text,0,0⟩ h1 h3 hk.symm hn.symm ha.symm rfl (by simp) hw fun H' h3' hT=>?_
 exact⟨lcO h3' rfl,rkI hT⟩
theorem close_op {xv xs:Sl} {xt:Option Addr} {vs ds:List Tr} {s:Tr} {k0 k1 k2 k3:Value}
 (hb:G[b]?=some (.cells #[k0,k1,k2,k3,.slice xv.1 xv.2.1 xv.2.2,.slice xs.1 xs.2.1 xs.2.2,.pointer xt] tq202))
 (hA:TakeL fq63 xv (flatL vs) G) (hs:TakeL fq65 xs (flatL ds) G) (hS:TakeS xt (flat s) G) (hks:t.ks=vs++(ds++[s])):CloseOk fq128 tq200 b (flatL t.ks) G:=by
 intro H tk c1 c2 D ht hD h1 h2
 have e:flatL t.ks=flatL vs++(flatL ds++flat s):=by rw[hks,flatL_append,flatL_append];simp[flatL]
 rw[e] at hD⊢
 simp only[List.length_append] at hD
 have bx:=ht.ext.get _ _ hb (by simp)
 refine inDef1.enter c1 c2 H _ ?_
 unfold inDef1.W
 refine⟨_,lcO h1 rfl,_,lcO h2 rfl,xv,lcO bx rfl,?_⟩
 refine(hA H tk D ht (by omega)).mono ?_
 rintro _ H5 ⟨rfl,k5,Y,hY,t5⟩
 have q1:=k5.get _ _ _ _ h1 (by decide) (by decide) (by decide)
 have q2:=k5.get _ _ _ _ h2 (by decide) (by decide) (by decide)
 have bx5:=t5.ext.get _ _ hb (by simp)
 have hYl:=hY.len
 refine⟨(),rfl,_,lcO q1 rfl,_,lcO q2 rfl,xs,lcO bx5 rfl,?_⟩
 refine(hs H5 tk _ t5 (by rw[List.length_append];omega)).mono ?_
 rintro _ H6 ⟨rfl,k6,Z,hZ,t6⟩
 have p1:=k6.get _ _ _ _ q1 (by decide) (by decide) (by decide)
 have p2:=k6.get _ _ _ _ q2 (by decide) (by decide) (by decide)
 have bx6:=t6.ext.get _ _ hb (by simp)
 have hZl:=hZ.len
 refine⟨(),rfl,_,lcO p1 rfl,_,lcO p2 rfl,_,lcO bx6 rfl,?_⟩
 refine(hS H6 tk _ t6 (by simp only[List.length_append];omega)).mono ?_
 intro v' H8 hT
 obtain rfl:=hT.unit
 exact⟨(),rfl,rkI (Took.seq k5 hY (Took.seq k6 hZ hT))⟩
theorem take_op (kind:Int) {xa:Option Addr} {k0 k4 k5 k6:Value} (hf:Fine t) (hl:LocAt lb G) (hn:AliasAt xa t.n.name G)
 (hb:G[b]?=some (.cells #[k0,.pointer (some ⟨lb,0,none⟩),.string t.n.text,.pointer xa,k4,k5,k6] tq202)) (hclose:CloseOk fq128 tq200 b (flatL t.ks) G)
 (hk:t.n.kind=2):TakeOk kind tq200 b (flat t) G:=by
 intro H tk D ht hD
 have ha:=formed_alias hf.1.self.1 (by omega)
 refine tpartOperationDefinition.enter tk b kind H _ ?_
 unfold tpartOperationDefinition.W
 refine nbI fun H2 e2 hb2 x2 s2=>?_
 refine⟨fun w=>by kernel_rfl,?_⟩
 have t2:=ht.grow x2
 refine⟨_,lcO hb2 rfl,definitionOperationDefinition.enter tk b H2 _ ?_⟩
 unfold definitionOperationDefinition.W
 refine caps t2 b tq200 fun b1 b3 H5 x5 t5 h1 h3=>?_
 have bx:=t5.ext.get _ _ hb (by simp)
 refine⟨_,lcO h1 rfl,_,lcO h3 rfl,_,lcO bx rfl,_,lcO h3 rfl,_,lcO bx rfl,_,lcO h3 rfl,_,lcO bx rfl,?_⟩
 refine(alias_ok hn t5.ext).mono ?_
 rintro _ _ ⟨rfl,rfl⟩
 refine⟨_,rfl,lcO bx rfl,lcO h3 rfl,lcO bx rfl,lcO h3 rfl,lcO h1 rfl,?_⟩
 refine put_close putDef1.enter (by unfold apartT;decide) hclose t5 x5.kpT (fine_take hf.2.2 hD) hl ⟨2,t.n.name,eB,t.n.text,0,0⟩ h1 h3 hk.symm rfl ha.symm rfl (by simp) hf.2.1 fun H' h3' hT=>?_
 exact⟨lcO h3' rfl,lcO h3' rfl,rkI ⟨(),rfl,rkI ⟨rfl,hT.2.2⟩⟩⟩
theorem close_frag {xs:Sl} {xt:Option Addr} {ds:List Tr} {s:Tr} {k0 k1 k2 k3 k4 k5:Value}
 (hb:G[b]?=some (.cells #[k0,k1,k2,k3,k4,k5,.slice xs.1 xs.2.1 xs.2.2,.pointer xt] tq205))
 (hs:TakeL fq65 xs (flatL ds) G) (hS:TakeS xt (flat s) G) (hks:t.ks=ds++[s]):CloseOk fq129 tq203 b (flatL t.ks) G:=by
 intro H tk c1 c2 D ht hD h1 h2
 have e:flatL t.ks=flatL ds++flat s:=by rw[hks,flatL_append];simp[flatL]
 rw[e] at hD⊢
 simp only[List.length_append] at hD
 have bx:=ht.ext.get _ _ hb (by simp)
 refine inDef2.enter c1 c2 H _ ?_
 unfold inDef2.W
 refine⟨_,lcO h1 rfl,_,lcO h2 rfl,xs,lcO bx rfl,?_⟩
 refine(hs H tk D ht (by omega)).mono ?_
 rintro _ H6 ⟨rfl,k6,Z,hZ,t6⟩
 have p1:=k6.get _ _ _ _ h1 (by decide) (by decide) (by decide)
 have p2:=k6.get _ _ _ _ h2 (by decide) (by decide) (by decide)
 have bx6:=t6.ext.get _ _ hb (by simp)
 have hZl:=hZ.len
 refine⟨(),rfl,_,lcO p1 rfl,_,lcO p2 rfl,_,lcO bx6 rfl,?_⟩
 refine(hS H6 tk _ t6 (by simp only[List.length_append];omega)).mono ?_
 intro v' H8 hT
 obtain rfl:=hT.unit
 exact⟨(),rfl,rkI (Took.seq k6 hZ hT)⟩
theorem take_frag (kind:Int) {xc:Option Addr} {k0 k2 k4 k6 k7:Value} (hf:Fine t) (hl:LocAt lb G) (hn:NameAt nb t.n.name G) (hc:CondAt xc t.n.text G)
 (hb:G[b]?=some (.cells #[k0,.pointer (some ⟨lb,0,none⟩),k2,.pointer (some ⟨nb,0,none⟩),k4,.pointer xc,k6,k7] tq205)) (hclose:CloseOk fq129 tq203 b (flatL t.ks) G)
 (hk:t.n.kind=3):TakeOk kind tq203 b (flat t) G:=by
 intro H tk D ht hD
 have ha:=formed_alias hf.1.self.1 (by omega)
 obtain⟨lb3,_,hnm⟩:=hn
 refine tpartFragmentDefinition.enter tk b kind H _ ?_
 unfold tpartFragmentDefinition.W
 refine nbI fun H2 e2 hb2 x2 s2=>?_
 refine⟨fun w=>by kernel_rfl,?_⟩
 have t2:=ht.grow x2
 refine⟨_,lcO hb2 rfl,definitionFragmentDefinition.enter tk b H2 _ ?_⟩
 unfold definitionFragmentDefinition.W
 refine caps t2 b tq203 fun b1 b3 H5 x5 t5 h1 h3=>?_
 have bx:=t5.ext.get _ _ hb (by simp)
 refine⟨_,lcO h1 rfl,_,lcO h3 rfl,_,lcO bx rfl,_,lcO h3 rfl,_,lcO bx rfl,_,lcO h3 rfl,_,lcO bx rfl,?_⟩
 refine(text_ok nb t.n.name H5 (t5.ext.get _ _ hnm (by simp))).mono ?_
 rintro _ _ ⟨rfl,rfl⟩
 refine⟨_,rfl,lcO bx rfl,lcO h3 rfl,lcO bx rfl,lcO h3 rfl,lcO h1 rfl,?_⟩
 refine(cond_ok hc t5.ext).mono ?_
 rintro _ _ ⟨rfl,rfl⟩
 refine⟨_,rfl,lcO h3 rfl,lcO bx rfl,lcO h3 rfl,lcO h1 rfl,?_⟩
 refine put_close putDef2.enter (by unfold apartT;decide) hclose t5 x5.kpT (fine_take hf.2.2 hD) hl ⟨3,t.n.name,eB,t.n.text,0,0⟩ h1 h3 hk.symm rfl ha.symm rfl (by simp) hf.2.1 fun H' h3' hT=>?_
 exact⟨lcO h3' rfl,lcO h3' rfl,rkI ⟨(),rfl,rkI ⟨rfl,hT.2.2⟩⟩⟩
theorem take_selpart (kind:Int) {T:Nat} (hf:Fine t) (h:TakeSel T b (flat t) G) (hT:T=tq126∨T=tq129∨T=tq128):TakeOk kind T b (flat t) G:=by
 intro H tk D ht hD
 rcases hT with rfl|rfl|rfl
 ·refine tpartField.enter tk b kind H _ ?_
  unfold tpartField.W
  refine nbI fun H2 e2 hb2 x2 s2=>⟨_,lcO hb2 rfl,(h H2 tk D (ht.grow x2) (fine_take hf.2.2 hD)).mono ?_⟩
  rintro v H4 ⟨rfl,k4,hT⟩
  exact⟨(),rfl,rkI ⟨rfl,hT⟩⟩
 ·refine tpartInlineFragment.enter tk b kind H _ ?_
  unfold tpartInlineFragment.W
  refine nbI fun H2 e2 hb2 x2 s2=>⟨_,lcO hb2 rfl,(h H2 tk D (ht.grow x2) (fine_take hf.2.2 hD)).mono ?_⟩
  rintro v H4 ⟨rfl,k4,hT⟩
  exact⟨(),rfl,rkI ⟨rfl,hT⟩⟩
 ·refine tpartFragmentSpread.enter tk b kind H _ ?_
  unfold tpartFragmentSpread.W
  refine nbI fun H2 e2 hb2 x2 s2=>⟨_,lcO hb2 rfl,(h H2 tk D (ht.grow x2) (fine_take hf.2.2 hD)).mono ?_⟩
  rintro v H4 ⟨rfl,k4,hT⟩
  exact⟨(),rfl,rkI ⟨rfl,hT⟩⟩
end
theorem selK_ne {a K:Int} {l:List Tr} (h:InK [a] l) (hne:a≠K):selK [K] (kvL l)=[]:=selK_no fun x hx=>by rw[kind_of_in h x hx];simpa using hne
def SelT (T:Nat):Prop:=T=tq126∨T=tq129∨T=tq128
theorem selT_as (x:Nat×Nat) (h:SelT x.1): ∀w,(Instr.typeAssert (ifV x) tq20 tq191 false).run PP w= .ok (asV (ifV x) false) w:=by
 obtain⟨T,b⟩:=x
 rcases h with rfl|rfl|rfl
 all_goals
  intro w
  kernel_rfl
theorem plain_Selection:plainT tq191:=by unfold plainT;decide
def SelQ (x:Nat×Nat) (t:Tr) (G:Heap):Prop:=TakeSel x.1 x.2 (flat t) G∧SelT x.1
def NoF (u:KV):Prop:=u.1≠4∧u.1≠9∧u.1≠7∧u.1≠12
def PSel (E:PEnv) (t:Tr):Prop:= ∀(u:KV) (r:List KV),NoF u→POk E fq207 #[.pointer (some ⟨E.p,0,none⟩)] (kvs t++u::r) (u::r) N2v fun x G=>SelQ x t G
def PSet (E:PEnv) (t:Tr):Prop:= ∀(u:KV) (r:List KV),POk E fq165 #[.pointer (some ⟨E.p,0,none⟩)] (kvs t++u::r) (u::r) P1v fun b G=>TakeS (some ⟨b,0,none⟩) (flat t) G
theorem set_parts {t:Tr} (hf:Fine t) (hk:t.n.kind=5):InK [6,7,8] t.ks∧t.ks≠ []:=by
 cases hf.1.self.2 with
 |selections _ h1 h2=>exact⟨h1,List.length_pos_iff.1 h2⟩
 |_=>omega
theorem kvs_set {t:Tr} (hk:t.n.kind=5) (hK:InK [6,7,8] t.ks):kvs t=brK (some kBL) (some kBR) t.ks:=by
 rw[kvs_eq];simp only[bodyK,hk];simp[kidsK_sel (selK_all hK (K:=[6,7,8]) (by simp))]
theorem kvs_set_app {t:Tr} (hf:Fine t) (hk:t.n.kind=5) (u:KV) (r:List KV):kvs t++u::r=kBL::(t.ks.flatMap kvs++kBR::u::r):=by
 obtain⟨h1,h2⟩:=set_parts hf hk
 rw[kvs_set hk h1,brK_some h2]
theorem field_kids {t:Tr} (hf:Fine t) (hk:t.n.kind=6): ∃ar ds ss:List Tr,t.ks=ar++(ds++ss)∧InK [9] ar∧InK [10] ds∧InK [5] ss∧ss.length≤1:=by
 cases hf.1.self.2 with
 |field ar ds ss _ h1 h2 h3 h4 h5=>exact⟨ar,ds,ss,h1,h2,h3,h4,h5⟩
 |_=>omega
theorem kvs_fld {t:Tr} {ar ds ss:List Tr} (hk:t.n.kind=6) (hks:t.ks=ar++(ds++ss)) (har:InK [9] ar) (hds:InK [10] ds) (hss:InK [5] ss):
 kvs t=(if t.n.alias=eB then[] else[nmK t.n.alias,kCol])++(nmK t.n.name::(brK (some kPL) (some kPR) ar++(kvF ds++kvF ss))):=by
 have e1:kidsK (some kPL) (some kPR) none [9] (kvL (ar++(ds++ss)))=brK (some kPL) (some kPR) ar:=
  kidsK_sel (l:=ar) (by rw[selK_app,selK_app,selK_ne hds (by decide),selK_ne hss (by decide),selK_all har (by simp),List.nil_append,List.append_nil])
 have e2:dirsK (kvL (ar++(ds++ss)))=kvF ds:=by
  unfold dirsK
  rw[kidsK_sel (l:=ds) (by rw[selK_app,selK_app,selK_ne har (by decide),selK_ne hss (by decide),selK_all hds (by simp),List.nil_append,List.append_nil]),brK_none]
 have e3:selsK (kvL (ar++(ds++ss)))=kvF ss:=by
  unfold selsK
  rw[kidsK_sel (l:=ss) (by rw[selK_app,selK_app,selK_ne har (by decide),selK_ne hds (by decide),selK_all hss (by simp),List.nil_append,List.nil_append]),brK_none]
 rw[kvs_eq,hks];simp[bodyK,hk,e1,e2,e3]
theorem dset {ds:List Tr} {s:Tr} (hds:InK [10] ds) (hs:s.n.kind=5):dirsK (kvL (ds++[s]))=kvF ds∧selsK (kvL (ds++[s]))=kvs s:=by
 have hss:InK [5] [s]:=fun x hx=>by simp at hx;subst hx;simpa using hs
 constructor
 ·unfold dirsK
  rw[kidsK_sel (l:=ds) (by rw[selK_app,selK_ne hss (by decide),selK_all hds (by simp),List.append_nil]),brK_none]
 ·unfold selsK
  rw[kidsK_sel (l:=[s]) (by rw[selK_app,selK_ne hds (by decide),selK_all hss (by simp),List.nil_append]),brK_none]
  simp[kvF]
theorem inline_kids {t:Tr} (hf:Fine t) (hk:t.n.kind=8∨t.n.kind=3): ∃(ds:List Tr) (s:Tr),t.ks=ds++[s]∧InK [10] ds∧s.n.kind=5:=by
 cases hf.1.self.2 with
 |fragment ds s _ h1 h2 h3=>exact⟨ds,s,h1,h2,h3⟩
 |_=>omega
theorem kvs_inline {t s:Tr} {ds:List Tr} (hk:t.n.kind=8) (hks:t.ks=ds++[s]) (hds:InK [10] ds) (hs:s.n.kind=5):
 kvs t=kDots::((if t.n.text=eB then[] else[nmK onB,nmK t.n.text])++(kvF ds++kvs s)):=by
 obtain⟨e2,e3⟩:=dset hds hs
 rw[kvs_eq,hks];simp[bodyK,hk,e2,e3]
theorem kvs_frag {t s:Tr} {ds:List Tr} (hk:t.n.kind=3) (hks:t.ks=ds++[s]) (hds:InK [10] ds) (hs:s.n.kind=5):
 kvs t=nmK wFragment::nmK t.n.name::nmK onB::nmK t.n.text::(kvF ds++kvs s):=by
 obtain⟨e2,e3⟩:=dset hds hs
 rw[kvs_eq,hks];simp[bodyK,hk,e2,e3]
theorem sel_head {t:Tr} (hf:Fine t) (hk:t.n.kind=6∨t.n.kind=7∨t.n.kind=8): ∃h r,kvs t=h::r∧NoF h∧h.1≠14:=by
 rcases hk with hk|hk|hk
 ·obtain⟨ar,ds,ss,h1,h2,h3,h4,_⟩:=field_kids hf hk
  rw[kvs_fld hk h1 h2 h3 h4]
  by_cases ha:t.n.alias=eB
  ·rw[if_pos ha];exact⟨nmK t.n.name,_,rfl,⟨by simp,by simp,by simp,by simp⟩,by simp⟩
  ·rw[if_neg ha];exact⟨nmK t.n.alias,_,rfl,⟨by simp,by simp,by simp,by simp⟩,by simp⟩
 ·rw[kvs_spread hk (spread_name hf hk).2];exact⟨kDots,_,rfl,⟨by decide,by decide,by decide,by decide⟩,by decide⟩
 ·obtain⟨ds,s,h1,h2,h3⟩:=inline_kids hf (.inl hk)
  rw[kvs_inline hk h1 h2 h3];exact⟨kDots,_,rfl,⟨by decide,by decide,by decide,by decide⟩,by decide⟩
theorem parseSet_ok (E:PEnv) (t:Tr) (hk:t.n.kind=5) (hf:Fine t) (hsel: ∀k∈t.ks,PSel E k):PSet E t:=by
 intro u r H ps
 obtain⟨hK,hne⟩:=set_parts hf hk
 have hfew:=hf.few
 obtain⟨hn1,hn2⟩:=body_empty hf.1.self.1.2 (n:=t.n) (by omega)
 have hal:=formed_alias hf.1.self.1 (by omega)
 rw[kvs_set_app hf hk] at ps
 refine parseSelectionSet.enter _ H _ ?_
 unfold parseSelectionSet.W
 obtain⟨st,hst,_⟩:=ps.start
 refine⟨_,hst,?_⟩
 refine nbI fun H1 e1 hb1 x1 s1=>?_
 refine(reverseSel.enter _ _ _ _ _ _ (reverse_ok fq207 E 12 14 true kvs SelQ NoF t.ks (by omega) (fun _=>hne) (fun k hkm u' r' hu'=>hsel k hkm u' r' hu') (fun k hkm=>sel_head (hf.kid hkm) (by simpa using hK k hkm)) ⟨by decide,by decide,by decide,by decide⟩ u r H1 (ps.grow x1))).mono ?_
 rintro _ H2 ⟨x,bs,rfl,c2⟩
 refine⟨x,rfl,?_⟩
 have hV:=c2.self.2.left (P:=fun b=>SelT b.1) fun _ _ h=>h.2
 have hbl:=c2.self.2.len
 have hb2:=c2.ext.get _ _ hb1 (by have:=ps.lt;simp only[PEnv.S,List.mem_cons,List.not_mem_nil,or_false,not_or];omega)
 refine conv_loopI tq191 tq191 SelT plain_Selection selT_as E hV c2 (by omega) x1.of_nil ps.lt (Ext.refl _ _) hb2 (Nat.le_refl _) (.inl (by omega))
  (K:=fun y H'=>callW PP fq141 #[(.pointer (some ⟨E.p,0,none⟩)),(.int .i64 (st:Int))] H' pBlk fun(x15:Nat) H16=>
    newB H16 (.cells #[(.string (Go.Vx.bs [])),(.pointer (some ⟨x15,0,none⟩)),(.slice y.1 y.2.1 y.2.2)] tq322) fun b17 H18=>
    callW PP fq208 #[(.pointer (some ⟨b17,0,none⟩))] H18 pBlk fun(x19:Nat) H20=>
    retK (some [(.pointer (some ⟨x19,0,none⟩)),.nilIface]) H20 _) fun y H3 c3=>?_
 refine c3.call (loc_ok E _ _) fun lb H4 _ c4=>?_
 refine c4.node (NewSelectionSet_mk _ _ _ _) fun b H5 _ c5=>?_
 refine rkI ⟨b,rfl,c5.weak fun G hG=>?_⟩
 obtain⟨⟨⟨hsl,hall⟩,hl⟩,hbG⟩:=hG
 exact takeS_set hl hbG hsl (hall.imp fun _ _ h=>h.1) hk hn1 hn2 hal hf.2.1
def fieldTail (p:Nat) (x1:Int) (xa:Option Addr) (nb:Nat) (H5:Heap) (R:Value→Heap→Prop):Prop:=
 callW PP fq173 #[(.pointer (some ⟨p,0,none⟩))] H5 ⟨Sl,fun x=>(.tuple #[(.slice x.1 x.2.1 x.2.2),.nilIface])⟩ fun(x28:Sl) H29=>
  callW PP fq138 #[(.pointer (some ⟨p,0,none⟩))] H29 ⟨Sl,fun x=>(.tuple #[(.slice x.1 x.2.1 x.2.2),.nilIface])⟩ fun(x30:Sl) H31=>
  callW PP fq153 #[(.pointer (some ⟨p,0,none⟩)),(.int .i64 12)] H31 pBool fun(x32:Bool) H33=>
  forkB x32
  (callW PP fq165 #[(.pointer (some ⟨p,0,none⟩))] H33 ⟨Nat,fun x=>(.tuple #[(.pointer (some ⟨x,0,none⟩)),.nilIface])⟩ fun(x34:Nat) H35=>
    callW PP fq141 #[(.pointer (some ⟨p,0,none⟩)),(.int .i64 x1)] H35 pBlk fun(x36:Nat) H37=>
    newB H37 (.cells #[(.string (bs [])),(.pointer (some ⟨x36,0,none⟩)),(.pointer xa),(.pointer (some ⟨nb,0,none⟩)),(.slice x28.1 x28.2.1 x28.2.2),(.slice x30.1 x30.2.1 x30.2.2),(.pointer (some ⟨x34,0,none⟩))] tq194) fun b38 H39=>
    callW PP fq174 #[(.pointer (some ⟨b38,0,none⟩))] H39 pBlk fun(x40:Nat) H41=>
    retK (some [(.pointer (some ⟨x40,0,none⟩)),.nilIface]) H41 R)
  (callW PP fq141 #[(.pointer (some ⟨p,0,none⟩)),(.int .i64 x1)] H33 pBlk fun(x42:Nat) H43=>
    newB H43 (.cells #[(.string (bs [])),(.pointer (some ⟨x42,0,none⟩)),(.pointer xa),(.pointer (some ⟨nb,0,none⟩)),(.slice x28.1 x28.2.1 x28.2.2),(.slice x30.1 x30.2.1 x30.2.2),(.pointer none)] tq194) fun b44 H45=>
    callW PP fq174 #[(.pointer (some ⟨b44,0,none⟩))] H45 pBlk fun(x46:Nat) H47=>
    retK (some [(.pointer (some ⟨x46,0,none⟩)),.nilIface]) H47 R)
theorem fieldTail_ok {E:PEnv} {t:Tr} {ar ds ss:List Tr} (hk:t.n.kind=6) (hf:Fine t) (hks:t.ks=ar++(ds++ss)) (har:InK [9] ar) (hds:InK [10] ds) (hss:InK [5] ss) (h1:ss.length≤1) (hset: ∀s∈ss,PSet E s) {u:KV} {r:List KV} (hu:NoF u)
 {A H:Heap} {F:Heap→Prop} {xa:Option Addr} {nb:Nat} {x1:Int} (c:Cx E A H (brK (some kPL) (some kPR) ar++(kvF ds++(kvF ss++u::r))) F) (hF: ∀G,F G→NameAt nb t.n.name G∧AliasAt xa t.n.alias G):
 fieldTail E.p x1 xa nb H fun v H'=> ∃b,v=P1v b∧Cx E A H' (u::r) fun G=>TakeSel tq126 b (flat t) G:=by
 have hkf:=kids_fine hf
 have hlen:=hf.few
 rw[hks] at hkf hlen
 simp only[List.length_append] at hlen
 have hdf: ∀m∈ds,Fine m:=fun m hm=>hkf m (by simp[hm])
 have htx:=body_notext hf.1.self.1.2 (n:=t.n) (by omega)
 obtain⟨s1,s2,hs12,hs1⟩: ∃s1 s2,kvF ss++u::r=s1::s2∧s1.1≠4∧s1.1≠9:=by
  rcases one_or_none h1 with rfl|⟨s,rfl⟩
  ·exact⟨u,r,rfl,hu.1,hu.2.1⟩
  ·have e:kvF [s]=kvs s:=by simp[kvF]
   rw[e,kvs_set_app (hkf s (by simp)) (kind_of_in hss s (by simp))]
   exact⟨kBL,_,rfl,by decide,by decide⟩
 rw[hs12] at c
 obtain⟨d1,d2,hd12,hd1⟩:=dirs_head hds hdf (u:=s1) s2 (P:=fun k=>k≠4) hs1.1 (by decide)
 rw[hd12] at c
 unfold fieldTail
 refine c.call (p:=slP) (parseArguments_ok E ar har (fun x hx=>hkf x (by simp[hx])) (by omega) d1 d2 hd1) fun xr H1 _ c1=>?_
 rw[←hd12] at c1
 refine c1.call (p:=slP) (parseDirectives_ok E ds hds hdf (by omega) s1 s2 hs1.1 hs1.2) fun xs H2 _ c2=>?_
 rcases one_or_none h1 with rfl|⟨s,rfl⟩
 ·obtain⟨rfl,rfl⟩:u=s1∧r=s2:=by simpa [kvF] using hs12
  refine c2.call1 (peek_ok E u r 12) (u.1==12) rfl fun H3 _ c3=>?_
  refine fkI (fun hh=>absurd (by simpa using hh) hu.2.2.2) (fun _=>?_)
  refine c3.call (loc_ok E _ _) fun lb H4 _ c4=>?_
  refine c4.node (NewField_mk _ _ _ _ _ _ _ _ _ _) fun b H5 _ c5=>?_
  refine rkI ⟨b,rfl,c5.weak fun G hG=>?_⟩
  obtain⟨⟨⟨⟨hFG,hA⟩,hs⟩,hl⟩,hb⟩:=hG
  obtain⟨hn,ha⟩:=hF G hFG
  exact takeSel_field hl hn ha hb (close_field (ss:=[]) hb hA hs (takeS_nil G) hks) hk htx hf.2.1
 ·have e:kvF [s]=kvs s:=by simp[kvF]
  have hs12':=hs12
  rw[e,kvs_set_app (hkf s (by simp)) (kind_of_in hss s (by simp))] at hs12'
  rw[←hs12',] at c2
  refine c2.call1 (peek_ok E kBL _ 12) true rfl fun H3 _ c3=>?_
  refine fkI (fun _=>?_) (fun hh=>absurd hh (by decide))
  rw[←kvs_set_app (hkf s (by simp)) (kind_of_in hss s (by simp))] at c3
  refine c3.call (hset s (by simp) u r) fun sb H4 _ c4=>?_
  refine c4.call (loc_ok E _ _) fun lb H5 _ c5=>?_
  refine c5.node (NewField_mk _ _ _ _ _ _ _ _ _ _) fun b H6 _ c6=>?_
  refine rkI ⟨b,rfl,c6.weak fun G hG=>?_⟩
  obtain⟨⟨⟨⟨⟨hFG,hA⟩,hs⟩,hS⟩,hl⟩,hb⟩:=hG
  obtain⟨hn,ha⟩:=hF G hFG
  have e2:flatL [s]=flat s:=by simp[flatL]
  exact takeSel_field hl hn ha hb (close_field hb hA hs (by rw[e2];exact hS) hks) hk htx hf.2.1
theorem parseField_ok (E:PEnv) (t:Tr) (hk:t.n.kind=6) (hf:Fine t) (hset: ∀s∈t.ks,s.n.kind=5→PSet E s) (u:KV) (r:List KV) (hu:NoF u):
 POk E fq112 #[.pointer (some ⟨E.p,0,none⟩)] (kvs t++u::r) (u::r) P1v fun b G=>TakeSel tq126 b (flat t) G:=by
 intro H ps
 obtain⟨ar,ds,ss,hks,har,hds,hss,h1⟩:=field_kids hf hk
 have hkf:=kids_fine hf
 rw[hks] at hkf
 have hdf: ∀m∈ds,Fine m:=fun m hm=>hkf m (by simp[hm])
 have hset': ∀s∈ss,PSet E s:=fun s hs=>hset s (by rw[hks];simp[hs]) (kind_of_in hss s hs)
 rw[kvs_fld hk hks har hds hss] at ps
 simp only[List.append_assoc,List.cons_append] at ps
 obtain⟨s1,s2,hs12,hs1⟩: ∃s1 s2,kvF ss++u::r=s1::s2∧s1.1≠7:=by
  rcases one_or_none h1 with rfl|⟨s,rfl⟩
  ·exact⟨u,r,rfl,hu.2.2.1⟩
  ·have e:kvF [s]=kvs s:=by simp[kvF]
   rw[e,kvs_set_app (hkf s (by simp)) (kind_of_in hss s (by simp))]
   exact⟨kBL,_,rfl,by decide⟩
 obtain⟨d1,d2,hd12,hd1⟩:=dirs_head hds hdf (u:=s1) s2 (P:=fun k=>k≠7) hs1 (by decide)
 obtain⟨a1,a2,ha12,ha1⟩: ∃a1 a2,brK (some kPL) (some kPR) ar++(kvF ds++(kvF ss++u::r))=a1::a2∧a1.1≠7:=by
  rw[hs12,hd12]
  by_cases ha:ar=[]
  ·subst ha;rw[brK_nil];exact⟨d1,d2,rfl,hd1⟩
  ·rw[brK_some ha];exact⟨kPL,_,rfl,by decide⟩
 refine parseField.enter _ H _ ?_
 unfold parseField.W
 by_cases ha:t.n.alias=eB
 ·rw[if_pos ha,List.nil_append] at ps
  obtain⟨st,hst,_⟩:=ps.start
  refine⟨_,hst,?_⟩
  rw[ha12] at ps
  refine(Cx.start ps).call (parseName_ok E t.n.name a1 a2) fun nb H1 _ c1=>?_
  refine c1.call1 (skip_no E a1 a2 7 ha1) false rfl fun H2 _ c2=>?_
  refine fkI (fun hh=>absurd hh (by decide)) (fun _=>?_)
  rw[←ha12] at c2
  exact fieldTail_ok hk hf hks har hds hss h1 hset' hu c2 fun G hG=>⟨hG.2,.inl ⟨rfl,ha⟩⟩
 ·rw[if_neg ha] at ps
  simp only[List.cons_append,List.nil_append] at ps
  obtain⟨st,hst,_⟩:=ps.start
  refine⟨_,hst,?_⟩
  refine(Cx.start ps).call (parseName_ok E t.n.alias _ _) fun ab H1 _ c1=>?_
  refine c1.call1 (skip_yes E kCol _ _ 7 rfl) true rfl fun H2 _ c2=>?_
  refine fkI (fun _=>?_) (fun hh=>absurd hh (by decide))
  rw[ha12] at c2
  refine c2.call (parseName_ok E t.n.name a1 a2) fun nb H3 _ c3=>?_
  rw[←ha12] at c3
  exact fieldTail_ok hk hf hks har hds hss h1 hset' hu c3 fun G hG=>⟨hG.2,.inr ⟨ab,rfl,hG.1.2⟩⟩
theorem parseInline_ok (E:PEnv) (t:Tr) (hk:t.n.kind=8) (hf:Fine t) (hset: ∀s∈t.ks,s.n.kind=5→PSet E s) (u:KV) (r:List KV):
 POk E fq113 #[.pointer (some ⟨E.p,0,none⟩)] (kvs t++u::r) (u::r) N2v fun x G=>SelQ x t G:=by
 intro H ps
 obtain⟨ds,s,hks,hds,hs⟩:=inline_kids hf (.inl hk)
 have hkf:=kids_fine hf
 have hlen:=hf.few
 rw[hks] at hkf hlen
 simp only[List.length_append] at hlen
 have hdf: ∀m∈ds,Fine m:=fun m hm=>hkf m (by simp[hm])
 have hsf:=hkf s (by simp)
 have hps:=hset s (by rw[hks];simp) hs
 have hnm:=body_noname hf.1.self.1.2 (n:=t.n) (by omega)
 have hal:=formed_alias hf.1.self.1 (by omega)
 rw[kvs_inline hk hks hds hs] at ps
 simp only[List.append_assoc,List.cons_append] at ps
 have eS:=kvs_set_app hsf hs u r
 obtain⟨d1,d2,hd12,hdk⟩:=dirs_head hds hdf (u:=kBL) (s.ks.flatMap kvs++kBR::u::r) (P:=fun k=>k≠15) (by decide) (by decide)
 have hdv:d1.2≠onB:=by
  have hne:eB≠onB:=fun h=>absurd (congrArg ByteArray.size h) (by decide)
  cases ds with
  |nil=>simp only[kvF,List.flatMap_nil,List.nil_append,List.cons.injEq] at hd12;rw[←hd12.1];exact hne
  |cons d ds=>
   rw[kvF_cons,kvs_dir (kind_of_in hds d (by simp)) (dir_kids (hdf d (by simp)).1 (kind_of_in hds d (by simp)))] at hd12
   simp only[List.cons_append,List.cons.injEq] at hd12
   rw[←hd12.1];exact hne
 rw[eS,hd12] at ps
 refine parseFragment.enter _ H _ ?_
 unfold parseFragment.W
 obtain⟨st,hst,_⟩:=ps.start
 refine⟨_,hst,?_⟩
 have hkind:t.n.kind=8:=hk
 by_cases hx:t.n.text=eB
 ·rw[if_pos hx,List.nil_append] at ps
  refine(Cx.start ps).call (expect_ok E kDots d1 d2 6 rfl) fun _ H1 _ c1=>?_
  refine⟨fun y H'=>y.1=false∧Cx E H H' (d1::d2) fun _=>True,?_,?_⟩
  ·refine c1.call1 (peek_ok E d1 d2 15) (d1.1==15) rfl fun H2 _ c2=>?_
   refine fkI (fun hh=>absurd (by simpa using hh) hdk) (fun _=>⟨rfl,c2.weak fun _ _=>trivial⟩)
  rintro⟨y,_⟩ H2 ⟨hy,c2⟩
  dsimp only at hy⊢
  subst hy
  refine fkI (fun hh=>absurd hh (by decide)) (fun _=>?_)
  refine⟨d1.2,c2.ps.value,fkI (fun hh=>?_) (fun _=>?_)⟩
  ·rw[bytes_beq] at hh;simp at hh;exact absurd hh hdv
  rw[←hd12] at c2
  refine c2.call (p:=slP) (parseDirectives_ok E ds hds hdf (by omega) kBL _ (by decide) (by decide)) fun xs H3 _ c3=>?_
  rw[←eS] at c3
  refine c3.call (hps u r) fun sb H4 _ c4=>?_
  refine c4.call (loc_ok E _ _) fun lb H5 _ c5=>?_
  refine c5.node (NewInlineFragment_mk _ _ _ _ _ _) fun b H6 _ c6=>?_
  refine rkI ⟨(tq129,b),rfl,c6.weak fun G hG=>⟨?_,.inr (.inl rfl)⟩⟩
  obtain⟨⟨⟨⟨_,hs'⟩,hS⟩,hl⟩,hb⟩:=hG
  exact takeSel_inline hl (.inl ⟨rfl,hx⟩) hb (close_inline hb hs' hS hks) hk hnm hal hf.2.1
 ·rw[if_neg hx] at ps
  simp only[List.cons_append,List.nil_append] at ps
  refine(Cx.start ps).call (expect_ok E kDots _ _ 6 rfl) fun _ H1 _ c1=>?_
  refine⟨fun y H'=>y.1=false∧Cx E H H' (nmK onB::nmK t.n.text::d1::d2) fun _=>True,?_,?_⟩
  ·refine c1.call1 (peek_ok E (nmK onB) _ 15) true rfl fun H2 _ c2=>?_
   refine fkI (fun _=>?_) (fun hh=>absurd hh (by decide))
   refine⟨onB,c2.ps.value,?_,c2.weak fun _ _=>trivial⟩
   rw[bytes_beq];simp
  rintro⟨y,_⟩ H2 ⟨hy,c2⟩
  dsimp only at hy⊢
  subst hy
  refine fkI (fun hh=>absurd hh (by decide)) (fun _=>?_)
  refine⟨onB,c2.ps.value,fkI (fun _=>?_) (fun hh=>(eq_bs hh).elim)⟩
  refine c2.call1 (advance_ok E (nmK onB) (nmK t.n.text) _) () rfl fun H3 _ c3=>?_
  refine c3.call (parseNamed_ok E t.n.text d1 d2) fun nb H4 _ c4=>?_
  rw[←hd12] at c4
  refine c4.call (p:=slP) (parseDirectives_ok E ds hds hdf (by omega) kBL _ (by decide) (by decide)) fun xs H5 _ c5=>?_
  rw[←eS] at c5
  refine c5.call (hps u r) fun sb H6 _ c6=>?_
  refine c6.call (loc_ok E _ _) fun lb H7 _ c7=>?_
  refine c7.node (NewInlineFragment_mk _ _ _ _ _ _) fun b H8 _ c8=>?_
  refine rkI ⟨(tq129,b),rfl,c8.weak fun G hG=>⟨?_,.inr (.inl rfl)⟩⟩
  obtain⟨⟨⟨⟨⟨_,hc⟩,hs'⟩,hS⟩,hl⟩,hb⟩:=hG
  exact takeSel_inline hl (.inr ⟨nb,rfl,hc⟩) hb (close_inline hb hs' hS hks) hk hnm hal hf.2.1
theorem parseSelection_ok (E:PEnv) (t:Tr) (hk:t.n.kind=6∨t.n.kind=7∨t.n.kind=8) (hf:Fine t):PSel E t:=by
 have hset: ∀s∈t.ks,s.n.kind=5→PSet E s:=fun s hs h5=>
  parseSet_ok E s h5 (hf.kid hs) fun k hkm=>parseSelection_ok E k (by simpa using (set_parts (hf.kid hs) h5).1 k hkm) ((hf.kid hs).kid hkm)
 intro u r hu H ps
 refine parseSelection.enter _ H _ ?_
 unfold parseSelection.W
 rcases hk with hk|hk|hk
 ·obtain⟨h,l,hh,_,_⟩:=sel_head hf (.inl hk)
  have h6:h.1≠6:=by
   obtain⟨ar,ds,ss,h1,h2,h3,h4,_⟩:=field_kids hf hk
   rw[kvs_fld hk h1 h2 h3 h4] at hh
   by_cases ha:t.n.alias=eB
   ·rw[if_pos ha] at hh;simp only[List.nil_append,List.cons.injEq] at hh;rw[←hh.1];simp
   ·rw[if_neg ha] at hh;simp only[List.cons_append,List.cons.injEq] at hh;rw[←hh.1];simp
  have ps':=ps
  rw[hh,List.cons_append] at ps'
  refine(Cx.start ps').call1 (peek_ok E h _ 6) (h.1==6) rfl fun H1 _ c1=>?_
  refine fkI (fun hh=>absurd (by simpa using hh) h6) (fun _=>?_)
  rw[←List.cons_append,←hh] at c1
  refine c1.call (parseField_ok E t hk hf hset u r hu) fun b H2 _ c2=>?_
  exact rkI ⟨(tq126,b),rfl,c2.weak fun G hG=>⟨hG.2,.inl rfl⟩⟩
 ·have ps':=ps
  rw[kvs_spread hk (spread_name hf hk).2,List.cons_append] at ps'
  refine(Cx.start ps').call1 (peek_ok E kDots _ 6) true rfl fun H1 _ c1=>?_
  refine fkI (fun _=>?_) (fun hh=>absurd hh (by decide))
  rw[←List.cons_append,←kvs_spread hk (spread_name hf hk).2] at c1
  refine c1.call (p:=N2p) (parseSpread_ok E t hk hf u r hu.1 hu.2.1) fun x H2 _ c2=>?_
  refine rkI ⟨x,rfl,c2.weak fun G hG=>⟨?_,.inr (.inr hG.2.1)⟩⟩
  rw[hG.2.1]
  exact takeSel_spread hG.2.2
 ·obtain⟨ds,s,h1,h2,h3⟩:=inline_kids hf (.inl hk)
  have ps':=ps
  rw[kvs_inline hk h1 h2 h3,List.cons_append] at ps'
  refine(Cx.start ps').call1 (peek_ok E kDots _ 6) true rfl fun H1 _ c1=>?_
  refine fkI (fun _=>?_) (fun hh=>absurd hh (by decide))
  rw[←List.cons_append,←kvs_inline hk h1 h2 h3] at c1
  refine c1.call (p:=N2p) (parseInline_ok E t hk hf hset u r) fun x H2 _ c2=>?_
  exact rkI ⟨x,rfl,c2.weak fun G hG=>hG.2⟩
 termination_by SizeOf.sizeOf t
 decreasing_by
 have h1:=List.sizeOf_lt_of_mem hs
 have h2:=List.sizeOf_lt_of_mem hkm
 cases t with|node n ks=>cases s with|node n2 ks2=>
 simp only[Tr.ks] at*
 simp at*;omega
theorem psets (E:PEnv) {t:Tr} (hf:Fine t): ∀s∈t.ks,s.n.kind=5→PSet E s:=fun s hs h5=>
 parseSet_ok E s h5 (hf.kid hs) fun k hkm=>parseSelection_ok E k (by simpa using (set_parts (hf.kid hs) h5).1 k hkm) ((hf.kid hs).kid hkm)
theorem kvs_var_head (t:Tr) (hk:t.n.kind=4) (hf:Fine t): ∃h r,kvs t=h::r∧NoT h∧h.1≠5:=by
 obtain⟨vs,ty,h1,h2,h3,h4⟩:=var_parts hf hk
 rw[kvs_var hk h1 h2 h3 h4]
 exact⟨kDol,_,rfl,⟨by decide,by decide,by decide,by decide⟩,by decide⟩
theorem parseVariableDefinitions_ok (E:PEnv) (l:List Tr) (hK:InK [4] l) (hf: ∀t∈l,Fine t) (hlen:l.length≤400) (u:KV) (r:List KV) (hu:u.1≠4):
 POk E fq167 #[.pointer (some ⟨E.p,0,none⟩)] (brK (some kPL) (some kPR) l++u::r) (u::r) slV fun x G=>TakeL fq63 x (flatL l) G:=by
 intro H ps
 refine parseVariableDefinitions.enter _ H _ ?_
 unfold parseVariableDefinitions.W
 refine nbI fun H1 e1 hb1 x1 s1=>?_
 have c1:=((Cx.start ps).add (F':=fun _=>True) x1 fun _ _=>trivial).weak fun _ h=>h.1
 have take: ∀ {G:Heap} {x:Sl} {bs:List Nat} {ts:List Tr},SlAt x (bs.map ptV) G→All2 (fun b k=>VarDAt b k G) bs ts→TakeL fq63 x (flatL ts) G:=
  fun h1 h2 H tk D h hD=>take_vars h1.slK h2 h hD
 by_cases hl:l=[]
 ·subst hl
  rw[brK_nil,List.nil_append] at c1
  refine c1.call1 (peek_ok E u r 4) (u.1==4) rfl fun H2 _ c2=>?_
  refine fkI (fun _=>rkI ⟨(some ⟨H.size,0,none⟩,0,0),rfl,c2.weak fun G _=>?_⟩) (fun hh=>by simp[hu] at hh)
  exact take (bs:=[]) (SlAt.zero _ _ _) .nil
 ·rw[brK_some hl] at c1
  refine c1.call1 (peek_ok E kPL _ 4) true rfl fun H2 y2 c2=>?_
  refine fkI (fun hh=>absurd hh (by decide)) (fun _=>?_)
  have hb2:=y2.get _ _ hb1 (c1.nin (Nat.le_refl _))
  refine revList tq93 tq93 (by unfold plainT;decide) (Q:=fun b t G=>VarDAt b t G) NoT hlen hl (fun t ht u' r' hu'=>parseVariableDefinition_ok E t (kind_of_in hK t ht) (hf t ht) u' r' hu') (fun t ht=>kvs_var_head t (kind_of_in hK t ht) (hf t ht)) ⟨by decide,by decide,by decide,by decide⟩ c2.ps (fun R h=>reverseVar.enter _ _ _ _ _ R h) fun x bs H3 hbl c3=>?_
  have hb3:=c3.ext.get _ _ hb2 (c1.nin (Nat.le_refl _))
  refine conv_loop tq93 tq93 (by unfold plainT;decide) E c3 (by omega) c2.ext ps.lt (Ext.refl _ _) hb3 (Nat.le_refl _) (.inl (lt_of_get hb2)) (K:=fun y H'=>retK (some [(.slice y.1 y.2.1 y.2.2),.nilIface]) H' _) fun y H4 c4=>?_
  exact rkI ⟨y,rfl,c4.weak fun G hG=>take hG.1 hG.2⟩
theorem op_kids {t:Tr} (hf:Fine t) (hk:t.n.kind=2):(∃s,t.n.flag=1∧t.n.text=queryB∧t.n.name=eB∧t.ks=[s]∧s.n.kind=5)∨
 ∃(vs ds:List Tr) (s:Tr),t.n.flag=0∧t.ks=vs++(ds++[s])∧InK [4] vs∧InK [10] ds∧s.n.kind=5:=by
 have hfl:t.n.flag=0∨t.n.flag=1∧t.n.text=queryB∧t.n.name=eB:=by
  cases hf.1.self.1.2<;>first|assumption|(exfalso;omega)
 cases hf.1.self.2 with
 |short s _ h1 h2 h3=>
  rcases hfl with h|⟨_,h4,h5⟩
  ·omega
  ·exact .inl ⟨s,h1,h4,h5,h2,h3⟩
 |operation vs ds s _ h1 h2 h3 h4 h5=>
  rcases hfl with h|⟨h,_⟩
  ·exact .inr ⟨vs,ds,s,h,h2,h3,h4,h5⟩
  ·exact absurd h h1
 |_=>omega
theorem kvs_op1 {t s:Tr} (hk:t.n.kind=2) (hfl:t.n.flag=1) (hks:t.ks=[s]) (hs:s.n.kind=5):kvs t=kvs s:=by
 obtain⟨e2,e3⟩:=dset (ds:=[]) (fun x hx=>by simp at hx) hs
 have e1:kidsK (some kPL) (some kPR) none [4] (kvL [s])=[]:=by
  rw[kidsK_sel (l:=[]) (by rw[selK_no (by simp[hs])];rfl)];simp[brK]
 rw[List.nil_append] at e2 e3
 rw[kvs_eq,hks];simp[bodyK,hk,hfl,e1,e2,e3,kvF]
theorem kvs_op {t s:Tr} {vs ds:List Tr} (hk:t.n.kind=2) (hfl:t.n.flag=0) (hks:t.ks=vs++(ds++[s])) (hvs:InK [4] vs) (hds:InK [10] ds) (hs:s.n.kind=5):
 kvs t=nmK t.n.text::((if t.n.name=eB then[] else[nmK t.n.name])++(brK (some kPL) (some kPR) vs++(kvF ds++kvs s))):=by
 have hss:InK [5] [s]:=fun x hx=>by simp at hx;subst hx;simpa using hs
 have e1:kidsK (some kPL) (some kPR) none [4] (kvL (vs++(ds++[s])))=brK (some kPL) (some kPR) vs:=
  kidsK_sel (l:=vs) (by rw[selK_app,selK_app,selK_ne hds (by decide),selK_ne hss (by decide),selK_all hvs (by simp),List.nil_append,List.append_nil])
 have e2:dirsK (kvL (vs++(ds++[s])))=kvF ds:=by
  unfold dirsK
  rw[kidsK_sel (l:=ds) (by rw[selK_app,selK_app,selK_ne hvs (by decide),selK_ne hss (by decide),selK_all hds (by simp),List.nil_append,List.append_nil]),brK_none]
 have e3:selsK (kvL (vs++(ds++[s])))=kvs s:=by
  unfold selsK
  rw[kidsK_sel (l:=[s]) (by rw[selK_app,selK_app,selK_ne hvs (by decide),selK_ne hds (by decide),selK_all hss (by simp),List.nil_append,List.nil_append]),brK_none]
  simp[kvF]
 rw[kvs_eq,hks];simp[bodyK,hk,hfl,e1,e2,e3]
def opTail (p:Nat) (x1:Int) (x14:ByteArray) (xa:Option Addr) (H17:Heap) (R:Value→Heap→Prop):Prop:=
 callW PP fq167 #[(.pointer (some ⟨p,0,none⟩))] H17 ⟨Sl,fun x=>(.tuple #[(.slice x.1 x.2.1 x.2.2),.nilIface])⟩ fun(x32:Sl) H33=>
  callW PP fq138 #[(.pointer (some ⟨p,0,none⟩))] H33 ⟨Sl,fun x=>(.tuple #[(.slice x.1 x.2.1 x.2.2),.nilIface])⟩ fun(x34:Sl) H35=>
  callW PP fq165 #[(.pointer (some ⟨p,0,none⟩))] H35 ⟨Nat,fun x=>(.tuple #[(.pointer (some ⟨x,0,none⟩)),.nilIface])⟩ fun(x36:Nat) H37=>
  callW PP fq141 #[(.pointer (some ⟨p,0,none⟩)),(.int .i64 x1)] H37 pBlk fun(x38:Nat) H39=>
  newB H39 (.cells #[(.string (bs [])),(.pointer (some ⟨x38,0,none⟩)),(.string x14),(.pointer xa),(.slice x32.1 x32.2.1 x32.2.2),(.slice x34.1 x34.2.1 x34.2.2),(.pointer (some ⟨x36,0,none⟩))] tq202) fun b40 H41=>
  callW PP fq166 #[(.pointer (some ⟨b40,0,none⟩))] H41 pBlk fun(x42:Nat) H43=>
  retK (some [(.iface tq200 (.pointer (some ⟨x42,0,none⟩))),.nilIface]) H43 R
theorem opTail_ok {E:PEnv} {t s:Tr} {vs ds:List Tr} (hk:t.n.kind=2) (hf:Fine t) (hks:t.ks=vs++(ds++[s])) (hvs:InK [4] vs) (hds:InK [10] ds) (hs:s.n.kind=5) {u:KV} {r:List KV}
 {A H:Heap} {F:Heap→Prop} {xa:Option Addr} {x1:Int} (c:Cx E A H (brK (some kPL) (some kPR) vs++(kvF ds++(kvs s++u::r))) F) (hF: ∀G,F G→AliasAt xa t.n.name G):
 opTail E.p x1 t.n.text xa H fun v H'=> ∃b,v=ifP tq200 b∧Cx E A H' (u::r) fun G=>TakeOk 2 tq200 b (flat t) G:=by
 have hkf:=kids_fine hf
 have hlen:=hf.few
 rw[hks] at hkf hlen
 simp only[List.length_append] at hlen
 have hdf: ∀m∈ds,Fine m:=fun m hm=>hkf m (by simp[hm])
 have hsf:=hkf s (by simp)
 have hps:=psets E hf s (by rw[hks];simp) hs
 have eS:=kvs_set_app hsf hs u r
 rw[eS] at c
 obtain⟨d1,d2,hd12,hd1⟩:=dirs_head hds hdf (u:=kBL) (s.ks.flatMap kvs++kBR::u::r) (P:=fun k=>k≠4) (by decide) (by decide)
 rw[hd12] at c
 unfold opTail
 refine c.call (p:=slP) (parseVariableDefinitions_ok E vs hvs (fun x hx=>hkf x (by simp[hx])) (by omega) d1 d2 hd1) fun xv H1 _ c1=>?_
 rw[←hd12] at c1
 refine c1.call (p:=slP) (parseDirectives_ok E ds hds hdf (by omega) kBL _ (by decide) (by decide)) fun xs H2 _ c2=>?_
 rw[←eS] at c2
 refine c2.call (hps u r) fun sb H3 _ c3=>?_
 refine c3.call (loc_ok E _ _) fun lb H4 _ c4=>?_
 refine c4.node (NewOperationDefinition_mk _ _ _ _ _ _ _ _ _ _) fun b H5 _ c5=>?_
 refine rkI ⟨b,rfl,c5.weak fun G hG=>?_⟩
 obtain⟨⟨⟨⟨⟨hFG,hV⟩,hs'⟩,hS⟩,hl⟩,hb⟩:=hG
 exact take_op 2 hf hl (hF G hFG) hb (close_op hb hV hs' hS hks) hk
theorem parseOp_ok (E:PEnv) (t:Tr) (hk:t.n.kind=2) (hf:Fine t) (u:KV) (r:List KV):
 POk E fq109 #[.pointer (some ⟨E.p,0,none⟩)] (kvs t++u::r) (u::r) (ifP tq200) fun b G=>TakeOk 2 tq200 b (flat t) G:=by
 intro H ps
 have hkf:=kids_fine hf
 refine parseOperationDefinition.enter _ H _ ?_
 unfold parseOperationDefinition.W
 rcases op_kids hf hk with⟨s,hfl,htx,hnm,hks,hs⟩|⟨vs,ds,s,hfl,hks,hvs,hds,hs⟩
 ·rw[hks] at hkf
  have hsf:=hkf s (by simp)
  have hps:=psets E hf s (by rw[hks];simp) hs
  have eS:=kvs_set_app hsf hs u r
  rw[kvs_op1 hk hfl hks hs,eS] at ps
  obtain⟨st,hst,_⟩:=ps.start
  refine⟨_,hst,?_⟩
  refine(Cx.start ps).call1 (peek_ok E kBL _ 12) true rfl fun H1 _ c1=>?_
  refine fkI (fun _=>?_) (fun hh=>absurd hh (by decide))
  rw[←eS] at c1
  refine c1.call (hps u r) fun sb H2 _ c2=>?_
  refine nbI fun H3 e3 hb3 x3 s3=>?_
  have c3:=(c2.add (F':=fun _=>True) x3 fun _ _=>trivial).weak fun _ h=>h.1
  refine c3.call (loc_ok E _ _) fun lb H4 _ c4=>?_
  refine c4.node (NewOperationDefinition_mk _ _ _ _ _ _ _ _ _ _) fun b H5 _ c5=>?_
  refine rkI ⟨b,rfl,c5.weak fun G hG=>?_⟩
  obtain⟨⟨⟨_,hS⟩,hl⟩,hb⟩:=hG
  have hb':G[b]?=some (.cells #[.string kOperationDefinition,.pointer (some ⟨lb,0,none⟩),.string t.n.text,.pointer none,.slice none 0 0,.slice (some ⟨H2.size,0,none⟩) 0 0,.pointer (some ⟨sb,0,none⟩)] tq202):=by rw[htx];exact hb
  have hV:TakeL fq63 (none,0,0) (flatL []) G:=fun H tk D h hD=>take_vars (x:=(none,0,0)) (bs:=[]) (ts:=[]) (SlAt.zero none 0 G).slK .nil h hD
  have hs':TakeL fq65 (some ⟨H2.size,0,none⟩,0,0) (flatL []) G:=take_dirs (bs:=[]) (ts:=[]) (SlAt.zero _ _ _) .nil
  exact take_op 2 hf hl (.inl ⟨rfl,hnm⟩) hb' (close_op (vs:=[]) (ds:=[]) hb' hV hs' hS (by simpa using hks)) hk
 ·rw[kvs_op hk hfl hks hvs hds hs] at ps
  simp only[List.append_assoc,List.cons_append] at ps
  rw[hks] at hkf
  have hdf: ∀m∈ds,Fine m:=fun m hm=>hkf m (by simp[hm])
  have eS:=kvs_set_app (hkf s (by simp)) hs u r
  obtain⟨d1,d2,hd12,hd1⟩:=dirs_head hds hdf (u:=kBL) (s.ks.flatMap kvs++kBR::u::r) (P:=fun k=>k≠15) (by decide) (by decide)
  obtain⟨a1,a2,ha12,ha1⟩: ∃a1 a2,brK (some kPL) (some kPR) vs++(kvF ds++(kvs s++u::r))=a1::a2∧a1.1≠15:=by
   rw[eS,hd12]
   by_cases hv:vs=[]
   ·subst hv;rw[brK_nil];exact⟨d1,d2,rfl,hd1⟩
   ·rw[brK_some hv];exact⟨kPL,_,rfl,by decide⟩
  have hw:OpWord t.n.text:=body_op hf.1.self.1.2 (by omega)
  obtain⟨st,hst,_⟩:=ps.start
  refine⟨_,hst,?_⟩
  refine(Cx.start ps).call1 (peek_ok E (nmK t.n.text) _ 12) false rfl fun H1 _ c1=>?_
  refine fkI (fun hh=>absurd hh (by decide)) (fun _=>?_)
  by_cases hn:t.n.name=eB
  ·rw[if_pos hn,List.nil_append,ha12] at c1
   refine c1.call (parseOperationType_ok E t.n.text a1 a2 hw) fun x H2 _ c2=>?_
   have hx:=c2.self.2
   refine c2.call1 (peek_ok E a1 a2 15) (a1.1==15) rfl fun H3 _ c3=>?_
   refine fkI (fun hh=>absurd (by simpa using hh) ha1) (fun _=>?_)
   rw[←ha12] at c3
   have:=opTail_ok (E:=E) (x1:=(st:Int)) hk hf hks hvs hds hs (xa:=none) c3 fun G _=> .inl ⟨rfl,hn⟩
   rw[←hx] at this
   exact this
  ·rw[if_neg hn] at c1
   simp only[List.cons_append,List.nil_append] at c1
   refine c1.call (parseOperationType_ok E t.n.text _ _ hw) fun x H2 _ c2=>?_
   have hx:=c2.self.2
   refine c2.call1 (peek_ok E (nmK t.n.name) _ 15) true rfl fun H3 _ c3=>?_
   refine fkI (fun _=>?_) (fun hh=>absurd hh (by decide))
   rw[ha12] at c3
   refine c3.call (parseName_ok E t.n.name a1 a2) fun nb H4 _ c4=>?_
   rw[←ha12] at c4
   have:=opTail_ok (E:=E) (x1:=(st:Int)) hk hf hks hvs hds hs (xa:=some ⟨nb,0,none⟩) c4 fun G hG=> .inr ⟨nb,rfl,hG.2⟩
   rw[←hx] at this
   exact this
theorem frag_name {t:Tr} (hf:Fine t) (hk:t.n.kind=3):t.n.name≠onB:=by
 cases hf.1.self.1.2<;>first|assumption|(exfalso;omega)
theorem parseFrag_ok (E:PEnv) (t:Tr) (hk:t.n.kind=3) (hf:Fine t) (u:KV) (r:List KV):
 POk E fq110 #[.pointer (some ⟨E.p,0,none⟩)] (kvs t++u::r) (u::r) (ifP tq203) fun b G=>TakeOk 3 tq203 b (flat t) G:=by
 intro H ps
 obtain⟨ds,s,hks,hds,hs⟩:=inline_kids hf (.inr hk)
 have hkf:=kids_fine hf
 have hlen:=hf.few
 rw[hks] at hkf hlen
 simp only[List.length_append] at hlen
 have hdf: ∀m∈ds,Fine m:=fun m hm=>hkf m (by simp[hm])
 have hsf:=hkf s (by simp)
 have hps:=psets E hf s (by rw[hks];simp) hs
 have eS:=kvs_set_app hsf hs u r
 rw[kvs_frag hk hks hds hs] at ps
 simp only[List.append_assoc,List.cons_append] at ps
 rw[eS] at ps
 obtain⟨d1,d2,hd12⟩:=app_ne (kvF ds) kBL (s.ks.flatMap kvs++kBR::u::r)
 rw[hd12] at ps
 refine parseFragmentDefinition.enter _ H _ ?_
 unfold parseFragmentDefinition.W
 obtain⟨st,hst,_⟩:=ps.start
 refine⟨_,hst,?_⟩
 refine(Cx.start ps).call (expectKeyWord_ok E _ _ wFragment) fun x1 H1 _ c1=>?_
 refine c1.tok rfl fun H2 _ _ c2=>?_
 refine c2.call (parseFragmentName_ok E t.n.name (frag_name hf hk) _ _) fun nb H3 _ c3=>?_
 refine c3.call (expectKeyWord_ok E _ _ onB) fun _ H4 _ c4=>?_
 refine c4.call (parseNamed_ok E t.n.text d1 d2) fun cb H5 _ c5=>?_
 rw[←hd12] at c5
 refine c5.call (p:=slP) (parseDirectives_ok E ds hds hdf (by omega) kBL _ (by decide) (by decide)) fun xs H6 _ c6=>?_
 rw[←eS] at c6
 refine c6.call (hps u r) fun sb H7 _ c7=>?_
 refine c7.call (loc_ok E _ _) fun lb H8 _ c8=>?_
 refine c8.node (NewFragmentDefinition_mk _ _ _ _ _ _ _ _ _ _ _) fun b H9 _ c9=>?_
 refine rkI ⟨b,rfl,c9.weak fun G hG=>?_⟩
 obtain⟨⟨⟨⟨⟨⟨⟨_,hn⟩,_⟩,hc⟩,hs'⟩,hS⟩,hl⟩,hb⟩:=hG
 exact take_frag 3 hf hl hn (.inr ⟨cb,rfl,hc⟩) hb (close_frag hb hs' hS hks) hk
abbrev sOperation:ByteArray:=bs [111,112,101,114,97,116,105,111,110]
abbrev sField:ByteArray:=bs [102,105,101,108,100]
theorem partName_2 (H:Heap):Fn PP fq33 #[.int .i64 2] H fun v H'=>v= .string sOperation∧H=H':=by
 refine partName.enter 2 H _ ?_
 unfold partName.W
 refine fkI (fun _=>rkI ⟨rfl,rfl⟩) (fun hh=>absurd hh (by decide))
theorem partName_3 (H:Heap):Fn PP fq33 #[.int .i64 3] H fun v H'=>v= .string wFragment∧H=H':=by
 refine partName.enter 3 H _ ?_
 unfold partName.W
 repeat refine fkI (fun hh=>absurd hh (by decide)) (fun _=>?_)
 refine fkI (fun _=>rkI ⟨rfl,rfl⟩) (fun hh=>absurd hh (by decide))
theorem partName_6 (H:Heap):Fn PP fq33 #[.int .i64 6] H fun v H'=>v= .string sField∧H=H':=by
 refine partName.enter 6 H _ ?_
 unfold partName.W
 repeat refine fkI (fun hh=>absurd hh (by decide)) (fun _=>?_)
 refine fkI (fun _=>rkI ⟨rfl,rfl⟩) (fun hh=>absurd hh (by decide))
theorem kvs_op_ne {t:Tr} (hf:Fine t) (hk:t.n.kind=2):kvs t≠ []:=by
 rcases op_kids hf hk with⟨s,hfl,htx,hnm,hks,hs⟩|⟨vs,ds,s,hfl,hks,hvs,hds,hs⟩
 ·have hsf:=hf.kid (k:=s) (by rw[hks];simp)
  obtain⟨h1,h2⟩:=set_parts hsf hs
  rw[kvs_op1 hk hfl hks hs,kvs_set hs h1]
  simp[brK,h2,optK]
 ·rw[kvs_op hk hfl hks hvs hds hs];simp
theorem kind_op:KindOk 2 2 sOperation:=kind_of 2 2 sOperation partName_2 (fun h=>absurd (congrArg ByteArray.size h) (by decide)) (by
 intro t hf hk
 refine⟨kvs_op_ne hf hk,?_⟩
 intro E u hu H ps
 refine ppart.enter _ _ H _ ?_
 unfold ppart.W
 repeat refine fkI (fun hh=>(neq_bs (by decide) hh).elim) (fun _=>?_)
 refine fkI (fun _=>?_) (fun hh=>(eq_bs hh).elim)
 exact step_one (val:=ifP tq200) (ofA:=fun b=>(tq200,b)) ps (parseOp_ok E t hk hf u []))
theorem kind_frag:KindOk 3 3 wFragment:=kind_of 3 3 wFragment partName_3 (fun h=>absurd (congrArg ByteArray.size h) (by decide)) (by
 intro t hf hk
 obtain⟨ds,s,h1,h2,h3⟩:=inline_kids hf (.inr hk)
 refine⟨by rw[kvs_frag hk h1 h2 h3];simp,?_⟩
 intro E u hu H ps
 refine ppart.enter _ _ H _ ?_
 unfold ppart.W
 repeat refine fkI (fun hh=>(neq_bs (by decide) hh).elim) (fun _=>?_)
 refine fkI (fun _=>?_) (fun hh=>(eq_bs hh).elim)
 exact step_one (val:=ifP tq203) (ofA:=fun b=>(tq203,b)) ps (parseFrag_ok E t hk hf u []))
theorem EndT.noF {u:KV} (h:EndT u):NoF u:=⟨h.no (by decide) (by decide),h.no (by decide) (by decide),h.no (by decide) (by decide),h.no (by decide) (by decide)⟩
theorem kind_field:KindOk 6 6 sField:=kind_of 6 6 sField partName_6 (fun h=>absurd (congrArg ByteArray.size h) (by decide)) (by
 intro t hf hk
 obtain⟨h,l,hh,_⟩:=sel_head hf (.inl hk)
 refine⟨by rw[hh];simp,?_⟩
 intro E u hu H ps
 refine ppart.enter _ _ H _ ?_
 unfold ppart.W
 repeat refine fkI (fun hh=>(neq_bs (by decide) hh).elim) (fun _=>?_)
 refine fkI (fun _=>?_) (fun hh=>(eq_bs hh).elim)
 exact step_one (val:=P1v) (ofA:=fun b=>(tq126,b)) ps ((parseField_ok E t hk hf (psets E hf) u [] hu.noF).imp fun b G h=>take_selpart 6 hf h (.inl rfl)))
theorem kind_inline:KindOk 8 7 sSpread:=kind_of 8 7 sSpread partName_7 (fun h=>absurd (congrArg ByteArray.size h) (by decide)) (by
 intro t hf hk
 obtain⟨h,l,hh,_⟩:=sel_head hf (.inr (.inr hk))
 refine⟨by rw[hh];simp,?_⟩
 intro E u hu H ps
 refine ppart.enter _ _ H _ ?_
 unfold ppart.W
 repeat refine fkI (fun hh=>(neq_bs (by decide) hh).elim) (fun _=>?_)
 refine fkI (fun _=>?_) (fun hh=>(eq_bs hh).elim)
 exact step_one (val:=N2v) (ofA:=fun x=>x) ps ((parseInline_ok E t hk hf (psets E hf) u []).imp fun x G h=>take_selpart 7 hf h.1 h.2))
end Go.Vx
