/- A part of the proof of what the last text of this claim says: QT6, QV9, QV10. Conditions: none. -/
import Derived.Test.YtkopcepfeeemhaaGreatDoorYDBg
set_option maxRecDepth 10000
namespace Go.Vx
open Go Go.Proofs
def keS (kd:Int) (bs:List Nat) (ms:List Tr) (G:Heap):Prop:=All2 (fun b (k:Tr)=>k2U b k.n.name G) bs ms∧ ∀m∈ms,Fine m∧m.n.kind=kd
section
variable {G:Heap} {b lb nb:Nat} {t:Tr}
theorem kgK {xd:OA} {xs xf:Sl} {de ds fs:List Tr} {k0:Value} (hl:k0B lb G) (hn:k0W nb t.n.name G)
 (hb:G[b]?=some (.cells #[k0,.pointer (some ⟨lb,0,none⟩),.pointer (some ⟨nb,0,none⟩),.pointer xd,.slice xs.1 xs.2.1 xs.2.2,.slice xf.1 xf.2.1 xf.2.2] tq251))
 (hd:k1V xd (k0a de) G) (hs:k0O fq65 xs (k0a ds) G) (hF:k0O fq70 xf (k0a fs) G)
 (hks:t.ks=de++(ds++fs)) (hk:t.n.kind=31) (ha:t.n.alias=eB) (hx:t.n.text=eB) (hw:Ws t):ItemAt fq188 tq248 31 2 b t G:=by
 refine⟨⟨lb,nb,_,_,hl,hn,hb,rfl,rfl⟩,?_,hk,ha,hx,hw⟩
 intro H tk c1 c2 D ht hD h1 h2
 rw[hks,k0L,k0L] at hD⊢
 simp only[List.length_append] at hD
 have bx:=ht.ext.get _ _ hb (by simp)
 refine k5T.enter c1 c2 H _ ?_
 unfold k5T.W
 refine⟨_,lcO h1 rfl,_,lcO h2 rfl,_,lcO bx rfl,?_⟩
 refine(hd H tk D ht (by omega)).mono ?_
 rintro _ H5 ⟨rfl,k5,Y,hY,t5⟩
 have q1:=k5.get _ _ _ _ h1 (by decide) (by decide) (by decide)
 have q2:=k5.get _ _ _ _ h2 (by decide) (by decide) (by decide)
 have bx5:=t5.ext.get _ _ hb (by simp)
 have hYl:=hY.len
 refine⟨(),rfl,_,lcO q1 rfl,_,lcO q2 rfl,xs,lcO bx5 rfl,?_⟩
 refine(hs H5 tk _ t5 (by rw[List.length_append];omega)).mono ?_
 rintro _ H6 ⟨rfl,k6,Z,hZ,t6⟩
 have p1:=k6.get _ _ _ _ q1 (by decide) (by decide) (by decide)
 have p2:=k6.get _ _ _ _ q2 (by decide) (by decide) (by decide)
 have bx6:=t6.ext.get _ _ hb (by simp)
 have hZl:=hZ.len
 refine⟨(),rfl,_,lcO p1 rfl,_,lcO p2 rfl,xf,lcO bx6 rfl,?_⟩
 refine(hF H6 tk _ t6 (by simp only[List.length_append];omega)).mono ?_
 intro v' H8 hT
 obtain rfl:=hT.unit
 exact⟨(),rfl,rkI (Took.seq k5 hY (Took.seq k6 hZ hT))⟩
theorem kgH {xd:OA} {xs xf:Sl} {de ds fs:List Tr} {k0:Value} (hl:k0B lb G) (hn:k0W nb t.n.name G)
 (hb:G[b]?=some (.cells #[k0,.pointer (some ⟨lb,0,none⟩),.pointer (some ⟨nb,0,none⟩),.pointer xd,.slice xs.1 xs.2.1 xs.2.2,.slice xf.1 xf.2.1 xf.2.2] tq265))
 (hd:k1V xd (k0a de) G) (hs:k0O fq65 xs (k0a ds) G) (hF:k0O fq71 xf (k0a fs) G)
 (hks:t.ks=de++(ds++fs)) (hk:t.n.kind=36) (ha:t.n.alias=eB) (hx:t.n.text=eB) (hw:Ws t):ItemAt fq192 tq262 36 2 b t G:=by
 refine⟨⟨lb,nb,_,_,hl,hn,hb,rfl,rfl⟩,?_,hk,ha,hx,hw⟩
 intro H tk c1 c2 D ht hD h1 h2
 rw[hks,k0L,k0L] at hD⊢
 simp only[List.length_append] at hD
 have bx:=ht.ext.get _ _ hb (by simp)
 refine k5X.enter c1 c2 H _ ?_
 unfold k5X.W
 refine⟨_,lcO h1 rfl,_,lcO h2 rfl,_,lcO bx rfl,?_⟩
 refine(hd H tk D ht (by omega)).mono ?_
 rintro _ H5 ⟨rfl,k5,Y,hY,t5⟩
 have q1:=k5.get _ _ _ _ h1 (by decide) (by decide) (by decide)
 have q2:=k5.get _ _ _ _ h2 (by decide) (by decide) (by decide)
 have bx5:=t5.ext.get _ _ hb (by simp)
 have hYl:=hY.len
 refine⟨(),rfl,_,lcO q1 rfl,_,lcO q2 rfl,xs,lcO bx5 rfl,?_⟩
 refine(hs H5 tk _ t5 (by rw[List.length_append];omega)).mono ?_
 rintro _ H6 ⟨rfl,k6,Z,hZ,t6⟩
 have p1:=k6.get _ _ _ _ q1 (by decide) (by decide) (by decide)
 have p2:=k6.get _ _ _ _ q2 (by decide) (by decide) (by decide)
 have bx6:=t6.ext.get _ _ hb (by simp)
 have hZl:=hZ.len
 refine⟨(),rfl,_,lcO p1 rfl,_,lcO p2 rfl,xf,lcO bx6 rfl,?_⟩
 refine(hF H6 tk _ t6 (by simp only[List.length_append];omega)).mono ?_
 intro v' H8 hT
 obtain rfl:=hT.unit
 exact⟨(),rfl,rkI (Took.seq k5 hY (Took.seq k6 hZ hT))⟩
theorem kgD (h:k7E b t G):ItemAt fq191 tq123 35 2 b t G:=by
 obtain⟨lb,nb,xd,xs,de,ds,k0,hl,hn,hb,hd,hs,hks,hk,ha,hx,hw⟩:=h
 refine⟨⟨lb,nb,_,_,hl,hn,hb,rfl,rfl⟩,?_,hk,ha,hx,hw⟩
 intro H tk c1 c2 D ht hD h1 h2
 rw[hks,k0L] at hD⊢
 rw[List.length_append] at hD
 have bx:=ht.ext.get _ _ hb (by simp)
 refine k5W.enter c1 c2 H _ ?_
 unfold k5W.W
 refine⟨_,lcO h1 rfl,_,lcO h2 rfl,_,lcO bx rfl,?_⟩
 refine(hd H tk D ht (by omega)).mono ?_
 rintro _ H5 ⟨rfl,k5,Y,hY,t5⟩
 have q1:=k5.get _ _ _ _ h1 (by decide) (by decide) (by decide)
 have q2:=k5.get _ _ _ _ h2 (by decide) (by decide) (by decide)
 have bx5:=t5.ext.get _ _ hb (by simp)
 have hYl:=hY.len
 refine⟨(),rfl,_,lcO q1 rfl,_,lcO q2 rfl,xs,lcO bx5 rfl,?_⟩
 refine(hs H5 tk _ t5 (by rw[List.length_append];omega)).mono ?_
 intro v' H6 hT
 obtain rfl:=hT.unit
 exact⟨(),rfl,rkI (Took.seq k5 hY hT)⟩
theorem kgF {xd:OA} {xs xm:Sl} {de ds ms:List Tr} {bs:List Nat} {k0:Value} (hl:k0B lb G) (hn:k0W nb t.n.name G)
 (hb:G[b]?=some (.cells #[k0,.pointer (some ⟨lb,0,none⟩),.pointer (some ⟨nb,0,none⟩),.pointer xd,.slice xs.1 xs.2.1 xs.2.2,.slice xm.1 xm.2.1 xm.2.2] tq260))
 (hd:k1V xd (k0a de) G) (hs:k0O fq65 xs (k0a ds) G) (hm:SlAt xm (bs.map ptV) G) (hv:All2 (fun b k=>ItemAt fq191 tq123 35 2 b k G) bs ms)
 (hks:t.ks=de++(ds++ms)) (hk:t.n.kind=34) (ha:t.n.alias=eB) (hx:t.n.text=eB) (hw:Ws t):ItemAt fq190 tq257 34 2 b t G:=by
 refine⟨⟨lb,nb,_,_,hl,hn,hb,rfl,rfl⟩,?_,hk,ha,hx,hw⟩
 intro H tk c1 c2 D ht hD h1 h2
 rw[hks,k0L,k0L] at hD⊢
 simp only[List.length_append] at hD
 have bx:=ht.ext.get _ _ hb (by simp)
 refine k5V.enter c1 c2 H _ ?_
 unfold k5V.W
 refine⟨_,lcO h1 rfl,_,lcO h2 rfl,_,lcO bx rfl,?_⟩
 refine(hd H tk D ht (by omega)).mono ?_
 rintro _ H5 ⟨rfl,k5,Y,hY,t5⟩
 have q1:=k5.get _ _ _ _ h1 (by decide) (by decide) (by decide)
 have q2:=k5.get _ _ _ _ h2 (by decide) (by decide) (by decide)
 have bx5:=t5.ext.get _ _ hb (by simp)
 have hYl:=hY.len
 refine⟨(),rfl,_,lcO q1 rfl,_,lcO q2 rfl,xs,lcO bx5 rfl,?_⟩
 refine(hs H5 tk _ t5 (by rw[List.length_append];omega)).mono ?_
 rintro _ H6 ⟨rfl,k6,Z,hZ,t6⟩
 have p1:=k6.get _ _ _ _ q1 (by decide) (by decide) (by decide)
 have p2:=k6.get _ _ _ _ q2 (by decide) (by decide) (by decide)
 have bx6:=t6.ext.get _ _ hb (by simp)
 have hZl:=hZ.len
 have hnl:xm.2.1=ms.length:=by have:=hm.1;simp at this;rw[this,hv.len]
 have hml:ms.length≤(k0a ms).length:=k2v ms
 refine⟨(),rfl,_,lcO p2 rfl,xm,lcO bx6 rfl,?_⟩
 refine k2Q ms xm.2.1 hnl (by omega) (KpT.refl H6) t6 (fun k kt H8 U next hi k8 hU t8 hnext=>?_) (fun H8 U k8 hU t8=>rkI (Took.seq k5 hY (Took.seq k6 hZ ⟨rfl,k8,U,hU,t8⟩))) (fun k H8 next=>rfl)
 obtain⟨xb,hxi,hI⟩:=hv.get k kt hi
 have hL:=(hm.keep t8.ext).load (i:=k) (v:=ptV xb) (by simp[hxi])
 have hlen:=k2J ms (k+1)
 rw[k3o ms k kt hi,List.length_append] at hlen
 have hUl:=hU.len
 refine⟨hL.1,xb,hL.2,?_⟩
 refine cap1 t8 xb tq123 fun b9 H9 x9 t9 h9=>?_
 have k9:=k8.trans x9.kpT
 refine k85 kjb.enter (by unfold k0V;decide) (by decide) hI t9 (by simp only[List.length_append];omega) (k9.get _ _ _ _ p1 (by decide) (by decide) (by decide)) h9 fun H11 W k11 hW t11=>?_
 rw[k0h (k:=k) (by have:=(List.getElem?_eq_some_iff.1 hi).1;omega)]
 exact hnext H11 W (k9.trans k11) hW t11
theorem kgE {xd:OA} {xs xm:Sl} {de ar ms:List Tr} {bs:List Nat} {k0:Value} (hl:k0B lb G) (hn:k0W nb t.n.name G)
 (hb:G[b]?=some (.cells #[k0,.pointer (some ⟨lb,0,none⟩),.pointer (some ⟨nb,0,none⟩),.pointer xd,.slice xs.1 xs.2.1 xs.2.2,.slice xm.1 xm.2.1 xm.2.2] tq273))
 (hd:k1V xd (k0a de) G) (hs:k0O fq71 xs (k0a ar) G) (hm:SlAt xm (bs.map ptV) G) (hv:All2 (fun b (k:Tr)=>k0W b k.n.name G) bs ms) (hmf: ∀m∈ms,Fine m∧m.n.kind=38)
 (hks:t.ks=de++(ar++ms)) (hk:t.n.kind=37) (ha:t.n.alias=eB) (hx:t.n.text=eB) (hw:Ws t):ItemAt fq193 tq270 37 2 b t G:=by
 refine⟨⟨lb,nb,_,_,hl,hn,hb,rfl,rfl⟩,?_,hk,ha,hx,hw⟩
 intro H tk c1 c2 D ht hD h1 h2
 rw[hks,k0L,k0L] at hD⊢
 simp only[List.length_append] at hD
 have bx:=ht.ext.get _ _ hb (by simp)
 refine k5Y.enter c1 c2 H _ ?_
 unfold k5Y.W
 refine⟨_,lcO h1 rfl,_,lcO h2 rfl,_,lcO bx rfl,?_⟩
 refine(hd H tk D ht (by omega)).mono ?_
 rintro _ H5 ⟨rfl,k5,Y,hY,t5⟩
 have q1:=k5.get _ _ _ _ h1 (by decide) (by decide) (by decide)
 have q2:=k5.get _ _ _ _ h2 (by decide) (by decide) (by decide)
 have bx5:=t5.ext.get _ _ hb (by simp)
 have hYl:=hY.len
 refine⟨(),rfl,_,lcO q1 rfl,_,lcO q2 rfl,xs,lcO bx5 rfl,?_⟩
 refine(hs H5 tk _ t5 (by rw[List.length_append];omega)).mono ?_
 rintro _ H6 ⟨rfl,k6,Z,hZ,t6⟩
 have p1:=k6.get _ _ _ _ q1 (by decide) (by decide) (by decide)
 have p2:=k6.get _ _ _ _ q2 (by decide) (by decide) (by decide)
 have bx6:=t6.ext.get _ _ hb (by simp)
 have hZl:=hZ.len
 have hnl:xm.2.1=ms.length:=by have:=hm.1;simp at this;rw[this,hv.len]
 have hml:ms.length≤(k0a ms).length:=k2v ms
 refine⟨(),rfl,_,lcO p2 rfl,xm,lcO bx6 rfl,?_⟩
 refine k2Q ms xm.2.1 hnl (by omega) (KpT.refl H6) t6 (fun k kt H8 U next hi k8 hU t8 hnext=>?_) (fun H8 U k8 hU t8=>rkI (Took.seq k5 hY (Took.seq k6 hZ ⟨rfl,k8,U,hU,t8⟩))) (fun k H8 next=>rfl)
 obtain⟨xb,hxi,lb2,⟨ls2,le2,lq2,hl2⟩,hbx⟩:=hv.get k kt hi
 obtain⟨hkf,hkk⟩:=hmf kt (List.mem_of_getElem? hi)
 have hL:=(hm.keep t8.ext).load (i:=k) (v:=ptV xb) (by simp[hxi])
 have r1:=k8.get _ _ _ _ p1 (by decide) (by decide) (by decide)
 have bx8:=t8.ext.get _ _ hbx (by simp)
 have hlen:=k2J ms k
 have hUl:=hU.len
 refine⟨hL.1,xb,hL.2,_,lcO r1 rfl,_,lcO bx8 rfl,?_⟩
 refine(k2R xb kt.n.name H8 bx8).mono ?_
 rintro _ _ ⟨rfl,rfl⟩
 refine⟨_,rfl,lcO bx8 rfl,lcO r1 rfl,?_⟩
 refine(k53 t8 (by simp only[List.length_append];omega) lb2 hl2 ⟨38,kt.n.name,eB,eB,0,0⟩).mono ?_
 rintro _ H9 ⟨rfl,k9,t9⟩
 refine⟨(),rfl,?_⟩
 rw[k0h (k:=k) (by have:=(List.getElem?_eq_some_iff.1 hi).1;omega)]
 exact hnext H9 _ (k8.trans k9) (k2B (k4N hkf.1 (by omega)) hkf.2.1 ⟨38,kt.n.name,eB,eB,0,0⟩ hkk.symm rfl (k0R hkf.1.self.1 (by omega)).symm (k1l hkf.1.self.1.2 (by omega)).symm (fun h=>by simp at h)) t9
theorem kgL {xd:OA} {xi xs xf:Sl} {de is ds fs:List Tr} {bs:List Nat} {k0:Value} (hl:k0B lb G) (hn:k0W nb t.n.name G)
 (hb:G[b]?=some (.cells #[k0,.pointer (some ⟨lb,0,none⟩),.pointer (some ⟨nb,0,none⟩),.pointer xd,.slice xi.1 xi.2.1 xi.2.2,.slice xs.1 xs.2.1 xs.2.2,.slice xf.1 xf.2.1 xf.2.2] tq238))
 (hd:k1V xd (k0a de) G) (hm:SlAt xi (bs.map ptV) G) (hv:keS 28 bs is G) (hs:k0O fq65 xs (k0a ds) G) (hF:k0O fq70 xf (k0a fs) G)
 (hks:t.ks=de++(is++(ds++fs))) (hk:t.n.kind=27) (ha:t.n.alias=eB) (hx:t.n.text=eB) (hw:Ws t):ItemAt fq216 tq235 27 2 b t G:=by
 refine⟨⟨lb,nb,_,_,hl,hn,hb,rfl,rfl⟩,?_,hk,ha,hx,hw⟩
 intro H tk c1 c2 D ht hD h1 h2
 rw[hks,k0L,k0L,k0L] at hD⊢
 simp only[List.length_append] at hD
 have bx:=ht.ext.get _ _ hb (by simp)
 refine k5M.enter c1 c2 H _ ?_
 unfold k5M.W
 refine⟨_,lcO h1 rfl,_,lcO h2 rfl,_,lcO bx rfl,?_⟩
 refine(hd H tk D ht (by omega)).mono ?_
 rintro _ H5 ⟨rfl,k5,Y,hY,t5⟩
 have q1:=k5.get _ _ _ _ h1 (by decide) (by decide) (by decide)
 have q2:=k5.get _ _ _ _ h2 (by decide) (by decide) (by decide)
 have bx5:=t5.ext.get _ _ hb (by simp)
 have hYl:=hY.len
 have hnl:xi.2.1=is.length:=by have:=hm.1;simp at this;rw[this,hv.1.len]
 have hml:is.length≤(k0a is).length:=k2v is
 refine⟨(),rfl,_,lcO q2 rfl,xi,lcO bx5 rfl,?_⟩
 refine k2Q is xi.2.1 hnl (by omega) (KpT.refl H5) t5 (fun k kt H8 U next hi k8 hU t8 hnext=>?_) (fun H8 U k8 hU t8=>?_) (fun k H8 next=>rfl)
 ·obtain⟨xb,hxi,lb2,nb2,⟨ls2,le2,lq2,hl2⟩,⟨lb3,_,hnm⟩,hbx⟩:=hv.1.get k kt hi
  obtain⟨hkf,hkk⟩:=hv.2 kt (List.mem_of_getElem? hi)
  have hL:=(hm.keep t8.ext).load (i:=k) (v:=ptV xb) (by simp[hxi])
  have r1:=k8.get _ _ _ _ q1 (by decide) (by decide) (by decide)
  have bx8:=t8.ext.get _ _ hbx (by simp)
  have hlen:=k2J is k
  have hUl:=hU.len
  refine⟨hL.1,xb,hL.2,_,lcO r1 rfl,_,lcO bx8 rfl,?_⟩
  refine(k4U xb nb2 kt.n.name H8 bx8 (t8.ext.get _ _ hnm (by simp))).mono ?_
  rintro _ _ ⟨rfl,rfl⟩
  refine⟨_,rfl,lcO bx8 rfl,lcO r1 rfl,?_⟩
  refine(k53 t8 (by simp only[List.length_append];omega) lb2 hl2 ⟨28,kt.n.name,eB,eB,0,0⟩).mono ?_
  rintro _ H9 ⟨rfl,k9,t9⟩
  refine⟨(),rfl,?_⟩
  rw[k0h (k:=k) (by have:=(List.getElem?_eq_some_iff.1 hi).1;omega)]
  exact hnext H9 _ (k8.trans k9) (k2B (k4N hkf.1 (by omega)) hkf.2.1 ⟨28,kt.n.name,eB,eB,0,0⟩ hkk.symm rfl (k0R hkf.1.self.1 (by omega)).symm (k1l hkf.1.self.1.2 (by omega)).symm (fun h=>by simp at h)) t9
 have p1:=k8.get _ _ _ _ q1 (by decide) (by decide) (by decide)
 have p2:=k8.get _ _ _ _ q2 (by decide) (by decide) (by decide)
 have bx8:=t8.ext.get _ _ hb (by simp)
 have hUl:=hU.len
 refine⟨_,lcO p1 rfl,_,lcO p2 rfl,xs,lcO bx8 rfl,?_⟩
 refine(hs H8 tk _ t8 (by simp only[List.length_append];omega)).mono ?_
 rintro _ H9 ⟨rfl,k9,Z,hZ,t9⟩
 have r1:=k9.get _ _ _ _ p1 (by decide) (by decide) (by decide)
 have r2:=k9.get _ _ _ _ p2 (by decide) (by decide) (by decide)
 have bx9:=t9.ext.get _ _ hb (by simp)
 have hZl:=hZ.len
 refine⟨(),rfl,_,lcO r1 rfl,_,lcO r2 rfl,xf,lcO bx9 rfl,?_⟩
 refine(hF H9 tk _ t9 (by simp only[List.length_append];omega)).mono ?_
 intro v' H10 hT
 obtain rfl:=hT.unit
 exact⟨(),rfl,rkI (Took.seq k5 hY (Took.seq k8 hU (Took.seq k9 hZ hT)))⟩
theorem kem (hI:ItemAt fq216 tq235 27 2 b t G) {H:Heap} {tk:Nat} {D:List Nd} (h:TkAt G H tk D) (hD:D.length+(flat t).length≤5000):
 Fn PP fq187 #[.pointer (some ⟨tk,0,none⟩),.pointer (some ⟨b,0,none⟩)] H (Took G tk H D (flat t)):=by
 refine k6t.enter tk b H _ ?_
 unfold k6t.W
 refine nbI fun H1 e1 hb1 x1 s1=>nbI fun H2 e2 hb2 x2 s2=>?_
 have x12:=x1.trans x2
 have h1:=x2.get _ _ hb1 (by simp)
 refine k85 (c1:=H.size) (c2:=H1.size) kj2.enter (by unfold k0V;decide) (by decide) hI (h.grow x12) hD h1 hb2 fun H' Z k hZ ht=>?_
 exact rkI ⟨rfl,x12.kpT.trans k,Z,hZ,ht⟩
def kb2 (b:Nat) (t:Tr) (G:Heap):Prop:= ∃(lb ob:Nat) (k0:Value) (o:Tr),k0B lb G∧G[b]?=some (.cells #[k0,.pointer (some ⟨lb,0,none⟩),.pointer (some ⟨ob,0,none⟩)] tq269)∧
 ItemAt fq216 tq235 27 2 ob o G∧t.ks=[o]
end
theorem k7M (T eT:Nat) (he:k15 eT) {f:FuncId} {E:PEnv} {Q:Nat→Tr→Heap→Prop} (Fo:KV→Prop) {l:List Tr} (hlen:l.length≤400) (hne:l≠ [])
 (hP: ∀t∈l,∀(u:KV) (r:List KV),Fo u→POk E f #[.pointer (some ⟨E.p,0,none⟩)] (kvs t++u::r) (u::r) (ifP T) fun b G=>Q b t G)
 (hF: ∀t∈l,∃h r,kvs t=h::r∧Fo h∧h.1≠14) (hc:Fo (14,eB)) {u:KV} {r:List KV} {H:Heap} (ps:PS E H (kBL::(l.flatMap kvs++kBR::u::r)))
 {args:Array Value} (hRev: ∀R,k1q.W f E.p 12 14 false H R→Fn PP fq139 args H R) {K:Sl→Heap→Prop}
 (hk: ∀(y:Sl) (bs:List Nat) (H':Heap),(Cx E H H' (u::r) fun G=>SlAt y (bs.map ptV) G∧All2 (fun b t=>Q b t G) bs l)→K y H'):
 k00 PP fq139 args H ⟨Sl,fun x=>(.tuple #[(.slice x.1 x.2.1 x.2.2),nI])⟩ fun(x10:Sl) H11=>
 newB H11 (.cells #[] eT) fun b12 H13=>
 k0e (Sl×Int×Unit) (((some ⟨b12,0,none⟩),0,0),0,()) H13 fun z14 H15 next16=>
 k02 (decide (z14.2.1<((x10.2.1:Nat):Int)))
 ((IxOk x10.1 z14.2.1 x10.2.1)∧
   k01 H15 false 1 ⟨(k0c x10.1),(k0b x10.1+z14.2.1.toNat*1),none⟩ ⟨Nat,fun x=>(.iface T (.pointer (some ⟨x,0,none⟩)))⟩ fun(x17:Nat)=>
   newB H15 (.cells #[(.pointer (some ⟨x17,0,none⟩))] eT) fun b18 H19=>
   appK H19 eT 1 8 z14.1.1 z14.1.2.1 z14.1.2.2 (some ⟨b18,0,none⟩) 1 fun a20 c21 H22=>
   next16 ((a20,(z14.1.2.1+1),c21),(IntKind.i64.wrap (z14.2.1+1)),()) H22)
 (K z14.1 H15):=by
 refine k6H T eT he Fo hlen hne hP hF hc ps hRev fun x bs H4 hbl c4=>?_
 refine nbI fun H5 e5 hb5 x5 s5=>?_
 exact k5r T eT he E c4 (by omega) (Ext.refl _ _) ps.lt x5 hb5 c4.ext.size (.inr (Nat.le_refl _)) fun y H6 c6=>hk y bs H6 c6
theorem ke4 {f:FuncId} {eT:TypeId} (he:k15 eT) {E:PEnv} {Q:Nat→Tr→Heap→Prop} {k:Int} {l:List Tr} (hp: ∀m∈l,∀(w1:KV) (w2:List KV),POk E f #[.pointer (some ⟨E.p,0,none⟩)] (nmK m.n.name::w1::w2) (w1::w2) P1v fun b G=>Q b m G)
 (hkv: ∀m∈l,kvs m=[nmK m.n.name]) (hne:l≠ []) (hlen:l.length≤400) {u:KV} {r:List KV} (hu:u.1≠k) {A H3:Heap} {b0:Nat}
 (l0:Lst E A H3 (sepK (some (k,eB)) (kvL l)++u::r) eT (some ⟨b0,0,none⟩,0,0) ptV Q [] []) {R:Value→Heap→Prop}
 (hR: ∀(y:Sl) (bs:List Nat) (H':Heap),(Cx E A H' (u::r) fun G=>SlAt y (bs.map ptV) G∧All2 (fun b m=>Q b m G) bs l)→R (slV y) H'):
 k0e (Sl×Unit) (((some ⟨b0,0,none⟩),0,0),()) H3 fun z3 H4 next5=>
 k00 PP f #[(.pointer (some ⟨E.p,0,none⟩))] H4 ⟨Nat,fun x=>(.tuple #[(.pointer (some ⟨x,0,none⟩)),nI])⟩ fun(x6:Nat) H7=>
 newB H7 (.cells #[(.pointer (some ⟨x6,0,none⟩))] eT) fun b8 H9=>
 appK H9 eT 1 8 z3.1.1 z3.1.2.1 z3.1.2.2 (some ⟨b8,0,none⟩) 1 fun a10 c11 H12=>
 k00 PP fq150 #[(.pointer (some ⟨E.p,0,none⟩)),(.int .i64 k)] H12 ⟨Bool,fun x=>(.tuple #[(.bool x),nI])⟩ fun(x13:Bool) H14=>
 k02 (!x13)
 (rk [(.slice a10 (z3.1.2.1+1) c11),nI] H14 R)
 (next5 ((a10,(z3.1.2.1+1),c11),()) H14):=by
 refine⟨fun z H'=> ∃(done rest:List Tr) (m:Tr) (bs:List Nat),l=done++m::rest∧Lst E A H' (sepK (some (k,eB)) (kvL (m::rest))++u::r) eT z.1 ptV Q bs done,fun z _=>l.length -z.1.2.1,?_,?_⟩
 ·cases l with
  |nil=>exact absurd rfl hne
  |cons m rest=>exact⟨[],rest,m,[],rfl,l0⟩
 rintro⟨⟨xa,xn,xc⟩,_⟩ H4 ⟨done,rest,m,bs,hl4,l4⟩
 dsimp only at l4⊢
 have hn:=l4.own.1
 simp only[List.length_map,Nat.mul_one] at hn
 have hbl:=l4.facts.len
 have hll:=congrArg List.length hl4
 simp only[List.length_append,List.length_cons] at hll
 have hmm:m∈l:=by rw[hl4];simp
 obtain⟨w1,w2,hw,hcase⟩: ∃w1 w2,sepK (some (k,eB)) (kvL (m::rest))++u::r=nmK m.n.name::w1::w2∧
  (rest=[]∧w1=u∧w2=r∨ ∃m2 rest2,rest=m2::rest2∧w1=(k,eB)∧w2=sepK (some (k,eB)) (kvL (m2::rest2))++u::r):=by
  cases rest with
  |nil=>exact⟨u,r,by simp[kvL,sepK,hkv m hmm],.inl ⟨rfl,rfl,rfl⟩⟩
  |cons m2 rest2=>
   refine⟨(k,eB),sepK (some (k,eB)) (kvL (m2::rest2))++u::r,?_,.inr ⟨m2,rest2,rfl,rfl,rfl⟩⟩
   have e:sepK (some (k,eB)) (kvL (m::m2::rest2))=kvs m++([(k,eB)]++sepK (some (k,eB)) (kvL (m2::rest2))):=by simp only[kvL,sepK];rfl
   rw[e,hkv m hmm]
   simp
 rw[hw] at l4
 refine l4.call (hp m hmm w1 w2) fun y H5 l5 f5=>?_
 refine l5.push (b:=y) (m:=m) he (fun _=>rfl) 8 (by decide) (by omega) f5 fun a c H6 l6=>?_
 rcases hcase with⟨rfl,rfl,rfl⟩|⟨m2,rest2,rfl,rfl,rfl⟩
 ·refine l6.call1 (k3v E _ _ k hu) false rfl fun H7 l7=>?_
  refine fkI (fun _=>?_) (fun hh=>absurd hh (by decide))
  refine rkI (hR (a,xn+1,c) (bs++[y]) H7 (l7.fin.weak fun G hG=>⟨hG.1,?_⟩))
  rw[hl4]
  exact hG.2
 ·obtain⟨z1,z2,hz⟩:=k0P (sepK (some (k,eB)) (kvL (m2::rest2))) u r
  rw[hz] at l6
  refine l6.call1 (k3S E (k,eB) z1 z2 k rfl) true rfl fun H7 l7=>?_
  refine fkI (fun hh=>absurd hh (by decide)) (fun _=>?_)
  rw[←hz] at l7
  refine⟨⟨done++[m],rest2,m2,bs++[y],by rw[hl4];simp,l7⟩,?_⟩
  simp only[List.length_cons] at hll
  omega
theorem kcA (t:Tr) (hk:t.n.kind=29) (hf:Fine t): ∃h r,kvs t=h::r∧NoT h∧h.1≠14:=by
 obtain⟨de,ar,ds,ty,h1,h2,h3,h4,h5,h6⟩:=kbZ hf hk
 rw[k9I hk h1 h2 h4 h5 h6]
 rcases k27 h3 with rfl|⟨d,rfl⟩
 ·exact⟨nmK t.n.name,_,rfl,⟨by simp,by simp,by simp,by simp⟩,by simp⟩
 ·have hkd:=k0f h2 d (by simp)
  refine⟨strK d.n,_,by simp[kvF,k3L hkd];rfl,?_,?_⟩
  ·unfold NoT;rcases k35 d.n with h|h<;>rw[h]<;>decide
  ·rcases k35 d.n with h|h<;>rw[h]<;>decide
theorem khm (t:Tr) (hk:t.n.kind=35) (hf:Fine t): ∃h r,kvs t=h::r∧NoT h∧h.1≠14:=by
 obtain⟨de,ds,h1,h2,h3,h4⟩:=k6P hf (by omega)
 rw[k9G hk h1 h2 h4]
 rcases k27 h3 with rfl|⟨d,rfl⟩
 ·exact⟨nmK t.n.name,_,rfl,⟨by simp,by simp,by simp,by simp⟩,by simp⟩
 ·have hkd:=k0f h2 d (by simp)
  refine⟨strK d.n,_,by simp[kvF,k3L hkd];rfl,?_,?_⟩
  ·unfold NoT;rcases k35 d.n with h|h<;>rw[h]<;>decide
  ·rcases k35 d.n with h|h<;>rw[h]<;>decide
theorem khn (t:Tr) (hk:t.n.kind=30) (hf:Fine t): ∃h r,kvs t=h::r∧NoT h∧h.1≠14:=by
 obtain⟨de,vs,ds,ty,hks,hde,h1,hty,hvs,hv1,hds⟩: ∃(de vs ds:List Tr) (ty:Tr),t.ks=de++(ty::(vs++ds))∧InK [23] de∧de.length≤1∧k0q ty.n=true∧(∀v∈vs,k0n v.n=true)∧vs.length≤1∧InK [10] ds:=by
  cases hf.1.self.2 with
  |inputDef de vs ds ty _ h1 h2 h3 h4 h5 h6 h7 h8=>exact⟨de,vs,ds,ty,h1,h2,h3,h4,h5,h6,h7⟩
  |_=>omega
 rw[k9M hk hks hde hty hvs hv1 hds]
 rcases k27 h1 with rfl|⟨d,rfl⟩
 ·exact⟨nmK t.n.name,_,rfl,⟨by simp,by simp,by simp,by simp⟩,by simp⟩
 ·have hkd:=k0f hde d (by simp)
  refine⟨strK d.n,_,by simp[kvF,k3L hkd];rfl,?_,?_⟩
  ·unfold NoT;rcases k35 d.n with h|h<;>rw[h]<;>decide
  ·rcases k35 d.n with h|h<;>rw[h]<;>decide
theorem kds (H:Heap):Fn PP fq33 #[.int .i64 31] H fun v H'=>v= .string k2j∧H=H':=by
 refine partName.enter 31 H _ ?_
 unfold partName.W
 repeat refine fkI (fun hh=>absurd hh (by decide)) (fun _=>?_)
 refine fkI (fun _=>rkI ⟨rfl,rfl⟩) (fun hh=>absurd hh (by decide))
theorem kdu (H:Heap):Fn PP fq33 #[.int .i64 34] H fun v H'=>v= .string k2h∧H=H':=by
 refine partName.enter 34 H _ ?_
 unfold partName.W
 repeat refine fkI (fun hh=>absurd hh (by decide)) (fun _=>?_)
 refine fkI (fun _=>rkI ⟨rfl,rfl⟩) (fun hh=>absurd hh (by decide))
theorem kdv (H:Heap):Fn PP fq33 #[.int .i64 36] H fun v H'=>v= .string k2i∧H=H':=by
 refine partName.enter 36 H _ ?_
 unfold partName.W
 repeat refine fkI (fun hh=>absurd hh (by decide)) (fun _=>?_)
 refine fkI (fun _=>rkI ⟨rfl,rfl⟩) (fun hh=>absurd hh (by decide))
theorem kdr (H:Heap):Fn PP fq33 #[.int .i64 27] H fun v H'=>v= .string k2k∧H=H':=by
 refine partName.enter 27 H _ ?_
 unfold partName.W
 repeat refine fkI (fun hh=>absurd hh (by decide)) (fun _=>?_)
 refine fkI (fun _=>rkI ⟨rfl,rfl⟩) (fun hh=>absurd hh (by decide))
theorem kdx (H:Heap):Fn PP fq33 #[.int .i64 39] H fun v H'=>v= .string k2E∧H=H':=by
 refine partName.enter 39 H _ ?_
 unfold partName.W
 repeat refine fkI (fun hh=>absurd hh (by decide)) (fun _=>?_)
 refine fkI (fun _=>rkI ⟨rfl,rfl⟩) (fun hh=>absurd hh (by decide))
abbrev k6N:BA:=bs [100,105,114,101,99,116,105,118,101,32,100,101,102,105,110,105,116,105,111,110]
theorem kdw (H:Heap):Fn PP fq33 #[.int .i64 37] H fun v H'=>v= .string k6N∧H=H':=by
 refine partName.enter 37 H _ ?_
 unfold partName.W
 repeat refine fkI (fun hh=>absurd hh (by decide)) (fun _=>?_)
 refine fkI (fun _=>rkI ⟨rfl,rfl⟩) (fun hh=>absurd hh (by decide))
theorem kkX (kind:Int) {b:Nat} {t:Tr} {G:Heap} (hf:Fine t) (h:ItemAt fq188 tq248 31 2 b t G):k0Y kind tq248 b (flat t) G:=by
 intro H tk D ht hD
 refine k7b.enter tk b kind H _ ?_
 unfold k7b.W
 refine nbI fun H2 e2 hb2 x2 s2=>?_
 refine⟨fun w=>by kernel_rfl,?_⟩
 have t2:=ht.grow x2
 refine⟨_,lcO hb2 rfl,k5w.enter tk b H2 _ ?_⟩
 unfold k5w.W
 refine nbI fun H3 e3 hb3 x3 s3=>?_
 have t3:=t2.grow x3
 refine⟨_,lcO hb3 rfl,?_⟩
 have:=k3q kj8.enter (by unfold k0V;decide) (by decide) h t3 (k1y hf.2.2 hD)
 refine(k8A.enter tk b H3 _ this).mono ?_
 rintro v H4 ⟨rfl,k4,Y,hY,t4⟩
 exact⟨(),rfl,rkI ⟨(),rfl,rkI ⟨rfl,Y,hY,t4⟩⟩⟩
theorem kkQ (kind:Int) {b:Nat} {t:Tr} {G:Heap} (hf:Fine t) (h:ItemAt fq190 tq257 34 2 b t G):k0Y kind tq257 b (flat t) G:=by
 intro H tk D ht hD
 refine k76.enter tk b kind H _ ?_
 unfold k76.W
 refine nbI fun H2 e2 hb2 x2 s2=>?_
 refine⟨fun w=>by kernel_rfl,?_⟩
 have t2:=ht.grow x2
 refine⟨_,lcO hb2 rfl,k5t.enter tk b H2 _ ?_⟩
 unfold k5t.W
 refine nbI fun H3 e3 hb3 x3 s3=>?_
 have t3:=t2.grow x3
 refine⟨_,lcO hb3 rfl,?_⟩
 have:=k3q kja.enter (by unfold k0V;decide) (by decide) h t3 (k1y hf.2.2 hD)
 refine(k8y.enter tk b H3 _ this).mono ?_
 rintro v H4 ⟨rfl,k4,Y,hY,t4⟩
 exact⟨(),rfl,rkI ⟨(),rfl,rkI ⟨rfl,Y,hY,t4⟩⟩⟩
theorem kkV (kind:Int) {b:Nat} {t:Tr} {G:Heap} (hf:Fine t) (h:ItemAt fq192 tq262 36 2 b t G):k0Y kind tq262 b (flat t) G:=by
 intro H tk D ht hD
 refine k7a.enter tk b kind H _ ?_
 unfold k7a.W
 refine nbI fun H2 e2 hb2 x2 s2=>?_
 refine⟨fun w=>by kernel_rfl,?_⟩
 have t2:=ht.grow x2
 refine⟨_,lcO hb2 rfl,k5v.enter tk b H2 _ ?_⟩
 unfold k5v.W
 refine nbI fun H3 e3 hb3 x3 s3=>?_
 have t3:=t2.grow x3
 refine⟨_,lcO hb3 rfl,?_⟩
 have:=k3q kjc.enter (by unfold k0V;decide) (by decide) h t3 (k1y hf.2.2 hD)
 refine(k8z.enter tk b H3 _ this).mono ?_
 rintro v H4 ⟨rfl,k4,Y,hY,t4⟩
 exact⟨(),rfl,rkI ⟨(),rfl,rkI ⟨rfl,Y,hY,t4⟩⟩⟩
theorem kkM (kind:Int) {b:Nat} {t:Tr} {G:Heap} (hf:Fine t) (h:ItemAt fq193 tq270 37 2 b t G):k0Y kind tq270 b (flat t) G:=by
 intro H tk D ht hD
 refine k75.enter tk b kind H _ ?_
 unfold k75.W
 refine nbI fun H2 e2 hb2 x2 s2=>?_
 refine⟨fun w=>by kernel_rfl,?_⟩
 have t2:=ht.grow x2
 refine⟨_,lcO hb2 rfl,k5s.enter tk b H2 _ ?_⟩
 unfold k5s.W
 refine nbI fun H3 e3 hb3 x3 s3=>?_
 have t3:=t2.grow x3
 refine⟨_,lcO hb3 rfl,?_⟩
 have:=k3q kjd.enter (by unfold k0V;decide) (by decide) h t3 (k1y hf.2.2 hD)
 refine(k8x.enter tk b H3 _ this).mono ?_
 rintro v H4 ⟨rfl,k4,Y,hY,t4⟩
 exact⟨(),rfl,rkI ⟨(),rfl,rkI ⟨rfl,Y,hY,t4⟩⟩⟩
theorem k9v {t:Tr} (hf:Fine t) (hk:t.n.kind=31): ∃(de ds fs:List Tr),t.ks=de++(ds++fs)∧InK [23] de∧de.length≤1∧InK [10] ds∧InK [29] fs∧fs≠ []:=by
 cases hf.1.self.2 with
 |interface de ds fs _ h1 h2 h3 h4 h5 h6 _=>exact⟨de,ds,fs,h1,h2,h3,h4,h5,List.length_pos_iff.1 h6⟩
 |_=>omega
theorem k9N {t:Tr} {de ds fs:List Tr} (hk:t.n.kind=31) (hks:t.ks=de++(ds++fs)) (hde:InK [23] de) (hds:InK [10] ds) (hfs:InK [29] fs):kvs t=kvF de++(nmK k2j::nmK t.n.name::(kvF ds++brK (some kBL) (some kBR) fs)):=by
 have e1:=k3u hde (l:=ds++fs) fun x hx=>by
  rcases List.mem_append.1 hx with h|h
  ·rw[k0f hds x h];decide
  ·rw[k0f hfs x h];decide
 have e2:k0o (kvL (de++(ds++fs)))=kvF ds:=by
  unfold k0o
  rw[k0T (l:=ds) (by rw[k0p,k0p,k0H (fun x hx=>by rw[k0f hde x hx];decide),k0Q hds (by simp),k0H (l:=fs) (fun x hx=>by rw[k0f hfs x hx];decide),List.nil_append,List.append_nil]),k1x]
 have e3:k0g (some kBL) (some kBR) none [29] (kvL (de++(ds++fs)))=brK (some kBL) (some kBR) fs:=
  k0T (l:=fs) (by rw[k0p,k0p,k0H (fun x hx=>by rw[k0f hde x hx];decide),k0H (l:=ds) (fun x hx=>by rw[k0f hds x hx];decide),k0Q hfs (by simp),List.nil_append,List.nil_append])
 rw[k0z,hks];simp[k0r,k0E,defK,hk,e1,e2,e3]
theorem kiI (E:PEnv) (t:Tr) (hk:t.n.kind=31) (hf:Fine t) (u:KV) (r:List KV):
 POk E fq98 #[.pointer (some ⟨E.p,0,none⟩)] (kvs t++u::r) (u::r) (ifP tq248) fun b G=>ItemAt fq188 tq248 31 2 b t G:=by
 intro H ps
 obtain⟨de,ds,fs,hks,hde,h1,hds,hfs,hfn⟩:=k9v hf hk
 have hkf:=k1A hf
 have hlen:=hf.few
 rw[hks] at hkf hlen
 simp only[List.length_append] at hlen
 have hff: ∀m∈fs,Fine m:=fun m hm=>hkf m (by simp[hm])
 rw[k9N hk hks hde hds hfs] at ps
 simp only[List.append_assoc,List.cons_append] at ps
 rw[k2W hfn] at ps
 refine parseInterfaceTypeDefinition.enter _ H _ ?_
 unfold parseInterfaceTypeDefinition.W
 obtain⟨w0,w1,hw0⟩:=k0P (kvF de) (nmK k2j) (nmK t.n.name::(kvF ds++(kBL::(fs.flatMap kvs++kBR::u::r))))
 have ps':=ps
 rw[hw0] at ps'
 obtain⟨st,hst,_⟩:=ps'.start
 refine⟨_,hst,?_⟩
 refine(Cx.start ps).call (p:=opP) (k31 E de hde h1 (fun x hx=>hkf x (by simp[hx])) _ _ ⟨by simp,by simp⟩) fun xd H1 _ c1=>?_
 refine c1.call (k2u E _ _ k2j) fun _ H2 _ c2=>?_
 obtain⟨w2,w3,hw2⟩:=k0P (kvF ds) kBL (fs.flatMap kvs++kBR::u::r)
 rw[hw2] at c2
 refine c2.call (k1p E t.n.name w2 w3) fun nb H3 _ c3=>?_
 rw[←hw2] at c3
 refine c3.call (p:=slP) (k1T E ds hds (fun x hx=>hkf x (by simp[hx])) (by omega) kBL _ (by decide) (by decide)) fun xs H4 _ c4=>?_
 refine k7M tq117 tq117 (by unfold k15;decide) (Q:=fun b t G=>ItemAt fq122 tq117 29 2 b t G) NoT (by omega) hfn (fun m hm u' r' hu'=>kag E m (k0f hfs m hm) (hff m hm) u' r' hu') (fun m hm=>kcA m (k0f hfs m hm) (hff m hm)) ⟨by decide,by decide,by decide,by decide⟩ c4.ps (fun R h=>kdO.enter _ _ _ _ _ R h)
  (K:=fun y H'=>k00 PP fq141 #[(.pointer (some ⟨E.p,0,none⟩)),(.int .i64 (st:Int))] H' pBlk fun(x23:Nat) H24=>
    newB H24 (.cells #[(.string (Go.Vx.bs [])),(.pointer (some ⟨x23,0,none⟩)),(.pointer (some ⟨nb,0,none⟩)),(.pointer xd),(.slice xs.1 xs.2.1 xs.2.2),(.slice y.1 y.2.1 y.2.2)] tq251) fun b25 H26=>
    k00 PP fq156 #[(.pointer (some ⟨b25,0,none⟩))] H26 pBlk fun(x27:Nat) H28=>
    rk [(.iface tq248 (.pointer (some ⟨x27,0,none⟩))),nI] H28 _) fun y bs H5 c5=>?_
 refine(c4.trans c5).call (k0D E _ _) fun lb H6 _ c6=>?_
 refine c6.node (kf7 _ _ _ _ _ _ _ _ _) fun b H7 _ c7=>?_
 refine rkI ⟨b,rfl,c7.weak fun G hG=>?_⟩
 obtain⟨⟨⟨⟨⟨⟨⟨_,hd⟩,_⟩,hn⟩,hs⟩,hm,hv⟩,hl⟩,hb⟩:=hG
 exact kgK hl hn hb hd hs (k8C kas.enter (by unfold k0V;decide) (by decide) k9j hm hv) hks hk (k0R hf.1.self.1 (by omega)) (k1l hf.1.self.1.2 (by omega)) hf.2.1
theorem khf:KindOk 31 31 k2j:=k1t 31 31 k2j kds (fun h=>absurd (congrArg ByteArray.size h) (by decide)) (by
 intro t hf hk
 obtain⟨de,ds,fs,h1,h2,h3,h4,h5,h6⟩:=k9v hf hk
 refine⟨by rw[k9N hk h1 h2 h4 h5];simp,?_⟩
 intro E u hu H ps
 refine k0x.enter _ _ H _ ?_
 unfold k0x.W
 repeat refine fkI (fun hh=>(k0N (by decide) hh).elim) (fun _=>?_)
 refine fkI (fun _=>?_) (fun hh=>(k0J hh).elim)
 exact k1B (val:=ifP tq248) (ofA:=fun b=>(tq248,b)) ps ((kiI E t hk hf u []).imp fun b G h=>kkX 31 hf h))
theorem k9f {t:Tr} (hf:Fine t) (hk:t.n.kind=34): ∃(de ds fs:List Tr),t.ks=de++(ds++fs)∧InK [23] de∧de.length≤1∧InK [10] ds∧InK [35] fs∧fs≠ []:=by
 cases hf.1.self.2 with
 |enum de ds fs _ h1 h2 h3 h4 h5 h6 _=>exact⟨de,ds,fs,h1,h2,h3,h4,h5,List.length_pos_iff.1 h6⟩
 |_=>omega
theorem k9F {t:Tr} {de ds fs:List Tr} (hk:t.n.kind=34) (hks:t.ks=de++(ds++fs)) (hde:InK [23] de) (hds:InK [10] ds) (hfs:InK [35] fs):kvs t=kvF de++(nmK k2h::nmK t.n.name::(kvF ds++brK (some kBL) (some kBR) fs)):=by
 have e1:=k3u hde (l:=ds++fs) fun x hx=>by
  rcases List.mem_append.1 hx with h|h
  ·rw[k0f hds x h];decide
  ·rw[k0f hfs x h];decide
 have e2:k0o (kvL (de++(ds++fs)))=kvF ds:=by
  unfold k0o
  rw[k0T (l:=ds) (by rw[k0p,k0p,k0H (fun x hx=>by rw[k0f hde x hx];decide),k0Q hds (by simp),k0H (l:=fs) (fun x hx=>by rw[k0f hfs x hx];decide),List.nil_append,List.append_nil]),k1x]
 have e3:k0g (some kBL) (some kBR) none [35] (kvL (de++(ds++fs)))=brK (some kBL) (some kBR) fs:=
  k0T (l:=fs) (by rw[k0p,k0p,k0H (fun x hx=>by rw[k0f hde x hx];decide),k0H (l:=ds) (fun x hx=>by rw[k0f hds x hx];decide),k0Q hfs (by simp),List.nil_append,List.nil_append])
 rw[k0z,hks];simp[k0r,k0E,defK,hk,e1,e2,e3]
theorem kiF (E:PEnv) (t:Tr) (hk:t.n.kind=34) (hf:Fine t) (u:KV) (r:List KV):
 POk E fq101 #[.pointer (some ⟨E.p,0,none⟩)] (kvs t++u::r) (u::r) (ifP tq257) fun b G=>ItemAt fq190 tq257 34 2 b t G:=by
 intro H ps
 obtain⟨de,ds,fs,hks,hde,h1,hds,hfs,hfn⟩:=k9f hf hk
 have hkf:=k1A hf
 have hlen:=hf.few
 rw[hks] at hkf hlen
 simp only[List.length_append] at hlen
 have hff: ∀m∈fs,Fine m:=fun m hm=>hkf m (by simp[hm])
 rw[k9F hk hks hde hds hfs] at ps
 simp only[List.append_assoc,List.cons_append] at ps
 rw[k2W hfn] at ps
 refine parseEnumTypeDefinition.enter _ H _ ?_
 unfold parseEnumTypeDefinition.W
 obtain⟨w0,w1,hw0⟩:=k0P (kvF de) (nmK k2h) (nmK t.n.name::(kvF ds++(kBL::(fs.flatMap kvs++kBR::u::r))))
 have ps':=ps
 rw[hw0] at ps'
 obtain⟨st,hst,_⟩:=ps'.start
 refine⟨_,hst,?_⟩
 refine(Cx.start ps).call (p:=opP) (k31 E de hde h1 (fun x hx=>hkf x (by simp[hx])) _ _ ⟨by simp,by simp⟩) fun xd H1 _ c1=>?_
 refine c1.call (k2u E _ _ k2h) fun _ H2 _ c2=>?_
 obtain⟨w2,w3,hw2⟩:=k0P (kvF ds) kBL (fs.flatMap kvs++kBR::u::r)
 rw[hw2] at c2
 refine c2.call (k1p E t.n.name w2 w3) fun nb H3 _ c3=>?_
 rw[←hw2] at c3
 refine c3.call (p:=slP) (k1T E ds hds (fun x hx=>hkf x (by simp[hx])) (by omega) kBL _ (by decide) (by decide)) fun xs H4 _ c4=>?_
 refine k7M tq123 tq123 (by unfold k15;decide) (Q:=fun b t G=>k7E b t G) NoT (by omega) hfn (fun m hm u' r' hu'=>by
  obtain⟨a1,a2,a3,a4,a5,a6⟩:=k6P (hff m hm) (.inr (k0f hfs m hm))
  exact kdf E m (k0f hfs m hm) (hff m hm) a3 a4 a5 a6 u' r' hu'.1 hu'.2.1) (fun m hm=>khm m (k0f hfs m hm) (hff m hm)) ⟨by decide,by decide,by decide,by decide⟩ c4.ps (fun R h=>kjL.enter _ _ _ _ _ R h)
  (K:=fun y H'=>k00 PP fq141 #[(.pointer (some ⟨E.p,0,none⟩)),(.int .i64 (st:Int))] H' pBlk fun(x23:Nat) H24=>
    newB H24 (.cells #[(.string (Go.Vx.bs [])),(.pointer (some ⟨x23,0,none⟩)),(.pointer (some ⟨nb,0,none⟩)),(.pointer xd),(.slice xs.1 xs.2.1 xs.2.2),(.slice y.1 y.2.1 y.2.2)] tq260) fun b25 H26=>
    k00 PP fq158 #[(.pointer (some ⟨b25,0,none⟩))] H26 pBlk fun(x27:Nat) H28=>
    rk [(.iface tq257 (.pointer (some ⟨x27,0,none⟩))),nI] H28 _) fun y bs H5 c5=>?_
 refine(c4.trans c5).call (k0D E _ _) fun lb H6 _ c6=>?_
 refine c6.node (keW _ _ _ _ _ _ _ _ _) fun b H7 _ c7=>?_
 refine rkI ⟨b,rfl,c7.weak fun G hG=>?_⟩
 obtain⟨⟨⟨⟨⟨⟨⟨_,hd⟩,_⟩,hn⟩,hs⟩,hm,hv⟩,hl⟩,hb⟩:=hG
 exact kgF hl hn hb hd hs hm (hv.imp fun _ _ h=>kgD h) hks hk (k0R hf.1.self.1 (by omega)) (k1l hf.1.self.1.2 (by omega)) hf.2.1
theorem khb:KindOk 34 34 k2h:=k1t 34 34 k2h kdu (fun h=>absurd (congrArg ByteArray.size h) (by decide)) (by
 intro t hf hk
 obtain⟨de,ds,fs,h1,h2,h3,h4,h5,h6⟩:=k9f hf hk
 refine⟨by rw[k9F hk h1 h2 h4 h5];simp,?_⟩
 intro E u hu H ps
 refine k0x.enter _ _ H _ ?_
 unfold k0x.W
 repeat refine fkI (fun hh=>(k0N (by decide) hh).elim) (fun _=>?_)
 refine fkI (fun _=>?_) (fun hh=>(k0J hh).elim)
 exact k1B (val:=ifP tq257) (ofA:=fun b=>(tq257,b)) ps ((kiF E t hk hf u []).imp fun b G h=>kkQ 34 hf h))
theorem k9t {t:Tr} (hf:Fine t) (hk:t.n.kind=36): ∃(de ds fs:List Tr),t.ks=de++(ds++fs)∧InK [23] de∧de.length≤1∧InK [10] ds∧InK [30] fs∧fs≠ []:=by
 cases hf.1.self.2 with
 |input de ds fs _ h1 h2 h3 h4 h5 h6 _=>exact⟨de,ds,fs,h1,h2,h3,h4,h5,List.length_pos_iff.1 h6⟩
 |_=>omega
theorem k9L {t:Tr} {de ds fs:List Tr} (hk:t.n.kind=36) (hks:t.ks=de++(ds++fs)) (hde:InK [23] de) (hds:InK [10] ds) (hfs:InK [30] fs):kvs t=kvF de++(nmK k2i::nmK t.n.name::(kvF ds++brK (some kBL) (some kBR) fs)):=by
 have e1:=k3u hde (l:=ds++fs) fun x hx=>by
  rcases List.mem_append.1 hx with h|h
  ·rw[k0f hds x h];decide
  ·rw[k0f hfs x h];decide
 have e2:k0o (kvL (de++(ds++fs)))=kvF ds:=by
  unfold k0o
  rw[k0T (l:=ds) (by rw[k0p,k0p,k0H (fun x hx=>by rw[k0f hde x hx];decide),k0Q hds (by simp),k0H (l:=fs) (fun x hx=>by rw[k0f hfs x hx];decide),List.nil_append,List.append_nil]),k1x]
 have e3:k0g (some kBL) (some kBR) none [30] (kvL (de++(ds++fs)))=brK (some kBL) (some kBR) fs:=
  k0T (l:=fs) (by rw[k0p,k0p,k0H (fun x hx=>by rw[k0f hde x hx];decide),k0H (l:=ds) (fun x hx=>by rw[k0f hds x hx];decide),k0Q hfs (by simp),List.nil_append,List.nil_append])
 rw[k0z,hks];simp[k0r,k0E,defK,hk,e1,e2,e3]
theorem kiH (E:PEnv) (t:Tr) (hk:t.n.kind=36) (hf:Fine t) (u:KV) (r:List KV):
 POk E fq103 #[.pointer (some ⟨E.p,0,none⟩)] (kvs t++u::r) (u::r) (ifP tq262) fun b G=>ItemAt fq192 tq262 36 2 b t G:=by
 intro H ps
 obtain⟨de,ds,fs,hks,hde,h1,hds,hfs,hfn⟩:=k9t hf hk
 have hkf:=k1A hf
 have hlen:=hf.few
 rw[hks] at hkf hlen
 simp only[List.length_append] at hlen
 have hff: ∀m∈fs,Fine m:=fun m hm=>hkf m (by simp[hm])
 rw[k9L hk hks hde hds hfs] at ps
 simp only[List.append_assoc,List.cons_append] at ps
 rw[k2W hfn] at ps
 refine parseInputObjectTypeDefinition.enter _ H _ ?_
 unfold parseInputObjectTypeDefinition.W
 obtain⟨w0,w1,hw0⟩:=k0P (kvF de) (nmK k2i) (nmK t.n.name::(kvF ds++(kBL::(fs.flatMap kvs++kBR::u::r))))
 have ps':=ps
 rw[hw0] at ps'
 obtain⟨st,hst,_⟩:=ps'.start
 refine⟨_,hst,?_⟩
 refine(Cx.start ps).call (p:=opP) (k31 E de hde h1 (fun x hx=>hkf x (by simp[hx])) _ _ ⟨by simp,by simp⟩) fun xd H1 _ c1=>?_
 refine c1.call (k2u E _ _ k2i) fun _ H2 _ c2=>?_
 obtain⟨w2,w3,hw2⟩:=k0P (kvF ds) kBL (fs.flatMap kvs++kBR::u::r)
 rw[hw2] at c2
 refine c2.call (k1p E t.n.name w2 w3) fun nb H3 _ c3=>?_
 rw[←hw2] at c3
 refine c3.call (p:=slP) (k1T E ds hds (fun x hx=>hkf x (by simp[hx])) (by omega) kBL _ (by decide) (by decide)) fun xs H4 _ c4=>?_
 refine k7M tq120 tq120 (by unfold k15;decide) (Q:=fun b t G=>ItemAt fq123 tq120 30 2 b t G) NoT (by omega) hfn (fun m hm u' r' hu'=>kah E m (k0f hfs m hm) (hff m hm) u' r' hu') (fun m hm=>khn m (k0f hfs m hm) (hff m hm)) ⟨by decide,by decide,by decide,by decide⟩ c4.ps (fun R h=>kdP.enter _ _ _ _ _ R h)
  (K:=fun y H'=>k00 PP fq141 #[(.pointer (some ⟨E.p,0,none⟩)),(.int .i64 (st:Int))] H' pBlk fun(x23:Nat) H24=>
    newB H24 (.cells #[(.string (Go.Vx.bs [])),(.pointer (some ⟨x23,0,none⟩)),(.pointer (some ⟨nb,0,none⟩)),(.pointer xd),(.slice xs.1 xs.2.1 xs.2.2),(.slice y.1 y.2.1 y.2.2)] tq265) fun b25 H26=>
    k00 PP fq160 #[(.pointer (some ⟨b25,0,none⟩))] H26 pBlk fun(x27:Nat) H28=>
    rk [(.iface tq262 (.pointer (some ⟨x27,0,none⟩))),nI] H28 _) fun y bs H5 c5=>?_
 refine(c4.trans c5).call (k0D E _ _) fun lb H6 _ c6=>?_
 refine c6.node (kf3 _ _ _ _ _ _ _ _ _) fun b H7 _ c7=>?_
 refine rkI ⟨b,rfl,c7.weak fun G hG=>?_⟩
 obtain⟨⟨⟨⟨⟨⟨⟨_,hd⟩,_⟩,hn⟩,hs⟩,hm,hv⟩,hl⟩,hb⟩:=hG
 exact kgH hl hn hb hd hs (k8C kat.enter (by unfold k0V;decide) (by decide) k9u hm hv) hks hk (k0R hf.1.self.1 (by omega)) (k1l hf.1.self.1.2 (by omega)) hf.2.1
theorem khe:KindOk 36 36 k2i:=k1t 36 36 k2i kdv (fun h=>absurd (congrArg ByteArray.size h) (by decide)) (by
 intro t hf hk
 obtain⟨de,ds,fs,h1,h2,h3,h4,h5,h6⟩:=k9t hf hk
 refine⟨by rw[k9L hk h1 h2 h4 h5];simp,?_⟩
 intro E u hu H ps
 refine k0x.enter _ _ H _ ?_
 unfold k0x.W
 repeat refine fkI (fun hh=>(k0N (by decide) hh).elim) (fun _=>?_)
 refine fkI (fun _=>?_) (fun hh=>(k0J hh).elim)
 exact k1B (val:=ifP tq262) (ofA:=fun b=>(tq262,b)) ps ((kiH E t hk hf u []).imp fun b G h=>kkV 36 hf h))
theorem k9O {m:Tr} (hk:m.n.kind=28∨m.n.kind=38):kvs m=[nmK m.n.name]:=by
 rw[k0z];rcases hk with h|h<;>simp[k0r,k0E,h]
theorem k9d {t:Tr} (hf:Fine t) (hk:t.n.kind=37): ∃(de ar ls:List Tr),t.ks=de++(ar++ls)∧InK [23] de∧de.length≤1∧InK [30] ar∧InK [38] ls∧ls≠ []:=by
 cases hf.1.self.2 with
 |directiveDef de ar ls _ h1 h2 h3 h4 h5 h6=>exact⟨de,ar,ls,h1,h2,h3,h4,h5,List.length_pos_iff.1 h6⟩
 |_=>omega
theorem k9E {t:Tr} {de ar ls:List Tr} (hk:t.n.kind=37) (hks:t.ks=de++(ar++ls)) (hde:InK [23] de) (har:InK [30] ar) (hls:InK [38] ls):
 kvs t=kvF de++(nmK k3g::kAt::nmK t.n.name::(brK (some kPL) (some kPR) ar++brS (nmK onB) k0M ls)):=by
 have e1:=k3u hde (l:=ar++ls) fun x hx=>by
  rcases List.mem_append.1 hx with h|h
  ·rw[k0f har x h];decide
  ·rw[k0f hls x h];decide
 have e2:k0g (some kPL) (some kPR) none [30] (kvL (de++(ar++ls)))=brK (some kPL) (some kPR) ar:=
  k0T (l:=ar) (by rw[k0p,k0p,k0H (fun x hx=>by rw[k0f hde x hx];decide),k0Q har (by simp),k0H (l:=ls) (fun x hx=>by rw[k0f hls x hx];decide),List.nil_append,List.append_nil])
 have e3:k0g (some (nmK onB)) none (some k0M) [38] (kvL (de++(ar++ls)))=brS (nmK onB) k0M ls:=
  k9A (l:=ls) (by rw[k0p,k0p,k0H (fun x hx=>by rw[k0f hde x hx];decide),k0H (l:=ar) (fun x hx=>by rw[k0f har x hx];decide),k0Q hls (by simp),List.nil_append,List.nil_append])
 rw[k0z,hks];simp[k0r,k0E,defK,hk,e1,e2,e3]
theorem kit (E:PEnv) (l:List Tr) (hK:InK [38] l) (hne:l≠ []) (hlen:l.length≤400) (u:KV) (r:List KV) (hu:u.1≠13):
 POk E fq107 #[.pointer (some ⟨E.p,0,none⟩)] (sepK (some k0M) (kvL l)++u::r) (u::r) slV fun x G=> ∃bs:List Nat,SlAt x (bs.map ptV) G∧All2 (fun b (k:Tr)=>k0W b k.n.name G) bs l:=by
 intro H ps
 refine parseDirectiveLocations.enter _ H _ ?_
 unfold parseDirectiveLocations.W
 refine Lst.row0 ps tq111 ptV (fun(b:Nat) (k:Tr) G=>k0W b k.n.name G) fun b0 H3 l0=>?_
 exact ke4 (by unfold k15;decide) (fun m _ w1 w2=>k1p E m.n.name w1 w2) (fun m hm=>k9O (.inr (k0f hK m hm))) hne hlen hu l0 fun y bs H' c=>⟨y,rfl,c.weak fun G hG=>⟨bs,hG⟩⟩
theorem kiE (E:PEnv) (t:Tr) (hk:t.n.kind=37) (hf:Fine t) (u:KV) (r:List KV) (hu:u.1≠13):
 POk E fq105 #[.pointer (some ⟨E.p,0,none⟩)] (kvs t++u::r) (u::r) (ifP tq270) fun b G=>ItemAt fq193 tq270 37 2 b t G:=by
 intro H ps
 obtain⟨de,ar,ls,hks,hde,h1,har,hls,hln⟩:=k9d hf hk
 have hkf:=k1A hf
 have hlen:=hf.few
 rw[hks] at hkf hlen
 simp only[List.length_append] at hlen
 have eS:brS (nmK onB) k0M ls=nmK onB::sepK (some k0M) (kvL ls):=by simp[brS,hln]
 rw[k9E hk hks hde har hls,eS] at ps
 simp only[List.append_assoc,List.cons_append] at ps
 refine parseDirectiveDefinition.enter _ H _ ?_
 unfold parseDirectiveDefinition.W
 obtain⟨w0,w1,hw0⟩:=k0P (kvF de) (nmK k3g) (kAt::nmK t.n.name::(brK (some kPL) (some kPR) ar++(nmK onB::(sepK (some k0M) (kvL ls)++u::r))))
 have ps':=ps
 rw[hw0] at ps'
 obtain⟨st,hst,_⟩:=ps'.start
 refine⟨_,hst,?_⟩
 refine(Cx.start ps).call (p:=opP) (k31 E de hde h1 (fun x hx=>hkf x (by simp[hx])) _ _ ⟨by simp,by simp⟩) fun xd H1 _ c1=>?_
 refine c1.call (k2u E _ _ k3g) fun _ H2 _ c2=>?_
 refine c2.call (k1R E kAt _ _ 9 rfl) fun _ H3 _ c3=>?_
 obtain⟨w2,w3,hw2⟩:=k0P (brK (some kPL) (some kPR) ar) (nmK onB) (sepK (some k0M) (kvL ls)++u::r)
 rw[hw2] at c3
 refine c3.call (k1p E t.n.name w2 w3) fun nb H4 _ c4=>?_
 rw[←hw2] at c4
 refine c4.call (p:=slP) (kd9 E ar har (fun x hx=>hkf x (by simp[hx])) (by omega) (nmK onB) _ (by simp)) fun xs H5 _ c5=>?_
 obtain⟨w4,w5,hw4⟩:=k0P (sepK (some k0M) (kvL ls)) u r
 rw[hw4] at c5
 refine c5.call (k2u E w4 w5 onB) fun _ H6 _ c6=>?_
 rw[←hw4] at c6
 refine c6.call (p:=slP) (kit E ls hls hln (by omega) u r hu) fun xm H7 _ c7=>?_
 refine c7.call (k0D E _ _) fun lb H8 _ c8=>?_
 refine c8.node (keU _ _ _ _ _ _ _ _ _) fun b H9 _ c9=>?_
 refine rkI ⟨b,rfl,c9.weak fun G hG=>?_⟩
 obtain⟨⟨⟨⟨⟨⟨⟨⟨⟨_,hd⟩,_⟩,_⟩,hn⟩,hs⟩,_⟩,⟨bs,hm,hv⟩⟩,hl⟩,hb⟩:=hG
 exact kgE hl hn hb hd hs hm hv (fun m hmm=>⟨hkf m (by simp[hmm]),k0f hls m hmm⟩) hks hk (k0R hf.1.self.1 (by omega)) (k1l hf.1.self.1.2 (by omega)) hf.2.1
theorem kh9:KindOk 37 37 k6N:=k1t 37 37 k6N kdw (fun h=>absurd (congrArg ByteArray.size h) (by decide)) (by
 intro t hf hk
 obtain⟨de,ds,fs,h1,h2,h3,h4,h5,h6⟩:=k9d hf hk
 refine⟨by rw[k9E hk h1 h2 h4 h5];simp,?_⟩
 intro E u hu H ps
 refine k0x.enter _ _ H _ ?_
 unfold k0x.W
 repeat refine fkI (fun hh=>(k0N (by decide) hh).elim) (fun _=>?_)
 refine fkI (fun _=>?_) (fun hh=>(k0J hh).elim)
 exact k1B (val:=ifP tq270) (ofA:=fun b=>(tq270,b)) ps ((kiE E t hk hf u [] (hu.no (by decide) (by decide))).imp fun b G h=>kkM 37 hf h))
theorem kab {t:Tr} (hf:Fine t) (hk:t.n.kind=27): ∃(de is ds fs:List Tr),t.ks=de++(is++(ds++fs))∧InK [23] de∧de.length≤1∧InK [28] is∧InK [10] ds∧InK [29] fs∧fs≠ []:=by
 cases hf.1.self.2 with
 |otype de is ds fs _ h1 h2 h3 h4 h5 h6 h7 _=>exact⟨de,is,ds,fs,h1,h2,h3,h4,h5,h6,List.length_pos_iff.1 h7⟩
 |_=>omega
theorem k9Q {t:Tr} {de is ds fs:List Tr} (hk:t.n.kind=27) (hks:t.ks=de++(is++(ds++fs))) (hde:InK [23] de) (his:InK [28] is) (hds:InK [10] ds) (hfs:InK [29] fs):
 kvs t=kvF de++(nmK k2k::nmK t.n.name::(brS (nmK k1H) kAmp is++(kvF ds++brK (some kBL) (some kBR) fs))):=by
 have n1: ∀ {K:Int},K≠23→selK [K] (kvL de)=[]:=fun h=>k0H fun x hx=>by rw[k0f hde x hx];simpa using fun e=>h e.symm
 have n2: ∀ {K:Int},K≠28→selK [K] (kvL is)=[]:=fun h=>k0H fun x hx=>by rw[k0f his x hx];simpa using fun e=>h e.symm
 have n3: ∀ {K:Int},K≠10→selK [K] (kvL ds)=[]:=fun h=>k0H fun x hx=>by rw[k0f hds x hx];simpa using fun e=>h e.symm
 have n4: ∀ {K:Int},K≠29→selK [K] (kvL fs)=[]:=fun h=>k0H fun x hx=>by rw[k0f hfs x hx];simpa using fun e=>h e.symm
 have e1:k0g none none none [23] (kvL (de++(is++(ds++fs))))=kvF de:=by
  rw[k0T (l:=de) (by rw[k0p,k0p,k0p,n2 (by decide),n3 (by decide),n4 (by decide),k0Q hde (by simp),List.nil_append,List.nil_append,List.append_nil]),k1x]
 have e2:k0o (kvL (de++(is++(ds++fs))))=kvF ds:=by
  unfold k0o
  rw[k0T (l:=ds) (by rw[k0p,k0p,k0p,n1 (by decide),n2 (by decide),n4 (by decide),k0Q hds (by simp),List.nil_append,List.nil_append,List.append_nil]),k1x]
 have e3:k0g (some kBL) (some kBR) none [29] (kvL (de++(is++(ds++fs))))=brK (some kBL) (some kBR) fs:=
  k0T (l:=fs) (by rw[k0p,k0p,k0p,n1 (by decide),n2 (by decide),n3 (by decide),k0Q hfs (by simp),List.nil_append,List.nil_append,List.nil_append])
 have e4:k0g (some (nmK k1H)) none (some kAmp) [28] (kvL (de++(is++(ds++fs))))=brS (nmK k1H) kAmp is:=
  k9A (l:=is) (by rw[k0p,k0p,k0p,n1 (by decide),n3 (by decide),n4 (by decide),k0Q his (by simp),List.nil_append,List.nil_append,List.append_nil])
 rw[k0z,hks];simp[k0r,k0E,defK,hk,e1,e2,e3,e4]
theorem kir (E:PEnv) (l:List Tr) (hK:InK [28] l) (hlen:l.length≤400) (u:KV) (r:List KV) (hu:u.1≠20) (hv:u.2≠k1H):
 POk E fq93 #[.pointer (some ⟨E.p,0,none⟩)] (brS (nmK k1H) kAmp l++u::r) (u::r) slV fun x G=> ∃bs:List Nat,SlAt x (bs.map ptV) G∧All2 (fun b (k:Tr)=>k2U b k.n.name G) bs l:=by
 intro H ps
 refine parseImplementsInterfaces.enter _ H _ ?_
 unfold parseImplementsInterfaces.W
 refine Lst.row0 ps tq107 ptV (fun(b:Nat) (k:Tr) G=>k2U b k.n.name G) fun b0 H3 l0=>?_
 by_cases hl:l=[]
 ·subst hl
  have e:brS (nmK k1H) kAmp []++u::r=u::r:=by simp[brS]
  rw[e] at l0
  refine⟨u.2,l0.ps.value,fkI (fun hh=>?_) (fun _=>?_)⟩
  ·rw[k0t] at hh;simp at hh;exact absurd hh hv
  exact rkI ⟨(some ⟨b0,0,none⟩,0,0),rfl,l0.fin.weak fun G hG=>⟨[],hG⟩⟩
 ·obtain⟨m,hm0,rest,hm⟩: ∃m,m∈l∧ ∃rest,sepK (some kAmp) (kvL l)++u::r=nmK m.n.name::rest:=by
   cases l with
   |nil=>exact absurd rfl hl
   |cons m l=>
    have hkv:=k9O (m:=m) (.inl (k0f hK m (by simp)))
    cases l with
    |nil=>exact⟨m,by simp,_,by simp[kvL,sepK,hkv];rfl⟩
    |cons m2 l=>exact⟨m,by simp,_,by simp[kvL,sepK,hkv];rfl⟩
  have e:brS (nmK k1H) kAmp l++u::r=nmK k1H::(sepK (some kAmp) (kvL l)++u::r):=by simp[brS,hl]
  rw[e] at l0
  refine⟨k1H,l0.ps.value,fkI (fun _=>?_) (fun hh=>(k0J hh).elim)⟩
  rw[hm] at l0
  refine l0.call1 (k2q E (nmK k1H) (nmK m.n.name) rest) () rfl fun H4 l4=>?_
  refine l4.call1 (k3v E (nmK m.n.name) rest 20 (by simp)) false rfl fun H5 l5=>?_
  rw[←hm] at l5
  exact ke4 (by unfold k15;decide) (fun m _ w1 w2=>k4V E m.n.name w1 w2) (fun m hm=>k9O (.inl (k0f hK m hm))) hl hlen hu l5 fun y bs H' c=>⟨y,rfl,c.weak fun G hG=>⟨bs,hG⟩⟩
theorem kdp (E:PEnv) (t:Tr) (hk:t.n.kind=27) (hf:Fine t) (u:KV) (r:List KV):
 POk E fq91 #[.pointer (some ⟨E.p,0,none⟩)] (kvs t++u::r) (u::r) (ifP tq235) fun b G=>ItemAt fq216 tq235 27 2 b t G:=by
 intro H ps
 obtain⟨de,is,ds,fs,hks,hde,h1,his,hds,hfs,hfn⟩:=kab hf hk
 have hkf:=k1A hf
 have hlen:=hf.few
 rw[hks] at hkf hlen
 simp only[List.length_append] at hlen
 have hff: ∀m∈fs,Fine m:=fun m hm=>hkf m (by simp[hm])
 have hdf: ∀m∈ds,Fine m:=fun m hm=>hkf m (by simp[hm])
 rw[k9Q hk hks hde his hds hfs] at ps
 simp only[List.append_assoc,List.cons_append] at ps
 rw[k2W hfn] at ps
 refine parseObjectTypeDefinition.enter _ H _ ?_
 unfold parseObjectTypeDefinition.W
 obtain⟨w0,w1,hw0⟩:=k0P (kvF de) (nmK k2k) (nmK t.n.name::(brS (nmK k1H) kAmp is++(kvF ds++(kBL::(fs.flatMap kvs++kBR::u::r)))))
 have ps':=ps
 rw[hw0] at ps'
 obtain⟨st,hst,_⟩:=ps'.start
 refine⟨_,hst,?_⟩
 refine(Cx.start ps).call (p:=opP) (k31 E de hde h1 (fun x hx=>hkf x (by simp[hx])) _ _ ⟨by simp,by simp⟩) fun xd H1 _ c1=>?_
 refine c1.call (k2u E _ _ k2k) fun _ H2 _ c2=>?_
 obtain⟨d1,d2,hd12,hdu⟩: ∃d1 d2,kvF ds++(kBL::(fs.flatMap kvs++kBR::u::r))=d1::d2∧d1.1≠20∧d1.2≠k1H:=by
  have hne:eB≠k1H:=fun h=>absurd (congrArg ByteArray.size h) (by decide)
  cases ds with
  |nil=>exact⟨kBL,_,rfl,by decide,hne⟩
  |cons d ds=>
   rw[k4L,k4M (k0f hds d (by simp)) (k4H (hdf d (by simp)).1 (k0f hds d (by simp)))]
   exact⟨kAt,_,rfl,by decide,hne⟩
 obtain⟨w2,w3,hw2⟩:=k0P (brS (nmK k1H) kAmp is) d1 d2
 rw[hd12,hw2] at c2
 refine c2.call (k1p E t.n.name w2 w3) fun nb H3 _ c3=>?_
 rw[←hw2] at c3
 refine c3.call (p:=slP) (kir E is his (by omega) d1 d2 hdu.1 hdu.2) fun xi H4 _ c4=>?_
 rw[←hd12] at c4
 refine c4.call (p:=slP) (k1T E ds hds hdf (by omega) kBL _ (by decide) (by decide)) fun xs H5 _ c5=>?_
 refine k7M tq117 tq117 (by unfold k15;decide) (Q:=fun b t G=>ItemAt fq122 tq117 29 2 b t G) NoT (by omega) hfn (fun m hm u' r' hu'=>kag E m (k0f hfs m hm) (hff m hm) u' r' hu') (fun m hm=>kcA m (k0f hfs m hm) (hff m hm)) ⟨by decide,by decide,by decide,by decide⟩ c5.ps (fun R h=>kdO.enter _ _ _ _ _ R h)
  (K:=fun y H'=>k00 PP fq141 #[(.pointer (some ⟨E.p,0,none⟩)),(.int .i64 (st:Int))] H' pBlk fun(x23:Nat) H24=>
    newB H24 (.cells #[(.string (Go.Vx.bs [])),(.pointer (some ⟨x23,0,none⟩)),(.pointer (some ⟨nb,0,none⟩)),(.pointer xd),(.slice xi.1 xi.2.1 xi.2.2),(.slice xs.1 xs.2.1 xs.2.2),(.slice y.1 y.2.1 y.2.2)] tq238) fun b25 H26=>
    k00 PP fq148 #[(.pointer (some ⟨b25,0,none⟩))] H26 pBlk fun(x27:Nat) H28=>
    rk [(.iface tq235 (.pointer (some ⟨x27,0,none⟩))),nI] H28 _) fun y bs H6 c6=>?_
 refine(c5.trans c6).call (k0D E _ _) fun lb H7 _ c7=>?_
 refine c7.node (kfe _ _ _ _ _ _ _ _ _ _ _ _) fun b H8 _ c8=>?_
 refine rkI ⟨b,rfl,c8.weak fun G hG=>?_⟩
 obtain⟨⟨⟨⟨⟨⟨⟨⟨_,hd⟩,_⟩,hn⟩,⟨bi,hi,hiv⟩⟩,hs⟩,hm,hv⟩,hl⟩,hb⟩:=hG
 exact kgL hl hn hb hd hi ⟨hiv,fun m hmm=>⟨hkf m (by simp[hmm]),k0f his m hmm⟩⟩ hs (k8C kas.enter (by unfold k0V;decide) (by decide) k9j hm hv) hks hk (k0R hf.1.self.1 (by omega)) (k1l hf.1.self.1.2 (by omega)) hf.2.1
theorem kkY (kind:Int) {b:Nat} {t:Tr} {G:Heap} (hf:Fine t) (h:ItemAt fq216 tq235 27 2 b t G):k0Y kind tq235 b (flat t) G:=by
 intro H tk D ht hD
 refine k7c.enter tk b kind H _ ?_
 unfold k7c.W
 refine nbI fun H2 e2 hb2 x2 s2=>?_
 refine⟨fun w=>by kernel_rfl,?_⟩
 have t2:=ht.grow x2
 refine⟨_,lcO hb2 rfl,k5x.enter tk b H2 _ ?_⟩
 unfold k5x.W
 refine nbI fun H3 e3 hb3 x3 s3=>?_
 have t3:=t2.grow x3
 refine⟨_,lcO hb3 rfl,k6Y.enter tk b H3 _ ?_⟩
 unfold k6Y.W
 refine nbI fun H4 e4 hb4 x4 s4=>?_
 have t4:=t3.grow x4
 refine⟨_,lcO hb4 rfl,?_⟩
 refine(kem h t4 (k1y hf.2.2 hD)).mono ?_
 rintro v H5 ⟨rfl,k5,Y,hY,t5⟩
 exact⟨(),rfl,rkI ⟨(),rfl,rkI ⟨(),rfl,rkI ⟨rfl,Y,hY,t5⟩⟩⟩⟩
theorem khg:KindOk 27 27 k2k:=k1t 27 27 k2k kdr (fun h=>absurd (congrArg ByteArray.size h) (by decide)) (by
 intro t hf hk
 obtain⟨de,is,ds,fs,h1,h2,h3,h4,h5,h6,_⟩:=kab hf hk
 refine⟨by rw[k9Q hk h1 h2 h4 h5 h6];simp,?_⟩
 intro E u hu H ps
 refine k0x.enter _ _ H _ ?_
 unfold k0x.W
 repeat refine fkI (fun hh=>(k0N (by decide) hh).elim) (fun _=>?_)
 refine fkI (fun _=>?_) (fun hh=>(k0J hh).elim)
 exact k1B (val:=ifP tq235) (ofA:=fun b=>(tq235,b)) ps ((kdp E t hk hf u []).imp fun b G h=>kkY 27 hf h))
theorem k9h {t:Tr} (hf:Fine t) (hk:t.n.kind=39): ∃o,t.ks=[o]∧o.n.kind=27:=by
 cases hf.1.self.2 with
 |extend ob _ h1 h2 _=>exact⟨ob,h1,h2⟩
 |_=>omega
theorem k9H {t o:Tr} (hk:t.n.kind=39) (hks:t.ks=[o]) (ho:o.n.kind=27):kvs t=nmK k2E::kvs o:=by
 rw[k0z,hks];simp[k0r,k0E,defK,hk,kvL,k0g,selK,ho,allK]
theorem kiG (E:PEnv) (t:Tr) (hk:t.n.kind=39) (hf:Fine t) (u:KV) (r:List KV):
 POk E fq104 #[.pointer (some ⟨E.p,0,none⟩)] (kvs t++u::r) (u::r) (ifP tq266) fun b G=>kb2 b t G:=by
 intro H ps
 obtain⟨o,hks,ho⟩:=k9h hf hk
 rw[k9H hk hks ho,List.cons_append] at ps
 refine parseTypeExtensionDefinition.enter _ H _ ?_
 unfold parseTypeExtensionDefinition.W
 obtain⟨st,hst,_⟩:=ps.start
 refine⟨_,hst,?_⟩
 obtain⟨w2,w3,hw2⟩:=k0P (kvs o) u r
 rw[hw2] at ps
 refine(Cx.start ps).call (k2u E _ _ k2E) fun x1 H1 _ c1=>?_
 rw[←hw2] at c1
 refine c1.tok rfl fun H2 _ _ c2=>?_
 refine c2.call (kdp E o ho (hf.kid (by rw[hks];simp)) u r) fun ob H3 _ c3=>?_
 refine c3.call (k0D E _ _) fun lb H4 _ c4=>?_
 refine c4.node (kfn _ _) fun b H5 _ c5=>?_
 refine rkI ⟨b,rfl,c5.weak fun G hG=>?_⟩
 obtain⟨⟨⟨_,hO⟩,hl⟩,hb⟩:=hG
 exact⟨lb,ob,_,o,hl,hb,hO,hks⟩
theorem kkS (kind:Int) {b:Nat} {t:Tr} {G:Heap} (hf:Fine t) (hk:t.n.kind=39) (h:kb2 b t G):k0Y kind tq266 b (flat t) G:=by
 intro H tk D ht hD
 obtain⟨lb,ob,k0,o,⟨ls,le,lq,hl⟩,hb,hO,hks⟩:=h
 obtain⟨hn,hx⟩:=k45 hf.1.self.1.2 (n:=t.n) (by omega)
 have ha:=k0R hf.1.self.1 (by omega)
 have hfl:(flat t).length=1+(flat o).length:=by rw[k1S,k3O hks];simp;omega
 have hfl4:=hf.2.2
 refine k7h.enter tk b kind H _ ?_
 unfold k7h.W
 refine nbI fun H2 e2 hb2 x2 s2=>?_
 refine⟨fun w=>by kernel_rfl,?_⟩
 have t2:=ht.grow x2
 refine⟨_,lcO hb2 rfl,k5A.enter tk b H2 _ ?_⟩
 unfold k5A.W
 refine nbI fun H3 e3 hb3 x3 s3=>?_
 have t3:=t2.grow x3
 refine⟨_,lcO hb3 rfl,k70.enter tk b H3 _ ?_⟩
 unfold k70.W
 refine caps t3 b tq266 fun b1 b3 H5 x5 t5 h1 h3=>?_
 have bx:=t5.ext.get _ _ hb (by simp)
 refine⟨_,lcO h1 rfl,_,lcO h3 rfl,_,lcO bx rfl,?_⟩
 refine(kje.enter tk lb ⟨39,eB,eB,eB,0,0⟩ b1 b3 H5 _ (k2c fq194 t5 (by omega) lb hl ⟨39,eB,eB,eB,0,0⟩ b1 b3 (P:=fun W=>Sames W (k0a t.ks)) fun H7 k7 t7=>?_)).mono ?_
 ·have q1:=k7.get _ _ _ _ h1 (by decide) (by decide) (by decide)
  have q3:=k7.get _ _ _ _ h3 (by decide) (by decide) (by decide)
  have bx7:=t7.ext.get _ _ hb (by simp)
  refine k5Z.enter b1 b3 H7 _ ?_
  unfold k5Z.W
  refine⟨_,lcO q1 rfl,_,lcO q3 rfl,_,lcO bx7 rfl,?_⟩
  refine(kem hO t7 (by simp only[List.length_append,List.length_cons,List.length_nil];omega)).mono ?_
  intro v' H8 hT
  obtain rfl:=hT.unit
  rw[k3O hks]
  exact⟨(),rfl,rkI (hT.within (by omega))⟩
 ·rintro _ H8 ⟨rfl,k8,W,hW,t8⟩
  refine⟨(),rfl,rkI ⟨(),rfl,rkI ⟨(),rfl,rkI ⟨rfl,_,k2C hf.2.1 hW ⟨39,eB,eB,eB,0,0⟩ hk.symm hn.symm ha.symm hx.symm (by simp),t8⟩⟩⟩⟩
theorem khc:KindOk 39 39 k2E:=k1t 39 39 k2E kdx (fun h=>absurd (congrArg ByteArray.size h) (by decide)) (by
 intro t hf hk
 obtain⟨o,h1,h2⟩:=k9h hf hk
 refine⟨by rw[k9H hk h1 h2];simp,?_⟩
 intro E u hu H ps
 refine k0x.enter _ _ H _ ?_
 unfold k0x.W
 repeat refine fkI (fun hh=>(k0N (by decide) hh).elim) (fun _=>?_)
 refine fkI (fun _=>?_) (fun hh=>(k0J hh).elim)
 exact k1B (val:=ifP tq266) (ofA:=fun b=>(tq266,b)) ps ((kiG E t hk hf u []).imp fun b G h=>kkS 39 hf hk h))
end Go.Vx
