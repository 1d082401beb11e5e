/- A part of the proof of what the last text of this claim says: QV8, QT6, QV9, QV10. Conditions: none. -/
import Derived.Test.YtkopcepfeeemhaaGreatDoorYAAp
set_option maxRecDepth 10000
namespace Go.Vx
open Go Go.Proofs
theorem leaf_kids {t:Tr} (h:Good t) (hk:t.n.kind=25∨t.n.kind=33∨t.n.kind=28∨t.n.kind=38):t.ks=[]:=by
 cases h.self.2 with
 |leaf _ h1=>exact h1
 |_=>omega
section
variable {E:PEnv} {t:Tr} {de ds ms os:List Tr}
end
section
variable {G:Heap} {b lb nb:Nat} {t:Tr}
end
def NamedsAt (kd:Int) (bs:List Nat) (ms:List Tr) (G:Heap):Prop:=All2 (fun b (k:Tr)=>NamedAt b k.n.name G) bs ms∧ ∀m∈ms,Fine m∧m.n.kind=kd
section
variable {G:Heap} {b lb nb:Nat} {t:Tr}
theorem item_inter {xd:Option Addr} {xs xf:Sl} {de ds fs:List Tr} {k0:Value} (hl:LocAt lb G) (hn:NameAt nb t.n.name G)
 (hb:G[b]?=some (.cells #[k0,.pointer (some ⟨lb,0,none⟩),.pointer (some ⟨nb,0,none⟩),.pointer xd,.slice xs.1 xs.2.1 xs.2.2,.slice xf.1 xf.2.1 xf.2.2] tq251))
 (hd:TakeD xd (flatL de) G) (hs:TakeL fq65 xs (flatL ds) G) (hF:TakeL fq70 xf (flatL fs) G)
 (hks:t.ks=de++(ds++fs)) (hk:t.n.kind=31) (ha:t.n.alias=eB) (hx:t.n.text=eB) (hw:Ws t):ItemAt fq188 tq248 31 2 b t G:=by
 refine⟨⟨lb,nb,_,_,hl,hn,hb,rfl,rfl⟩,?_,hk,ha,hx,hw⟩
 intro H tk c1 c2 D ht hD h1 h2
 rw[hks,flatL_append,flatL_append] at hD⊢
 simp only[List.length_append] at hD
 have bx:=ht.ext.get _ _ hb (by simp)
 refine inSys3.enter c1 c2 H _ ?_
 unfold inSys3.W
 refine⟨_,lcO h1 rfl,_,lcO h2 rfl,_,lcO bx rfl,?_⟩
 refine(hd H tk D ht (by omega)).mono ?_
 rintro _ H5 ⟨rfl,k5,Y,hY,t5⟩
 have q1:=k5.get _ _ _ _ h1 (by decide) (by decide) (by decide)
 have q2:=k5.get _ _ _ _ h2 (by decide) (by decide) (by decide)
 have bx5:=t5.ext.get _ _ hb (by simp)
 have hYl:=hY.len
 refine⟨(),rfl,_,lcO q1 rfl,_,lcO q2 rfl,xs,lcO bx5 rfl,?_⟩
 refine(hs H5 tk _ t5 (by rw[List.length_append];omega)).mono ?_
 rintro _ H6 ⟨rfl,k6,Z,hZ,t6⟩
 have p1:=k6.get _ _ _ _ q1 (by decide) (by decide) (by decide)
 have p2:=k6.get _ _ _ _ q2 (by decide) (by decide) (by decide)
 have bx6:=t6.ext.get _ _ hb (by simp)
 have hZl:=hZ.len
 refine⟨(),rfl,_,lcO p1 rfl,_,lcO p2 rfl,xf,lcO bx6 rfl,?_⟩
 refine(hF H6 tk _ t6 (by simp only[List.length_append];omega)).mono ?_
 intro v' H8 hT
 obtain rfl:=hT.unit
 exact⟨(),rfl,rkI (Took.seq k5 hY (Took.seq k6 hZ hT))⟩
theorem item_inobj {xd:Option Addr} {xs xf:Sl} {de ds fs:List Tr} {k0:Value} (hl:LocAt lb G) (hn:NameAt nb t.n.name G)
 (hb:G[b]?=some (.cells #[k0,.pointer (some ⟨lb,0,none⟩),.pointer (some ⟨nb,0,none⟩),.pointer xd,.slice xs.1 xs.2.1 xs.2.2,.slice xf.1 xf.2.1 xf.2.2] tq265))
 (hd:TakeD xd (flatL de) G) (hs:TakeL fq65 xs (flatL ds) G) (hF:TakeL fq71 xf (flatL fs) G)
 (hks:t.ks=de++(ds++fs)) (hk:t.n.kind=36) (ha:t.n.alias=eB) (hx:t.n.text=eB) (hw:Ws t):ItemAt fq192 tq262 36 2 b t G:=by
 refine⟨⟨lb,nb,_,_,hl,hn,hb,rfl,rfl⟩,?_,hk,ha,hx,hw⟩
 intro H tk c1 c2 D ht hD h1 h2
 rw[hks,flatL_append,flatL_append] at hD⊢
 simp only[List.length_append] at hD
 have bx:=ht.ext.get _ _ hb (by simp)
 refine inSys6.enter c1 c2 H _ ?_
 unfold inSys6.W
 refine⟨_,lcO h1 rfl,_,lcO h2 rfl,_,lcO bx rfl,?_⟩
 refine(hd H tk D ht (by omega)).mono ?_
 rintro _ H5 ⟨rfl,k5,Y,hY,t5⟩
 have q1:=k5.get _ _ _ _ h1 (by decide) (by decide) (by decide)
 have q2:=k5.get _ _ _ _ h2 (by decide) (by decide) (by decide)
 have bx5:=t5.ext.get _ _ hb (by simp)
 have hYl:=hY.len
 refine⟨(),rfl,_,lcO q1 rfl,_,lcO q2 rfl,xs,lcO bx5 rfl,?_⟩
 refine(hs H5 tk _ t5 (by rw[List.length_append];omega)).mono ?_
 rintro _ H6 ⟨rfl,k6,Z,hZ,t6⟩
 have p1:=k6.get _ _ _ _ q1 (by decide) (by decide) (by decide)
 have p2:=k6.get _ _ _ _ q2 (by decide) (by decide) (by decide)
 have bx6:=t6.ext.get _ _ hb (by simp)
 have hZl:=hZ.len
 refine⟨(),rfl,_,lcO p1 rfl,_,lcO p2 rfl,xf,lcO bx6 rfl,?_⟩
 refine(hF H6 tk _ t6 (by simp only[List.length_append];omega)).mono ?_
 intro v' H8 hT
 obtain rfl:=hT.unit
 exact⟨(),rfl,rkI (Took.seq k5 hY (Took.seq k6 hZ hT))⟩
theorem item_51 (h:EnumVAt b t G):ItemAt fq191 tq123 35 2 b t G:=by
 obtain⟨lb,nb,xd,xs,de,ds,k0,hl,hn,hb,hd,hs,hks,hk,ha,hx,hw⟩:=h
 refine⟨⟨lb,nb,_,_,hl,hn,hb,rfl,rfl⟩,?_,hk,ha,hx,hw⟩
 intro H tk c1 c2 D ht hD h1 h2
 rw[hks,flatL_append] at hD⊢
 rw[List.length_append] at hD
 have bx:=ht.ext.get _ _ hb (by simp)
 refine inSys51.enter c1 c2 H _ ?_
 unfold inSys51.W
 refine⟨_,lcO h1 rfl,_,lcO h2 rfl,_,lcO bx rfl,?_⟩
 refine(hd H tk D ht (by omega)).mono ?_
 rintro _ H5 ⟨rfl,k5,Y,hY,t5⟩
 have q1:=k5.get _ _ _ _ h1 (by decide) (by decide) (by decide)
 have q2:=k5.get _ _ _ _ h2 (by decide) (by decide) (by decide)
 have bx5:=t5.ext.get _ _ hb (by simp)
 have hYl:=hY.len
 refine⟨(),rfl,_,lcO q1 rfl,_,lcO q2 rfl,xs,lcO bx5 rfl,?_⟩
 refine(hs H5 tk _ t5 (by rw[List.length_append];omega)).mono ?_
 intro v' H6 hT
 obtain rfl:=hT.unit
 exact⟨(),rfl,rkI (Took.seq k5 hY hT)⟩
theorem item_enum {xd:Option Addr} {xs xm:Sl} {de ds ms:List Tr} {bs:List Nat} {k0:Value} (hl:LocAt lb G) (hn:NameAt nb t.n.name G)
 (hb:G[b]?=some (.cells #[k0,.pointer (some ⟨lb,0,none⟩),.pointer (some ⟨nb,0,none⟩),.pointer xd,.slice xs.1 xs.2.1 xs.2.2,.slice xm.1 xm.2.1 xm.2.2] tq260))
 (hd:TakeD xd (flatL de) G) (hs:TakeL fq65 xs (flatL ds) G) (hm:SlAt xm (bs.map ptV) G) (hv:All2 (fun b k=>ItemAt fq191 tq123 35 2 b k G) bs ms)
 (hks:t.ks=de++(ds++ms)) (hk:t.n.kind=34) (ha:t.n.alias=eB) (hx:t.n.text=eB) (hw:Ws t):ItemAt fq190 tq257 34 2 b t G:=by
 refine⟨⟨lb,nb,_,_,hl,hn,hb,rfl,rfl⟩,?_,hk,ha,hx,hw⟩
 intro H tk c1 c2 D ht hD h1 h2
 rw[hks,flatL_append,flatL_append] at hD⊢
 simp only[List.length_append] at hD
 have bx:=ht.ext.get _ _ hb (by simp)
 refine inSys5.enter c1 c2 H _ ?_
 unfold inSys5.W
 refine⟨_,lcO h1 rfl,_,lcO h2 rfl,_,lcO bx rfl,?_⟩
 refine(hd H tk D ht (by omega)).mono ?_
 rintro _ H5 ⟨rfl,k5,Y,hY,t5⟩
 have q1:=k5.get _ _ _ _ h1 (by decide) (by decide) (by decide)
 have q2:=k5.get _ _ _ _ h2 (by decide) (by decide) (by decide)
 have bx5:=t5.ext.get _ _ hb (by simp)
 have hYl:=hY.len
 refine⟨(),rfl,_,lcO q1 rfl,_,lcO q2 rfl,xs,lcO bx5 rfl,?_⟩
 refine(hs H5 tk _ t5 (by rw[List.length_append];omega)).mono ?_
 rintro _ H6 ⟨rfl,k6,Z,hZ,t6⟩
 have p1:=k6.get _ _ _ _ q1 (by decide) (by decide) (by decide)
 have p2:=k6.get _ _ _ _ q2 (by decide) (by decide) (by decide)
 have bx6:=t6.ext.get _ _ hb (by simp)
 have hZl:=hZ.len
 have hnl:xm.2.1=ms.length:=by have:=hm.1;simp at this;rw[this,hv.len]
 have hml:ms.length≤(flatL ms).length:=flatL_len ms
 refine⟨(),rfl,_,lcO p2 rfl,xm,lcO bx6 rfl,?_⟩
 refine take_loop ms xm.2.1 hnl (by omega) (KpT.refl H6) t6 (fun k kt H8 U next hi k8 hU t8 hnext=>?_) (fun H8 U k8 hU t8=>rkI (Took.seq k5 hY (Took.seq k6 hZ ⟨rfl,k8,U,hU,t8⟩))) (fun k H8 next=>rfl)
 obtain⟨xb,hxi,hI⟩:=hv.get k kt hi
 have hL:=(hm.keep t8.ext).load (i:=k) (v:=ptV xb) (by simp[hxi])
 have hlen:=flatL_take_le ms (k+1)
 rw[flatL_take_succ ms k kt hi,List.length_append] at hlen
 have hUl:=hU.len
 refine⟨hL.1,xb,hL.2,?_⟩
 refine cap1 t8 xb tq123 fun b9 H9 x9 t9 h9=>?_
 have k9:=k8.trans x9.kpT
 refine node_ok putSys51.enter (by unfold apartT;decide) (by decide) hI t9 (by simp only[List.length_append];omega) (k9.get _ _ _ _ p1 (by decide) (by decide) (by decide)) h9 fun H11 W k11 hW t11=>?_
 rw[wrap1 (k:=k) (by have:=(List.getElem?_eq_some_iff.1 hi).1;omega)]
 exact hnext H11 W (k9.trans k11) hW t11
theorem item_ddef {xd:Option Addr} {xs xm:Sl} {de ar ms:List Tr} {bs:List Nat} {k0:Value} (hl:LocAt lb G) (hn:NameAt nb t.n.name G)
 (hb:G[b]?=some (.cells #[k0,.pointer (some ⟨lb,0,none⟩),.pointer (some ⟨nb,0,none⟩),.pointer xd,.slice xs.1 xs.2.1 xs.2.2,.slice xm.1 xm.2.1 xm.2.2] tq273))
 (hd:TakeD xd (flatL de) G) (hs:TakeL fq71 xs (flatL ar) G) (hm:SlAt xm (bs.map ptV) G) (hv:All2 (fun b (k:Tr)=>NameAt b k.n.name G) bs ms) (hmf: ∀m∈ms,Fine m∧m.n.kind=38)
 (hks:t.ks=de++(ar++ms)) (hk:t.n.kind=37) (ha:t.n.alias=eB) (hx:t.n.text=eB) (hw:Ws t):ItemAt fq193 tq270 37 2 b t G:=by
 refine⟨⟨lb,nb,_,_,hl,hn,hb,rfl,rfl⟩,?_,hk,ha,hx,hw⟩
 intro H tk c1 c2 D ht hD h1 h2
 rw[hks,flatL_append,flatL_append] at hD⊢
 simp only[List.length_append] at hD
 have bx:=ht.ext.get _ _ hb (by simp)
 refine inSys7.enter c1 c2 H _ ?_
 unfold inSys7.W
 refine⟨_,lcO h1 rfl,_,lcO h2 rfl,_,lcO bx rfl,?_⟩
 refine(hd H tk D ht (by omega)).mono ?_
 rintro _ H5 ⟨rfl,k5,Y,hY,t5⟩
 have q1:=k5.get _ _ _ _ h1 (by decide) (by decide) (by decide)
 have q2:=k5.get _ _ _ _ h2 (by decide) (by decide) (by decide)
 have bx5:=t5.ext.get _ _ hb (by simp)
 have hYl:=hY.len
 refine⟨(),rfl,_,lcO q1 rfl,_,lcO q2 rfl,xs,lcO bx5 rfl,?_⟩
 refine(hs H5 tk _ t5 (by rw[List.length_append];omega)).mono ?_
 rintro _ H6 ⟨rfl,k6,Z,hZ,t6⟩
 have p1:=k6.get _ _ _ _ q1 (by decide) (by decide) (by decide)
 have p2:=k6.get _ _ _ _ q2 (by decide) (by decide) (by decide)
 have bx6:=t6.ext.get _ _ hb (by simp)
 have hZl:=hZ.len
 have hnl:xm.2.1=ms.length:=by have:=hm.1;simp at this;rw[this,hv.len]
 have hml:ms.length≤(flatL ms).length:=flatL_len ms
 refine⟨(),rfl,_,lcO p2 rfl,xm,lcO bx6 rfl,?_⟩
 refine take_loop ms xm.2.1 hnl (by omega) (KpT.refl H6) t6 (fun k kt H8 U next hi k8 hU t8 hnext=>?_) (fun H8 U k8 hU t8=>rkI (Took.seq k5 hY (Took.seq k6 hZ ⟨rfl,k8,U,hU,t8⟩))) (fun k H8 next=>rfl)
 obtain⟨xb,hxi,lb2,⟨ls2,le2,lq2,hl2⟩,hbx⟩:=hv.get k kt hi
 obtain⟨hkf,hkk⟩:=hmf kt (List.mem_of_getElem? hi)
 have hL:=(hm.keep t8.ext).load (i:=k) (v:=ptV xb) (by simp[hxi])
 have r1:=k8.get _ _ _ _ p1 (by decide) (by decide) (by decide)
 have bx8:=t8.ext.get _ _ hbx (by simp)
 have hlen:=flatL_take_le ms k
 have hUl:=hU.len
 refine⟨hL.1,xb,hL.2,_,lcO r1 rfl,_,lcO bx8 rfl,?_⟩
 refine(text_ok xb kt.n.name H8 bx8).mono ?_
 rintro _ _ ⟨rfl,rfl⟩
 refine⟨_,rfl,lcO bx8 rfl,lcO r1 rfl,?_⟩
 refine(putNil_ok t8 (by simp only[List.length_append];omega) lb2 hl2 ⟨38,kt.n.name,eB,eB,0,0⟩).mono ?_
 rintro _ H9 ⟨rfl,k9,t9⟩
 refine⟨(),rfl,?_⟩
 rw[wrap1 (k:=k) (by have:=(List.getElem?_eq_some_iff.1 hi).1;omega)]
 exact hnext H9 _ (k8.trans k9) (same_leaf (leaf_kids hkf.1 (by omega)) hkf.2.1 ⟨38,kt.n.name,eB,eB,0,0⟩ hkk.symm rfl (formed_alias hkf.1.self.1 (by omega)).symm (body_notext hkf.1.self.1.2 (by omega)).symm (fun h=>by simp at h)) t9
theorem item_obj {xd:Option Addr} {xi xs xf:Sl} {de is ds fs:List Tr} {bs:List Nat} {k0:Value} (hl:LocAt lb G) (hn:NameAt nb t.n.name G)
 (hb:G[b]?=some (.cells #[k0,.pointer (some ⟨lb,0,none⟩),.pointer (some ⟨nb,0,none⟩),.pointer xd,.slice xi.1 xi.2.1 xi.2.2,.slice xs.1 xs.2.1 xs.2.2,.slice xf.1 xf.2.1 xf.2.2] tq238))
 (hd:TakeD xd (flatL de) G) (hm:SlAt xi (bs.map ptV) G) (hv:NamedsAt 28 bs is G) (hs:TakeL fq65 xs (flatL ds) G) (hF:TakeL fq70 xf (flatL fs) G)
 (hks:t.ks=de++(is++(ds++fs))) (hk:t.n.kind=27) (ha:t.n.alias=eB) (hx:t.n.text=eB) (hw:Ws t):ItemAt fq216 tq235 27 2 b t G:=by
 refine⟨⟨lb,nb,_,_,hl,hn,hb,rfl,rfl⟩,?_,hk,ha,hx,hw⟩
 intro H tk c1 c2 D ht hD h1 h2
 rw[hks,flatL_append,flatL_append,flatL_append] at hD⊢
 simp only[List.length_append] at hD
 have bx:=ht.ext.get _ _ hb (by simp)
 refine inObj.enter c1 c2 H _ ?_
 unfold inObj.W
 refine⟨_,lcO h1 rfl,_,lcO h2 rfl,_,lcO bx rfl,?_⟩
 refine(hd H tk D ht (by omega)).mono ?_
 rintro _ H5 ⟨rfl,k5,Y,hY,t5⟩
 have q1:=k5.get _ _ _ _ h1 (by decide) (by decide) (by decide)
 have q2:=k5.get _ _ _ _ h2 (by decide) (by decide) (by decide)
 have bx5:=t5.ext.get _ _ hb (by simp)
 have hYl:=hY.len
 have hnl:xi.2.1=is.length:=by have:=hm.1;simp at this;rw[this,hv.1.len]
 have hml:is.length≤(flatL is).length:=flatL_len is
 refine⟨(),rfl,_,lcO q2 rfl,xi,lcO bx5 rfl,?_⟩
 refine take_loop is xi.2.1 hnl (by omega) (KpT.refl H5) t5 (fun k kt H8 U next hi k8 hU t8 hnext=>?_) (fun H8 U k8 hU t8=>?_) (fun k H8 next=>rfl)
 ·obtain⟨xb,hxi,lb2,nb2,⟨ls2,le2,lq2,hl2⟩,⟨lb3,_,hnm⟩,hbx⟩:=hv.1.get k kt hi
  obtain⟨hkf,hkk⟩:=hv.2 kt (List.mem_of_getElem? hi)
  have hL:=(hm.keep t8.ext).load (i:=k) (v:=ptV xb) (by simp[hxi])
  have r1:=k8.get _ _ _ _ q1 (by decide) (by decide) (by decide)
  have bx8:=t8.ext.get _ _ hbx (by simp)
  have hlen:=flatL_take_le is k
  have hUl:=hU.len
  refine⟨hL.1,xb,hL.2,_,lcO r1 rfl,_,lcO bx8 rfl,?_⟩
  refine(on_ok xb nb2 kt.n.name H8 bx8 (t8.ext.get _ _ hnm (by simp))).mono ?_
  rintro _ _ ⟨rfl,rfl⟩
  refine⟨_,rfl,lcO bx8 rfl,lcO r1 rfl,?_⟩
  refine(putNil_ok t8 (by simp only[List.length_append];omega) lb2 hl2 ⟨28,kt.n.name,eB,eB,0,0⟩).mono ?_
  rintro _ H9 ⟨rfl,k9,t9⟩
  refine⟨(),rfl,?_⟩
  rw[wrap1 (k:=k) (by have:=(List.getElem?_eq_some_iff.1 hi).1;omega)]
  exact hnext H9 _ (k8.trans k9) (same_leaf (leaf_kids hkf.1 (by omega)) hkf.2.1 ⟨28,kt.n.name,eB,eB,0,0⟩ hkk.symm rfl (formed_alias hkf.1.self.1 (by omega)).symm (body_notext hkf.1.self.1.2 (by omega)).symm (fun h=>by simp at h)) t9
 have p1:=k8.get _ _ _ _ q1 (by decide) (by decide) (by decide)
 have p2:=k8.get _ _ _ _ q2 (by decide) (by decide) (by decide)
 have bx8:=t8.ext.get _ _ hb (by simp)
 have hUl:=hU.len
 refine⟨_,lcO p1 rfl,_,lcO p2 rfl,xs,lcO bx8 rfl,?_⟩
 refine(hs H8 tk _ t8 (by simp only[List.length_append];omega)).mono ?_
 rintro _ H9 ⟨rfl,k9,Z,hZ,t9⟩
 have r1:=k9.get _ _ _ _ p1 (by decide) (by decide) (by decide)
 have r2:=k9.get _ _ _ _ p2 (by decide) (by decide) (by decide)
 have bx9:=t9.ext.get _ _ hb (by simp)
 have hZl:=hZ.len
 refine⟨(),rfl,_,lcO r1 rfl,_,lcO r2 rfl,xf,lcO bx9 rfl,?_⟩
 refine(hF H9 tk _ t9 (by simp only[List.length_append];omega)).mono ?_
 intro v' H10 hT
 obtain rfl:=hT.unit
 exact⟨(),rfl,rkI (Took.seq k5 hY (Took.seq k8 hU (Took.seq k9 hZ hT)))⟩
theorem take_object (hI:ItemAt fq216 tq235 27 2 b t G) {H:Heap} {tk:Nat} {D:List Nd} (h:TkAt G H tk D) (hD:D.length+(flat t).length≤5000):
 Fn PP fq187 #[.pointer (some ⟨tk,0,none⟩),.pointer (some ⟨b,0,none⟩)] H (Took G tk H D (flat t)):=by
 refine objectT.enter tk b H _ ?_
 unfold objectT.W
 refine nbI fun H1 e1 hb1 x1 s1=>nbI fun H2 e2 hb2 x2 s2=>?_
 have x12:=x1.trans x2
 have h1:=x2.get _ _ hb1 (by simp)
 refine node_ok (c1:=H.size) (c2:=H1.size) putObj.enter (by unfold apartT;decide) (by decide) hI (h.grow x12) hD h1 hb2 fun H' Z k hZ ht=>?_
 exact rkI ⟨rfl,x12.kpT.trans k,Z,hZ,ht⟩
def ExtendAt (b:Nat) (t:Tr) (G:Heap):Prop:= ∃(lb ob:Nat) (k0:Value) (o:Tr),LocAt lb G∧G[b]?=some (.cells #[k0,.pointer (some ⟨lb,0,none⟩),.pointer (some ⟨ob,0,none⟩)] tq269)∧
 ItemAt fq216 tq235 27 2 ob o G∧t.ks=[o]
end
theorem braced (T eT:Nat) (he:plainT eT) {f:FuncId} {E:PEnv} {Q:Nat→Tr→Heap→Prop} (Fo:KV→Prop) {l:List Tr} (hlen:l.length≤400) (hne:l≠ [])
 (hP: ∀t∈l,∀(u:KV) (r:List KV),Fo u→POk E f #[.pointer (some ⟨E.p,0,none⟩)] (kvs t++u::r) (u::r) (ifP T) fun b G=>Q b t G)
 (hF: ∀t∈l,∃h r,kvs t=h::r∧Fo h∧h.1≠14) (hc:Fo (14,eB)) {u:KV} {r:List KV} {H:Heap} (ps:PS E H (kBL::(l.flatMap kvs++kBR::u::r)))
 {args:Array Value} (hRev: ∀R,reverseG.W f E.p 12 14 false H R→Fn PP fq139 args H R) {K:Sl→Heap→Prop}
 (hk: ∀(y:Sl) (bs:List Nat) (H':Heap),(Cx E H H' (u::r) fun G=>SlAt y (bs.map ptV) G∧All2 (fun b t=>Q b t G) bs l)→K y H'):
 callW PP fq139 args H ⟨Sl,fun x=>(.tuple #[(.slice x.1 x.2.1 x.2.2),.nilIface])⟩ fun(x10:Sl) H11=>
 newB H11 (.cells #[] eT) fun b12 H13=>
 loopK (Sl×Int×Unit) (((some ⟨b12,0,none⟩),0,0),0,()) H13 fun z14 H15 next16=>
 forkB (decide (z14.2.1<((x10.2.1:Nat):Int)))
 ((IxOk x10.1 z14.2.1 x10.2.1)∧
   loadW H15 false 1 ⟨(blkOf x10.1),(offOf x10.1+z14.2.1.toNat*1),none⟩ ⟨Nat,fun x=>(.iface T (.pointer (some ⟨x,0,none⟩)))⟩ fun(x17:Nat)=>
   newB H15 (.cells #[(.pointer (some ⟨x17,0,none⟩))] eT) fun b18 H19=>
   appK H19 eT 1 8 z14.1.1 z14.1.2.1 z14.1.2.2 (some ⟨b18,0,none⟩) 1 fun a20 c21 H22=>
   next16 ((a20,(z14.1.2.1+1),c21),(IntKind.i64.wrap (z14.2.1+1)),()) H22)
 (K z14.1 H15):=by
 refine revList T eT he Fo hlen hne hP hF hc ps hRev fun x bs H4 hbl c4=>?_
 refine nbI fun H5 e5 hb5 x5 s5=>?_
 exact conv_loop T eT he E c4 (by omega) (Ext.refl _ _) ps.lt x5 hb5 c4.ext.size (.inr (Nat.le_refl _)) fun y H6 c6=>hk y bs H6 c6
theorem sep_loop {f:FuncId} {eT:TypeId} (he:plainT eT) {E:PEnv} {Q:Nat→Tr→Heap→Prop} {k:Int} {l:List Tr} (hp: ∀m∈l,∀(w1:KV) (w2:List KV),POk E f #[.pointer (some ⟨E.p,0,none⟩)] (nmK m.n.name::w1::w2) (w1::w2) P1v fun b G=>Q b m G)
 (hkv: ∀m∈l,kvs m=[nmK m.n.name]) (hne:l≠ []) (hlen:l.length≤400) {u:KV} {r:List KV} (hu:u.1≠k) {A H3:Heap} {b0:Nat}
 (l0:Lst E A H3 (sepK (some (k,eB)) (kvL l)++u::r) eT (some ⟨b0,0,none⟩,0,0) ptV Q [] []) {R:Value→Heap→Prop}
 (hR: ∀(y:Sl) (bs:List Nat) (H':Heap),(Cx E A H' (u::r) fun G=>SlAt y (bs.map ptV) G∧All2 (fun b m=>Q b m G) bs l)→R (slV y) H'):
 loopK (Sl×Unit) (((some ⟨b0,0,none⟩),0,0),()) H3 fun z3 H4 next5=>
 callW PP f #[(.pointer (some ⟨E.p,0,none⟩))] H4 ⟨Nat,fun x=>(.tuple #[(.pointer (some ⟨x,0,none⟩)),.nilIface])⟩ fun(x6:Nat) H7=>
 newB H7 (.cells #[(.pointer (some ⟨x6,0,none⟩))] eT) fun b8 H9=>
 appK H9 eT 1 8 z3.1.1 z3.1.2.1 z3.1.2.2 (some ⟨b8,0,none⟩) 1 fun a10 c11 H12=>
 callW PP fq150 #[(.pointer (some ⟨E.p,0,none⟩)),(.int .i64 k)] H12 ⟨Bool,fun x=>(.tuple #[(.bool x),.nilIface])⟩ fun(x13:Bool) H14=>
 forkB (!x13)
 (retK (some [(.slice a10 (z3.1.2.1+1) c11),.nilIface]) H14 R)
 (next5 ((a10,(z3.1.2.1+1),c11),()) H14):=by
 refine⟨fun z H'=> ∃(done rest:List Tr) (m:Tr) (bs:List Nat),l=done++m::rest∧Lst E A H' (sepK (some (k,eB)) (kvL (m::rest))++u::r) eT z.1 ptV Q bs done,fun z _=>l.length -z.1.2.1,?_,?_⟩
 ·cases l with
  |nil=>exact absurd rfl hne
  |cons m rest=>exact⟨[],rest,m,[],rfl,l0⟩
 rintro⟨⟨xa,xn,xc⟩,_⟩ H4 ⟨done,rest,m,bs,hl4,l4⟩
 dsimp only at l4⊢
 have hn:=l4.own.1
 simp only[List.length_map,Nat.mul_one] at hn
 have hbl:=l4.facts.len
 have hll:=congrArg List.length hl4
 simp only[List.length_append,List.length_cons] at hll
 have hmm:m∈l:=by rw[hl4];simp
 obtain⟨w1,w2,hw,hcase⟩: ∃w1 w2,sepK (some (k,eB)) (kvL (m::rest))++u::r=nmK m.n.name::w1::w2∧
  (rest=[]∧w1=u∧w2=r∨ ∃m2 rest2,rest=m2::rest2∧w1=(k,eB)∧w2=sepK (some (k,eB)) (kvL (m2::rest2))++u::r):=by
  cases rest with
  |nil=>exact⟨u,r,by simp[kvL,sepK,hkv m hmm],.inl ⟨rfl,rfl,rfl⟩⟩
  |cons m2 rest2=>
   refine⟨(k,eB),sepK (some (k,eB)) (kvL (m2::rest2))++u::r,?_,.inr ⟨m2,rest2,rfl,rfl,rfl⟩⟩
   have e:sepK (some (k,eB)) (kvL (m::m2::rest2))=kvs m++([(k,eB)]++sepK (some (k,eB)) (kvL (m2::rest2))):=by simp only[kvL,sepK];rfl
   rw[e,hkv m hmm]
   simp
 rw[hw] at l4
 refine l4.call (hp m hmm w1 w2) fun y H5 l5 f5=>?_
 refine l5.push (b:=y) (m:=m) he (fun _=>rfl) 8 (by decide) (by omega) f5 fun a c H6 l6=>?_
 rcases hcase with⟨rfl,rfl,rfl⟩|⟨m2,rest2,rfl,rfl,rfl⟩
 ·refine l6.call1 (skip_no E _ _ k hu) false rfl fun H7 l7=>?_
  refine fkI (fun _=>?_) (fun hh=>absurd hh (by decide))
  refine rkI (hR (a,xn+1,c) (bs++[y]) H7 (l7.fin.weak fun G hG=>⟨hG.1,?_⟩))
  rw[hl4]
  exact hG.2
 ·obtain⟨z1,z2,hz⟩:=app_ne (sepK (some (k,eB)) (kvL (m2::rest2))) u r
  rw[hz] at l6
  refine l6.call1 (skip_yes E (k,eB) z1 z2 k rfl) true rfl fun H7 l7=>?_
  refine fkI (fun hh=>absurd hh (by decide)) (fun _=>?_)
  rw[←hz] at l7
  refine⟨⟨done++[m],rest2,m2,bs++[y],by rw[hl4];simp,l7⟩,?_⟩
  simp only[List.length_cons] at hll
  omega
theorem kvs_field_head (t:Tr) (hk:t.n.kind=29) (hf:Fine t): ∃h r,kvs t=h::r∧NoT h∧h.1≠14:=by
 obtain⟨de,ar,ds,ty,h1,h2,h3,h4,h5,h6⟩:=field_parts hf hk
 rw[kvs_field hk h1 h2 h4 h5 h6]
 rcases one_or_none h3 with rfl|⟨d,rfl⟩
 ·exact⟨nmK t.n.name,_,rfl,⟨by simp,by simp,by simp,by simp⟩,by simp⟩
 ·have hkd:=kind_of_in h2 d (by simp)
  refine⟨strK d.n,_,by simp[kvF,kvs_descr hkd];rfl,?_,?_⟩
  ·unfold NoT;rcases strK_kind d.n with h|h<;>rw[h]<;>decide
  ·rcases strK_kind d.n with h|h<;>rw[h]<;>decide
theorem kvs_enumv_head (t:Tr) (hk:t.n.kind=35) (hf:Fine t): ∃h r,kvs t=h::r∧NoT h∧h.1≠14:=by
 obtain⟨de,ds,h1,h2,h3,h4⟩:=scalar_parts hf (by omega)
 rw[kvs_enumv hk h1 h2 h4]
 rcases one_or_none h3 with rfl|⟨d,rfl⟩
 ·exact⟨nmK t.n.name,_,rfl,⟨by simp,by simp,by simp,by simp⟩,by simp⟩
 ·have hkd:=kind_of_in h2 d (by simp)
  refine⟨strK d.n,_,by simp[kvF,kvs_descr hkd];rfl,?_,?_⟩
  ·unfold NoT;rcases strK_kind d.n with h|h<;>rw[h]<;>decide
  ·rcases strK_kind d.n with h|h<;>rw[h]<;>decide
theorem kvs_input_head14 (t:Tr) (hk:t.n.kind=30) (hf:Fine t): ∃h r,kvs t=h::r∧NoT h∧h.1≠14:=by
 obtain⟨de,vs,ds,ty,hks,hde,h1,hty,hvs,hv1,hds⟩: ∃(de vs ds:List Tr) (ty:Tr),t.ks=de++(ty::(vs++ds))∧InK [23] de∧de.length≤1∧isTypeM ty.n=true∧(∀v∈vs,isValueM v.n=true)∧vs.length≤1∧InK [10] ds:=by
  cases hf.1.self.2 with
  |inputDef de vs ds ty _ h1 h2 h3 h4 h5 h6 h7 h8=>exact⟨de,vs,ds,ty,h1,h2,h3,h4,h5,h6,h7⟩
  |_=>omega
 rw[kvs_input hk hks hde hty hvs hv1 hds]
 rcases one_or_none h1 with rfl|⟨d,rfl⟩
 ·exact⟨nmK t.n.name,_,rfl,⟨by simp,by simp,by simp,by simp⟩,by simp⟩
 ·have hkd:=kind_of_in hde d (by simp)
  refine⟨strK d.n,_,by simp[kvF,kvs_descr hkd];rfl,?_,?_⟩
  ·unfold NoT;rcases strK_kind d.n with h|h<;>rw[h]<;>decide
  ·rcases strK_kind d.n with h|h<;>rw[h]<;>decide
theorem partName_31 (H:Heap):Fn PP fq33 #[.int .i64 31] H fun v H'=>v= .string wInterface∧H=H':=by
 refine partName.enter 31 H _ ?_
 unfold partName.W
 repeat refine fkI (fun hh=>absurd hh (by decide)) (fun _=>?_)
 refine fkI (fun _=>rkI ⟨rfl,rfl⟩) (fun hh=>absurd hh (by decide))
theorem partName_34 (H:Heap):Fn PP fq33 #[.int .i64 34] H fun v H'=>v= .string wEnum∧H=H':=by
 refine partName.enter 34 H _ ?_
 unfold partName.W
 repeat refine fkI (fun hh=>absurd hh (by decide)) (fun _=>?_)
 refine fkI (fun _=>rkI ⟨rfl,rfl⟩) (fun hh=>absurd hh (by decide))
theorem partName_36 (H:Heap):Fn PP fq33 #[.int .i64 36] H fun v H'=>v= .string wInput∧H=H':=by
 refine partName.enter 36 H _ ?_
 unfold partName.W
 repeat refine fkI (fun hh=>absurd hh (by decide)) (fun _=>?_)
 refine fkI (fun _=>rkI ⟨rfl,rfl⟩) (fun hh=>absurd hh (by decide))
theorem partName_27 (H:Heap):Fn PP fq33 #[.int .i64 27] H fun v H'=>v= .string wType∧H=H':=by
 refine partName.enter 27 H _ ?_
 unfold partName.W
 repeat refine fkI (fun hh=>absurd hh (by decide)) (fun _=>?_)
 refine fkI (fun _=>rkI ⟨rfl,rfl⟩) (fun hh=>absurd hh (by decide))
theorem partName_39 (H:Heap):Fn PP fq33 #[.int .i64 39] H fun v H'=>v= .string wExtend∧H=H':=by
 refine partName.enter 39 H _ ?_
 unfold partName.W
 repeat refine fkI (fun hh=>absurd hh (by decide)) (fun _=>?_)
 refine fkI (fun _=>rkI ⟨rfl,rfl⟩) (fun hh=>absurd hh (by decide))
abbrev sDirDef:ByteArray:=bs [100,105,114,101,99,116,105,118,101,32,100,101,102,105,110,105,116,105,111,110]
theorem partName_37 (H:Heap):Fn PP fq33 #[.int .i64 37] H fun v H'=>v= .string sDirDef∧H=H':=by
 refine partName.enter 37 H _ ?_
 unfold partName.W
 repeat refine fkI (fun hh=>absurd hh (by decide)) (fun _=>?_)
 refine fkI (fun _=>rkI ⟨rfl,rfl⟩) (fun hh=>absurd hh (by decide))
theorem take_inter (kind:Int) {b:Nat} {t:Tr} {G:Heap} (hf:Fine t) (h:ItemAt fq188 tq248 31 2 b t G):TakeOk kind tq248 b (flat t) G:=by
 intro H tk D ht hD
 refine tpartInterfaceDefinition.enter tk b kind H _ ?_
 unfold tpartInterfaceDefinition.W
 refine nbI fun H2 e2 hb2 x2 s2=>?_
 refine⟨fun w=>by kernel_rfl,?_⟩
 have t2:=ht.grow x2
 refine⟨_,lcO hb2 rfl,definitionInterfaceDefinition.enter tk b H2 _ ?_⟩
 unfold definitionInterfaceDefinition.W
 refine nbI fun H3 e3 hb3 x3 s3=>?_
 have t3:=t2.grow x3
 refine⟨_,lcO hb3 rfl,?_⟩
 have:=item_ok putSys3.enter (by unfold apartT;decide) (by decide) h t3 (fine_take hf.2.2 hD)
 refine(systemInterfaceDefinition.enter tk b H3 _ this).mono ?_
 rintro v H4 ⟨rfl,k4,Y,hY,t4⟩
 exact⟨(),rfl,rkI ⟨(),rfl,rkI ⟨rfl,Y,hY,t4⟩⟩⟩
theorem take_enum (kind:Int) {b:Nat} {t:Tr} {G:Heap} (hf:Fine t) (h:ItemAt fq190 tq257 34 2 b t G):TakeOk kind tq257 b (flat t) G:=by
 intro H tk D ht hD
 refine tpartEnumDefinition.enter tk b kind H _ ?_
 unfold tpartEnumDefinition.W
 refine nbI fun H2 e2 hb2 x2 s2=>?_
 refine⟨fun w=>by kernel_rfl,?_⟩
 have t2:=ht.grow x2
 refine⟨_,lcO hb2 rfl,definitionEnumDefinition.enter tk b H2 _ ?_⟩
 unfold definitionEnumDefinition.W
 refine nbI fun H3 e3 hb3 x3 s3=>?_
 have t3:=t2.grow x3
 refine⟨_,lcO hb3 rfl,?_⟩
 have:=item_ok putSys5.enter (by unfold apartT;decide) (by decide) h t3 (fine_take hf.2.2 hD)
 refine(systemEnumDefinition.enter tk b H3 _ this).mono ?_
 rintro v H4 ⟨rfl,k4,Y,hY,t4⟩
 exact⟨(),rfl,rkI ⟨(),rfl,rkI ⟨rfl,Y,hY,t4⟩⟩⟩
theorem take_inobj (kind:Int) {b:Nat} {t:Tr} {G:Heap} (hf:Fine t) (h:ItemAt fq192 tq262 36 2 b t G):TakeOk kind tq262 b (flat t) G:=by
 intro H tk D ht hD
 refine tpartInputObjectDefinition.enter tk b kind H _ ?_
 unfold tpartInputObjectDefinition.W
 refine nbI fun H2 e2 hb2 x2 s2=>?_
 refine⟨fun w=>by kernel_rfl,?_⟩
 have t2:=ht.grow x2
 refine⟨_,lcO hb2 rfl,definitionInputObjectDefinition.enter tk b H2 _ ?_⟩
 unfold definitionInputObjectDefinition.W
 refine nbI fun H3 e3 hb3 x3 s3=>?_
 have t3:=t2.grow x3
 refine⟨_,lcO hb3 rfl,?_⟩
 have:=item_ok putSys6.enter (by unfold apartT;decide) (by decide) h t3 (fine_take hf.2.2 hD)
 refine(systemInputObjectDefinition.enter tk b H3 _ this).mono ?_
 rintro v H4 ⟨rfl,k4,Y,hY,t4⟩
 exact⟨(),rfl,rkI ⟨(),rfl,rkI ⟨rfl,Y,hY,t4⟩⟩⟩
theorem take_ddef (kind:Int) {b:Nat} {t:Tr} {G:Heap} (hf:Fine t) (h:ItemAt fq193 tq270 37 2 b t G):TakeOk kind tq270 b (flat t) G:=by
 intro H tk D ht hD
 refine tpartDirectiveDefinition.enter tk b kind H _ ?_
 unfold tpartDirectiveDefinition.W
 refine nbI fun H2 e2 hb2 x2 s2=>?_
 refine⟨fun w=>by kernel_rfl,?_⟩
 have t2:=ht.grow x2
 refine⟨_,lcO hb2 rfl,definitionDirectiveDefinition.enter tk b H2 _ ?_⟩
 unfold definitionDirectiveDefinition.W
 refine nbI fun H3 e3 hb3 x3 s3=>?_
 have t3:=t2.grow x3
 refine⟨_,lcO hb3 rfl,?_⟩
 have:=item_ok putSys7.enter (by unfold apartT;decide) (by decide) h t3 (fine_take hf.2.2 hD)
 refine(systemDirectiveDefinition.enter tk b H3 _ this).mono ?_
 rintro v H4 ⟨rfl,k4,Y,hY,t4⟩
 exact⟨(),rfl,rkI ⟨(),rfl,rkI ⟨rfl,Y,hY,t4⟩⟩⟩
theorem inter_parts {t:Tr} (hf:Fine t) (hk:t.n.kind=31): ∃(de ds fs:List Tr),t.ks=de++(ds++fs)∧InK [23] de∧de.length≤1∧InK [10] ds∧InK [29] fs∧fs≠ []:=by
 cases hf.1.self.2 with
 |interface de ds fs _ h1 h2 h3 h4 h5 h6 _=>exact⟨de,ds,fs,h1,h2,h3,h4,h5,List.length_pos_iff.1 h6⟩
 |_=>omega
theorem kvs_inter {t:Tr} {de ds fs:List Tr} (hk:t.n.kind=31) (hks:t.ks=de++(ds++fs)) (hde:InK [23] de) (hds:InK [10] ds) (hfs:InK [29] fs):kvs t=kvF de++(nmK wInterface::nmK t.n.name::(kvF ds++brK (some kBL) (some kBR) fs)):=by
 have e1:=sel_de hde (l:=ds++fs) fun x hx=>by
  rcases List.mem_append.1 hx with h|h
  ·rw[kind_of_in hds x h];decide
  ·rw[kind_of_in hfs x h];decide
 have e2:dirsK (kvL (de++(ds++fs)))=kvF ds:=by
  unfold dirsK
  rw[kidsK_sel (l:=ds) (by rw[selK_app,selK_app,selK_no (fun x hx=>by rw[kind_of_in hde x hx];decide),selK_all hds (by simp),selK_no (l:=fs) (fun x hx=>by rw[kind_of_in hfs x hx];decide),List.nil_append,List.append_nil]),brK_none]
 have e3:kidsK (some kBL) (some kBR) none [29] (kvL (de++(ds++fs)))=brK (some kBL) (some kBR) fs:=
  kidsK_sel (l:=fs) (by rw[selK_app,selK_app,selK_no (fun x hx=>by rw[kind_of_in hde x hx];decide),selK_no (l:=ds) (fun x hx=>by rw[kind_of_in hds x hx];decide),selK_all hfs (by simp),List.nil_append,List.nil_append])
 rw[kvs_eq,hks];simp[bodyK,restK,defK,hk,e1,e2,e3]
theorem parse_inter_ok (E:PEnv) (t:Tr) (hk:t.n.kind=31) (hf:Fine t) (u:KV) (r:List KV):
 POk E fq98 #[.pointer (some ⟨E.p,0,none⟩)] (kvs t++u::r) (u::r) (ifP tq248) fun b G=>ItemAt fq188 tq248 31 2 b t G:=by
 intro H ps
 obtain⟨de,ds,fs,hks,hde,h1,hds,hfs,hfn⟩:=inter_parts hf hk
 have hkf:=kids_fine hf
 have hlen:=hf.few
 rw[hks] at hkf hlen
 simp only[List.length_append] at hlen
 have hff: ∀m∈fs,Fine m:=fun m hm=>hkf m (by simp[hm])
 rw[kvs_inter hk hks hde hds hfs] at ps
 simp only[List.append_assoc,List.cons_append] at ps
 rw[brK_some hfn] at ps
 refine parseInterfaceTypeDefinition.enter _ H _ ?_
 unfold parseInterfaceTypeDefinition.W
 obtain⟨w0,w1,hw0⟩:=app_ne (kvF de) (nmK wInterface) (nmK t.n.name::(kvF ds++(kBL::(fs.flatMap kvs++kBR::u::r))))
 have ps':=ps
 rw[hw0] at ps'
 obtain⟨st,hst,_⟩:=ps'.start
 refine⟨_,hst,?_⟩
 refine(Cx.start ps).call (p:=opP) (parseDescription_ok E de hde h1 (fun x hx=>hkf x (by simp[hx])) _ _ ⟨by simp,by simp⟩) fun xd H1 _ c1=>?_
 refine c1.call (expectKeyWord_ok E _ _ wInterface) fun _ H2 _ c2=>?_
 obtain⟨w2,w3,hw2⟩:=app_ne (kvF ds) kBL (fs.flatMap kvs++kBR::u::r)
 rw[hw2] at c2
 refine c2.call (parseName_ok E t.n.name w2 w3) fun nb H3 _ c3=>?_
 rw[←hw2] at c3
 refine c3.call (p:=slP) (parseDirectives_ok E ds hds (fun x hx=>hkf x (by simp[hx])) (by omega) kBL _ (by decide) (by decide)) fun xs H4 _ c4=>?_
 refine braced tq117 tq117 (by unfold plainT;decide) (Q:=fun b t G=>ItemAt fq122 tq117 29 2 b t G) NoT (by omega) hfn (fun m hm u' r' hu'=>parseFieldDefinition_ok E m (kind_of_in hfs m hm) (hff m hm) u' r' hu') (fun m hm=>kvs_field_head m (kind_of_in hfs m hm) (hff m hm)) ⟨by decide,by decide,by decide,by decide⟩ c4.ps (fun R h=>reverseField.enter _ _ _ _ _ R h)
  (K:=fun y H'=>callW PP fq141 #[(.pointer (some ⟨E.p,0,none⟩)),(.int .i64 (st:Int))] H' pBlk fun(x23:Nat) H24=>
    newB H24 (.cells #[(.string (Go.Vx.bs [])),(.pointer (some ⟨x23,0,none⟩)),(.pointer (some ⟨nb,0,none⟩)),(.pointer xd),(.slice xs.1 xs.2.1 xs.2.2),(.slice y.1 y.2.1 y.2.2)] tq251) fun b25 H26=>
    callW PP fq156 #[(.pointer (some ⟨b25,0,none⟩))] H26 pBlk fun(x27:Nat) H28=>
    retK (some [(.iface tq248 (.pointer (some ⟨x27,0,none⟩))),.nilIface]) H28 _) fun y bs H5 c5=>?_
 refine(c4.trans c5).call (loc_ok E _ _) fun lb H6 _ c6=>?_
 refine c6.node (NewInterfaceDefinition_mk _ _ _ _ _ _ _ _ _) fun b H7 _ c7=>?_
 refine rkI ⟨b,rfl,c7.weak fun G hG=>?_⟩
 obtain⟨⟨⟨⟨⟨⟨⟨_,hd⟩,_⟩,hn⟩,hs⟩,hm,hv⟩,hl⟩,hb⟩:=hG
 exact item_inter hl hn hb hd hs (take_list putFieldD.enter (by unfold apartT;decide) (by decide) fields_ent hm hv) hks hk (formed_alias hf.1.self.1 (by omega)) (body_notext hf.1.self.1.2 (by omega)) hf.2.1
theorem kind_inter:KindOk 31 31 wInterface:=kind_of 31 31 wInterface partName_31 (fun h=>absurd (congrArg ByteArray.size h) (by decide)) (by
 intro t hf hk
 obtain⟨de,ds,fs,h1,h2,h3,h4,h5,h6⟩:=inter_parts hf hk
 refine⟨by rw[kvs_inter hk h1 h2 h4 h5];simp,?_⟩
 intro E u hu H ps
 refine ppart.enter _ _ H _ ?_
 unfold ppart.W
 repeat refine fkI (fun hh=>(neq_bs (by decide) hh).elim) (fun _=>?_)
 refine fkI (fun _=>?_) (fun hh=>(eq_bs hh).elim)
 exact step_one (val:=ifP tq248) (ofA:=fun b=>(tq248,b)) ps ((parse_inter_ok E t hk hf u []).imp fun b G h=>take_inter 31 hf h))
theorem enum_parts {t:Tr} (hf:Fine t) (hk:t.n.kind=34): ∃(de ds fs:List Tr),t.ks=de++(ds++fs)∧InK [23] de∧de.length≤1∧InK [10] ds∧InK [35] fs∧fs≠ []:=by
 cases hf.1.self.2 with
 |enum de ds fs _ h1 h2 h3 h4 h5 h6 _=>exact⟨de,ds,fs,h1,h2,h3,h4,h5,List.length_pos_iff.1 h6⟩
 |_=>omega
theorem kvs_enum {t:Tr} {de ds fs:List Tr} (hk:t.n.kind=34) (hks:t.ks=de++(ds++fs)) (hde:InK [23] de) (hds:InK [10] ds) (hfs:InK [35] fs):kvs t=kvF de++(nmK wEnum::nmK t.n.name::(kvF ds++brK (some kBL) (some kBR) fs)):=by
 have e1:=sel_de hde (l:=ds++fs) fun x hx=>by
  rcases List.mem_append.1 hx with h|h
  ·rw[kind_of_in hds x h];decide
  ·rw[kind_of_in hfs x h];decide
 have e2:dirsK (kvL (de++(ds++fs)))=kvF ds:=by
  unfold dirsK
  rw[kidsK_sel (l:=ds) (by rw[selK_app,selK_app,selK_no (fun x hx=>by rw[kind_of_in hde x hx];decide),selK_all hds (by simp),selK_no (l:=fs) (fun x hx=>by rw[kind_of_in hfs x hx];decide),List.nil_append,List.append_nil]),brK_none]
 have e3:kidsK (some kBL) (some kBR) none [35] (kvL (de++(ds++fs)))=brK (some kBL) (some kBR) fs:=
  kidsK_sel (l:=fs) (by rw[selK_app,selK_app,selK_no (fun x hx=>by rw[kind_of_in hde x hx];decide),selK_no (l:=ds) (fun x hx=>by rw[kind_of_in hds x hx];decide),selK_all hfs (by simp),List.nil_append,List.nil_append])
 rw[kvs_eq,hks];simp[bodyK,restK,defK,hk,e1,e2,e3]
theorem parse_enum_ok (E:PEnv) (t:Tr) (hk:t.n.kind=34) (hf:Fine t) (u:KV) (r:List KV):
 POk E fq101 #[.pointer (some ⟨E.p,0,none⟩)] (kvs t++u::r) (u::r) (ifP tq257) fun b G=>ItemAt fq190 tq257 34 2 b t G:=by
 intro H ps
 obtain⟨de,ds,fs,hks,hde,h1,hds,hfs,hfn⟩:=enum_parts hf hk
 have hkf:=kids_fine hf
 have hlen:=hf.few
 rw[hks] at hkf hlen
 simp only[List.length_append] at hlen
 have hff: ∀m∈fs,Fine m:=fun m hm=>hkf m (by simp[hm])
 rw[kvs_enum hk hks hde hds hfs] at ps
 simp only[List.append_assoc,List.cons_append] at ps
 rw[brK_some hfn] at ps
 refine parseEnumTypeDefinition.enter _ H _ ?_
 unfold parseEnumTypeDefinition.W
 obtain⟨w0,w1,hw0⟩:=app_ne (kvF de) (nmK wEnum) (nmK t.n.name::(kvF ds++(kBL::(fs.flatMap kvs++kBR::u::r))))
 have ps':=ps
 rw[hw0] at ps'
 obtain⟨st,hst,_⟩:=ps'.start
 refine⟨_,hst,?_⟩
 refine(Cx.start ps).call (p:=opP) (parseDescription_ok E de hde h1 (fun x hx=>hkf x (by simp[hx])) _ _ ⟨by simp,by simp⟩) fun xd H1 _ c1=>?_
 refine c1.call (expectKeyWord_ok E _ _ wEnum) fun _ H2 _ c2=>?_
 obtain⟨w2,w3,hw2⟩:=app_ne (kvF ds) kBL (fs.flatMap kvs++kBR::u::r)
 rw[hw2] at c2
 refine c2.call (parseName_ok E t.n.name w2 w3) fun nb H3 _ c3=>?_
 rw[←hw2] at c3
 refine c3.call (p:=slP) (parseDirectives_ok E ds hds (fun x hx=>hkf x (by simp[hx])) (by omega) kBL _ (by decide) (by decide)) fun xs H4 _ c4=>?_
 refine braced tq123 tq123 (by unfold plainT;decide) (Q:=fun b t G=>EnumVAt b t G) NoT (by omega) hfn (fun m hm u' r' hu'=>by
  obtain⟨a1,a2,a3,a4,a5,a6⟩:=scalar_parts (hff m hm) (.inr (kind_of_in hfs m hm))
  exact parseEnumValue_ok E m (kind_of_in hfs m hm) (hff m hm) a3 a4 a5 a6 u' r' hu'.1 hu'.2.1) (fun m hm=>kvs_enumv_head m (kind_of_in hfs m hm) (hff m hm)) ⟨by decide,by decide,by decide,by decide⟩ c4.ps (fun R h=>reverseEnum.enter _ _ _ _ _ R h)
  (K:=fun y H'=>callW PP fq141 #[(.pointer (some ⟨E.p,0,none⟩)),(.int .i64 (st:Int))] H' pBlk fun(x23:Nat) H24=>
    newB H24 (.cells #[(.string (Go.Vx.bs [])),(.pointer (some ⟨x23,0,none⟩)),(.pointer (some ⟨nb,0,none⟩)),(.pointer xd),(.slice xs.1 xs.2.1 xs.2.2),(.slice y.1 y.2.1 y.2.2)] tq260) fun b25 H26=>
    callW PP fq158 #[(.pointer (some ⟨b25,0,none⟩))] H26 pBlk fun(x27:Nat) H28=>
    retK (some [(.iface tq257 (.pointer (some ⟨x27,0,none⟩))),.nilIface]) H28 _) fun y bs H5 c5=>?_
 refine(c4.trans c5).call (loc_ok E _ _) fun lb H6 _ c6=>?_
 refine c6.node (NewEnumDefinition_mk _ _ _ _ _ _ _ _ _) fun b H7 _ c7=>?_
 refine rkI ⟨b,rfl,c7.weak fun G hG=>?_⟩
 obtain⟨⟨⟨⟨⟨⟨⟨_,hd⟩,_⟩,hn⟩,hs⟩,hm,hv⟩,hl⟩,hb⟩:=hG
 exact item_enum hl hn hb hd hs hm (hv.imp fun _ _ h=>item_51 h) hks hk (formed_alias hf.1.self.1 (by omega)) (body_notext hf.1.self.1.2 (by omega)) hf.2.1
theorem kind_enum:KindOk 34 34 wEnum:=kind_of 34 34 wEnum partName_34 (fun h=>absurd (congrArg ByteArray.size h) (by decide)) (by
 intro t hf hk
 obtain⟨de,ds,fs,h1,h2,h3,h4,h5,h6⟩:=enum_parts hf hk
 refine⟨by rw[kvs_enum hk h1 h2 h4 h5];simp,?_⟩
 intro E u hu H ps
 refine ppart.enter _ _ H _ ?_
 unfold ppart.W
 repeat refine fkI (fun hh=>(neq_bs (by decide) hh).elim) (fun _=>?_)
 refine fkI (fun _=>?_) (fun hh=>(eq_bs hh).elim)
 exact step_one (val:=ifP tq257) (ofA:=fun b=>(tq257,b)) ps ((parse_enum_ok E t hk hf u []).imp fun b G h=>take_enum 34 hf h))
theorem inobj_parts {t:Tr} (hf:Fine t) (hk:t.n.kind=36): ∃(de ds fs:List Tr),t.ks=de++(ds++fs)∧InK [23] de∧de.length≤1∧InK [10] ds∧InK [30] fs∧fs≠ []:=by
 cases hf.1.self.2 with
 |input de ds fs _ h1 h2 h3 h4 h5 h6 _=>exact⟨de,ds,fs,h1,h2,h3,h4,h5,List.length_pos_iff.1 h6⟩
 |_=>omega
theorem kvs_inobj {t:Tr} {de ds fs:List Tr} (hk:t.n.kind=36) (hks:t.ks=de++(ds++fs)) (hde:InK [23] de) (hds:InK [10] ds) (hfs:InK [30] fs):kvs t=kvF de++(nmK wInput::nmK t.n.name::(kvF ds++brK (some kBL) (some kBR) fs)):=by
 have e1:=sel_de hde (l:=ds++fs) fun x hx=>by
  rcases List.mem_append.1 hx with h|h
  ·rw[kind_of_in hds x h];decide
  ·rw[kind_of_in hfs x h];decide
 have e2:dirsK (kvL (de++(ds++fs)))=kvF ds:=by
  unfold dirsK
  rw[kidsK_sel (l:=ds) (by rw[selK_app,selK_app,selK_no (fun x hx=>by rw[kind_of_in hde x hx];decide),selK_all hds (by simp),selK_no (l:=fs) (fun x hx=>by rw[kind_of_in hfs x hx];decide),List.nil_append,List.append_nil]),brK_none]
 have e3:kidsK (some kBL) (some kBR) none [30] (kvL (de++(ds++fs)))=brK (some kBL) (some kBR) fs:=
  kidsK_sel (l:=fs) (by rw[selK_app,selK_app,selK_no (fun x hx=>by rw[kind_of_in hde x hx];decide),selK_no (l:=ds) (fun x hx=>by rw[kind_of_in hds x hx];decide),selK_all hfs (by simp),List.nil_append,List.nil_append])
 rw[kvs_eq,hks];simp[bodyK,restK,defK,hk,e1,e2,e3]
theorem parse_inobj_ok (E:PEnv) (t:Tr) (hk:t.n.kind=36) (hf:Fine t) (u:KV) (r:List KV):
 POk E fq103 #[.pointer (some ⟨E.p,0,none⟩)] (kvs t++u::r) (u::r) (ifP tq262) fun b G=>ItemAt fq192 tq262 36 2 b t G:=by
 intro H ps
 obtain⟨de,ds,fs,hks,hde,h1,hds,hfs,hfn⟩:=inobj_parts hf hk
 have hkf:=kids_fine hf
 have hlen:=hf.few
 rw[hks] at hkf hlen
 simp only[List.length_append] at hlen
 have hff: ∀m∈fs,Fine m:=fun m hm=>hkf m (by simp[hm])
 rw[kvs_inobj hk hks hde hds hfs] at ps
 simp only[List.append_assoc,List.cons_append] at ps
 rw[brK_some hfn] at ps
 refine parseInputObjectTypeDefinition.enter _ H _ ?_
 unfold parseInputObjectTypeDefinition.W
 obtain⟨w0,w1,hw0⟩:=app_ne (kvF de) (nmK wInput) (nmK t.n.name::(kvF ds++(kBL::(fs.flatMap kvs++kBR::u::r))))
 have ps':=ps
 rw[hw0] at ps'
 obtain⟨st,hst,_⟩:=ps'.start
 refine⟨_,hst,?_⟩
 refine(Cx.start ps).call (p:=opP) (parseDescription_ok E de hde h1 (fun x hx=>hkf x (by simp[hx])) _ _ ⟨by simp,by simp⟩) fun xd H1 _ c1=>?_
 refine c1.call (expectKeyWord_ok E _ _ wInput) fun _ H2 _ c2=>?_
 obtain⟨w2,w3,hw2⟩:=app_ne (kvF ds) kBL (fs.flatMap kvs++kBR::u::r)
 rw[hw2] at c2
 refine c2.call (parseName_ok E t.n.name w2 w3) fun nb H3 _ c3=>?_
 rw[←hw2] at c3
 refine c3.call (p:=slP) (parseDirectives_ok E ds hds (fun x hx=>hkf x (by simp[hx])) (by omega) kBL _ (by decide) (by decide)) fun xs H4 _ c4=>?_
 refine braced tq120 tq120 (by unfold plainT;decide) (Q:=fun b t G=>ItemAt fq123 tq120 30 2 b t G) NoT (by omega) hfn (fun m hm u' r' hu'=>parseInputValueDef_ok E m (kind_of_in hfs m hm) (hff m hm) u' r' hu') (fun m hm=>kvs_input_head14 m (kind_of_in hfs m hm) (hff m hm)) ⟨by decide,by decide,by decide,by decide⟩ c4.ps (fun R h=>reverseInput.enter _ _ _ _ _ R h)
  (K:=fun y H'=>callW PP fq141 #[(.pointer (some ⟨E.p,0,none⟩)),(.int .i64 (st:Int))] H' pBlk fun(x23:Nat) H24=>
    newB H24 (.cells #[(.string (Go.Vx.bs [])),(.pointer (some ⟨x23,0,none⟩)),(.pointer (some ⟨nb,0,none⟩)),(.pointer xd),(.slice xs.1 xs.2.1 xs.2.2),(.slice y.1 y.2.1 y.2.2)] tq265) fun b25 H26=>
    callW PP fq160 #[(.pointer (some ⟨b25,0,none⟩))] H26 pBlk fun(x27:Nat) H28=>
    retK (some [(.iface tq262 (.pointer (some ⟨x27,0,none⟩))),.nilIface]) H28 _) fun y bs H5 c5=>?_
 refine(c4.trans c5).call (loc_ok E _ _) fun lb H6 _ c6=>?_
 refine c6.node (NewInputObjectDefinition_mk _ _ _ _ _ _ _ _ _) fun b H7 _ c7=>?_
 refine rkI ⟨b,rfl,c7.weak fun G hG=>?_⟩
 obtain⟨⟨⟨⟨⟨⟨⟨_,hd⟩,_⟩,hn⟩,hs⟩,hm,hv⟩,hl⟩,hb⟩:=hG
 exact item_inobj hl hn hb hd hs (take_list putInputD.enter (by unfold apartT;decide) (by decide) inputs_ent hm hv) hks hk (formed_alias hf.1.self.1 (by omega)) (body_notext hf.1.self.1.2 (by omega)) hf.2.1
theorem kind_inobj:KindOk 36 36 wInput:=kind_of 36 36 wInput partName_36 (fun h=>absurd (congrArg ByteArray.size h) (by decide)) (by
 intro t hf hk
 obtain⟨de,ds,fs,h1,h2,h3,h4,h5,h6⟩:=inobj_parts hf hk
 refine⟨by rw[kvs_inobj hk h1 h2 h4 h5];simp,?_⟩
 intro E u hu H ps
 refine ppart.enter _ _ H _ ?_
 unfold ppart.W
 repeat refine fkI (fun hh=>(neq_bs (by decide) hh).elim) (fun _=>?_)
 refine fkI (fun _=>?_) (fun hh=>(eq_bs hh).elim)
 exact step_one (val:=ifP tq262) (ofA:=fun b=>(tq262,b)) ps ((parse_inobj_ok E t hk hf u []).imp fun b G h=>take_inobj 36 hf h))
theorem kvs_leafname {m:Tr} (hk:m.n.kind=28∨m.n.kind=38):kvs m=[nmK m.n.name]:=by
 rw[kvs_eq];rcases hk with h|h<;>simp[bodyK,restK,h]
theorem ddef_parts {t:Tr} (hf:Fine t) (hk:t.n.kind=37): ∃(de ar ls:List Tr),t.ks=de++(ar++ls)∧InK [23] de∧de.length≤1∧InK [30] ar∧InK [38] ls∧ls≠ []:=by
 cases hf.1.self.2 with
 |directiveDef de ar ls _ h1 h2 h3 h4 h5 h6=>exact⟨de,ar,ls,h1,h2,h3,h4,h5,List.length_pos_iff.1 h6⟩
 |_=>omega
theorem kvs_ddef {t:Tr} {de ar ls:List Tr} (hk:t.n.kind=37) (hks:t.ks=de++(ar++ls)) (hde:InK [23] de) (har:InK [30] ar) (hls:InK [38] ls):
 kvs t=kvF de++(nmK wDirective::kAt::nmK t.n.name::(brK (some kPL) (some kPR) ar++brS (nmK onB) kPipe ls)):=by
 have e1:=sel_de hde (l:=ar++ls) fun x hx=>by
  rcases List.mem_append.1 hx with h|h
  ·rw[kind_of_in har x h];decide
  ·rw[kind_of_in hls x h];decide
 have e2:kidsK (some kPL) (some kPR) none [30] (kvL (de++(ar++ls)))=brK (some kPL) (some kPR) ar:=
  kidsK_sel (l:=ar) (by rw[selK_app,selK_app,selK_no (fun x hx=>by rw[kind_of_in hde x hx];decide),selK_all har (by simp),selK_no (l:=ls) (fun x hx=>by rw[kind_of_in hls x hx];decide),List.nil_append,List.append_nil])
 have e3:kidsK (some (nmK onB)) none (some kPipe) [38] (kvL (de++(ar++ls)))=brS (nmK onB) kPipe ls:=
  kidsK_selS (l:=ls) (by rw[selK_app,selK_app,selK_no (fun x hx=>by rw[kind_of_in hde x hx];decide),selK_no (l:=ar) (fun x hx=>by rw[kind_of_in har x hx];decide),selK_all hls (by simp),List.nil_append,List.nil_append])
 rw[kvs_eq,hks];simp[bodyK,restK,defK,hk,e1,e2,e3]
theorem parseLocations_ok (E:PEnv) (l:List Tr) (hK:InK [38] l) (hne:l≠ []) (hlen:l.length≤400) (u:KV) (r:List KV) (hu:u.1≠13):
 POk E fq107 #[.pointer (some ⟨E.p,0,none⟩)] (sepK (some kPipe) (kvL l)++u::r) (u::r) slV fun x G=> ∃bs:List Nat,SlAt x (bs.map ptV) G∧All2 (fun b (k:Tr)=>NameAt b k.n.name G) bs l:=by
 intro H ps
 refine parseDirectiveLocations.enter _ H _ ?_
 unfold parseDirectiveLocations.W
 refine Lst.row0 ps tq111 ptV (fun(b:Nat) (k:Tr) G=>NameAt b k.n.name G) fun b0 H3 l0=>?_
 exact sep_loop (by unfold plainT;decide) (fun m _ w1 w2=>parseName_ok E m.n.name w1 w2) (fun m hm=>kvs_leafname (.inr (kind_of_in hK m hm))) hne hlen hu l0 fun y bs H' c=>⟨y,rfl,c.weak fun G hG=>⟨bs,hG⟩⟩
theorem parse_ddef_ok (E:PEnv) (t:Tr) (hk:t.n.kind=37) (hf:Fine t) (u:KV) (r:List KV) (hu:u.1≠13):
 POk E fq105 #[.pointer (some ⟨E.p,0,none⟩)] (kvs t++u::r) (u::r) (ifP tq270) fun b G=>ItemAt fq193 tq270 37 2 b t G:=by
 intro H ps
 obtain⟨de,ar,ls,hks,hde,h1,har,hls,hln⟩:=ddef_parts hf hk
 have hkf:=kids_fine hf
 have hlen:=hf.few
 rw[hks] at hkf hlen
 simp only[List.length_append] at hlen
 have eS:brS (nmK onB) kPipe ls=nmK onB::sepK (some kPipe) (kvL ls):=by simp[brS,hln]
 rw[kvs_ddef hk hks hde har hls,eS] at ps
 simp only[List.append_assoc,List.cons_append] at ps
 refine parseDirectiveDefinition.enter _ H _ ?_
 unfold parseDirectiveDefinition.W
 obtain⟨w0,w1,hw0⟩:=app_ne (kvF de) (nmK wDirective) (kAt::nmK t.n.name::(brK (some kPL) (some kPR) ar++(nmK onB::(sepK (some kPipe) (kvL ls)++u::r))))
 have ps':=ps
 rw[hw0] at ps'
 obtain⟨st,hst,_⟩:=ps'.start
 refine⟨_,hst,?_⟩
 refine(Cx.start ps).call (p:=opP) (parseDescription_ok E de hde h1 (fun x hx=>hkf x (by simp[hx])) _ _ ⟨by simp,by simp⟩) fun xd H1 _ c1=>?_
 refine c1.call (expectKeyWord_ok E _ _ wDirective) fun _ H2 _ c2=>?_
 refine c2.call (expect_ok E kAt _ _ 9 rfl) fun _ H3 _ c3=>?_
 obtain⟨w2,w3,hw2⟩:=app_ne (brK (some kPL) (some kPR) ar) (nmK onB) (sepK (some kPipe) (kvL ls)++u::r)
 rw[hw2] at c3
 refine c3.call (parseName_ok E t.n.name w2 w3) fun nb H4 _ c4=>?_
 rw[←hw2] at c4
 refine c4.call (p:=slP) (parseArgumentDefs_ok E ar har (fun x hx=>hkf x (by simp[hx])) (by omega) (nmK onB) _ (by simp)) fun xs H5 _ c5=>?_
 obtain⟨w4,w5,hw4⟩:=app_ne (sepK (some kPipe) (kvL ls)) u r
 rw[hw4] at c5
 refine c5.call (expectKeyWord_ok E w4 w5 onB) fun _ H6 _ c6=>?_
 rw[←hw4] at c6
 refine c6.call (p:=slP) (parseLocations_ok E ls hls hln (by omega) u r hu) fun xm H7 _ c7=>?_
 refine c7.call (loc_ok E _ _) fun lb H8 _ c8=>?_
 refine c8.node (NewDirectiveDefinition_mk _ _ _ _ _ _ _ _ _) fun b H9 _ c9=>?_
 refine rkI ⟨b,rfl,c9.weak fun G hG=>?_⟩
 obtain⟨⟨⟨⟨⟨⟨⟨⟨⟨_,hd⟩,_⟩,_⟩,hn⟩,hs⟩,_⟩,⟨bs,hm,hv⟩⟩,hl⟩,hb⟩:=hG
 exact item_ddef hl hn hb hd hs hm hv (fun m hmm=>⟨hkf m (by simp[hmm]),kind_of_in hls m hmm⟩) hks hk (formed_alias hf.1.self.1 (by omega)) (body_notext hf.1.self.1.2 (by omega)) hf.2.1
theorem kind_ddef:KindOk 37 37 sDirDef:=kind_of 37 37 sDirDef partName_37 (fun h=>absurd (congrArg ByteArray.size h) (by decide)) (by
 intro t hf hk
 obtain⟨de,ds,fs,h1,h2,h3,h4,h5,h6⟩:=ddef_parts hf hk
 refine⟨by rw[kvs_ddef hk h1 h2 h4 h5];simp,?_⟩
 intro E u hu H ps
 refine ppart.enter _ _ H _ ?_
 unfold ppart.W
 repeat refine fkI (fun hh=>(neq_bs (by decide) hh).elim) (fun _=>?_)
 refine fkI (fun _=>?_) (fun hh=>(eq_bs hh).elim)
 exact step_one (val:=ifP tq270) (ofA:=fun b=>(tq270,b)) ps ((parse_ddef_ok E t hk hf u [] (hu.no (by decide) (by decide))).imp fun b G h=>take_ddef 37 hf h))
theorem obj_parts {t:Tr} (hf:Fine t) (hk:t.n.kind=27): ∃(de is ds fs:List Tr),t.ks=de++(is++(ds++fs))∧InK [23] de∧de.length≤1∧InK [28] is∧InK [10] ds∧InK [29] fs∧fs≠ []:=by
 cases hf.1.self.2 with
 |otype de is ds fs _ h1 h2 h3 h4 h5 h6 h7 _=>exact⟨de,is,ds,fs,h1,h2,h3,h4,h5,h6,List.length_pos_iff.1 h7⟩
 |_=>omega
theorem kvs_obj {t:Tr} {de is ds fs:List Tr} (hk:t.n.kind=27) (hks:t.ks=de++(is++(ds++fs))) (hde:InK [23] de) (his:InK [28] is) (hds:InK [10] ds) (hfs:InK [29] fs):
 kvs t=kvF de++(nmK wType::nmK t.n.name::(brS (nmK wImplements) kAmp is++(kvF ds++brK (some kBL) (some kBR) fs))):=by
 have n1: ∀ {K:Int},K≠23→selK [K] (kvL de)=[]:=fun h=>selK_no fun x hx=>by rw[kind_of_in hde x hx];simpa using fun e=>h e.symm
 have n2: ∀ {K:Int},K≠28→selK [K] (kvL is)=[]:=fun h=>selK_no fun x hx=>by rw[kind_of_in his x hx];simpa using fun e=>h e.symm
 have n3: ∀ {K:Int},K≠10→selK [K] (kvL ds)=[]:=fun h=>selK_no fun x hx=>by rw[kind_of_in hds x hx];simpa using fun e=>h e.symm
 have n4: ∀ {K:Int},K≠29→selK [K] (kvL fs)=[]:=fun h=>selK_no fun x hx=>by rw[kind_of_in hfs x hx];simpa using fun e=>h e.symm
 have e1:kidsK none none none [23] (kvL (de++(is++(ds++fs))))=kvF de:=by
  rw[kidsK_sel (l:=de) (by rw[selK_app,selK_app,selK_app,n2 (by decide),n3 (by decide),n4 (by decide),selK_all hde (by simp),List.nil_append,List.nil_append,List.append_nil]),brK_none]
 have e2:dirsK (kvL (de++(is++(ds++fs))))=kvF ds:=by
  unfold dirsK
  rw[kidsK_sel (l:=ds) (by rw[selK_app,selK_app,selK_app,n1 (by decide),n2 (by decide),n4 (by decide),selK_all hds (by simp),List.nil_append,List.nil_append,List.append_nil]),brK_none]
 have e3:kidsK (some kBL) (some kBR) none [29] (kvL (de++(is++(ds++fs))))=brK (some kBL) (some kBR) fs:=
  kidsK_sel (l:=fs) (by rw[selK_app,selK_app,selK_app,n1 (by decide),n2 (by decide),n3 (by decide),selK_all hfs (by simp),List.nil_append,List.nil_append,List.nil_append])
 have e4:kidsK (some (nmK wImplements)) none (some kAmp) [28] (kvL (de++(is++(ds++fs))))=brS (nmK wImplements) kAmp is:=
  kidsK_selS (l:=is) (by rw[selK_app,selK_app,selK_app,n1 (by decide),n3 (by decide),n4 (by decide),selK_all his (by simp),List.nil_append,List.nil_append,List.append_nil])
 rw[kvs_eq,hks];simp[bodyK,restK,defK,hk,e1,e2,e3,e4]
theorem parseImplements_ok (E:PEnv) (l:List Tr) (hK:InK [28] l) (hlen:l.length≤400) (u:KV) (r:List KV) (hu:u.1≠20) (hv:u.2≠wImplements):
 POk E fq93 #[.pointer (some ⟨E.p,0,none⟩)] (brS (nmK wImplements) kAmp l++u::r) (u::r) slV fun x G=> ∃bs:List Nat,SlAt x (bs.map ptV) G∧All2 (fun b (k:Tr)=>NamedAt b k.n.name G) bs l:=by
 intro H ps
 refine parseImplementsInterfaces.enter _ H _ ?_
 unfold parseImplementsInterfaces.W
 refine Lst.row0 ps tq107 ptV (fun(b:Nat) (k:Tr) G=>NamedAt b k.n.name G) fun b0 H3 l0=>?_
 by_cases hl:l=[]
 ·subst hl
  have e:brS (nmK wImplements) kAmp []++u::r=u::r:=by simp[brS]
  rw[e] at l0
  refine⟨u.2,l0.ps.value,fkI (fun hh=>?_) (fun _=>?_)⟩
  ·rw[bytes_beq] at hh;simp at hh;exact absurd hh hv
  exact rkI ⟨(some ⟨b0,0,none⟩,0,0),rfl,l0.fin.weak fun G hG=>⟨[],hG⟩⟩
 ·obtain⟨m,hm0,rest,hm⟩: ∃m,m∈l∧ ∃rest,sepK (some kAmp) (kvL l)++u::r=nmK m.n.name::rest:=by
   cases l with
   |nil=>exact absurd rfl hl
   |cons m l=>
    have hkv:=kvs_leafname (m:=m) (.inl (kind_of_in hK m (by simp)))
    cases l with
    |nil=>exact⟨m,by simp,_,by simp[kvL,sepK,hkv];rfl⟩
    |cons m2 l=>exact⟨m,by simp,_,by simp[kvL,sepK,hkv];rfl⟩
  have e:brS (nmK wImplements) kAmp l++u::r=nmK wImplements::(sepK (some kAmp) (kvL l)++u::r):=by simp[brS,hl]
  rw[e] at l0
  refine⟨wImplements,l0.ps.value,fkI (fun _=>?_) (fun hh=>(eq_bs hh).elim)⟩
  rw[hm] at l0
  refine l0.call1 (advance_ok E (nmK wImplements) (nmK m.n.name) rest) () rfl fun H4 l4=>?_
  refine l4.call1 (skip_no E (nmK m.n.name) rest 20 (by simp)) false rfl fun H5 l5=>?_
  rw[←hm] at l5
  exact sep_loop (by unfold plainT;decide) (fun m _ w1 w2=>parseNamed_ok E m.n.name w1 w2) (fun m hm=>kvs_leafname (.inl (kind_of_in hK m hm))) hl hlen hu l5 fun y bs H' c=>⟨y,rfl,c.weak fun G hG=>⟨bs,hG⟩⟩
theorem parse_obj_ok (E:PEnv) (t:Tr) (hk:t.n.kind=27) (hf:Fine t) (u:KV) (r:List KV):
 POk E fq91 #[.pointer (some ⟨E.p,0,none⟩)] (kvs t++u::r) (u::r) (ifP tq235) fun b G=>ItemAt fq216 tq235 27 2 b t G:=by
 intro H ps
 obtain⟨de,is,ds,fs,hks,hde,h1,his,hds,hfs,hfn⟩:=obj_parts hf hk
 have hkf:=kids_fine hf
 have hlen:=hf.few
 rw[hks] at hkf hlen
 simp only[List.length_append] at hlen
 have hff: ∀m∈fs,Fine m:=fun m hm=>hkf m (by simp[hm])
 have hdf: ∀m∈ds,Fine m:=fun m hm=>hkf m (by simp[hm])
 rw[kvs_obj hk hks hde his hds hfs] at ps
 simp only[List.append_assoc,List.cons_append] at ps
 rw[brK_some hfn] at ps
 refine parseObjectTypeDefinition.enter _ H _ ?_
 unfold parseObjectTypeDefinition.W
 obtain⟨w0,w1,hw0⟩:=app_ne (kvF de) (nmK wType) (nmK t.n.name::(brS (nmK wImplements) kAmp is++(kvF ds++(kBL::(fs.flatMap kvs++kBR::u::r)))))
 have ps':=ps
 rw[hw0] at ps'
 obtain⟨st,hst,_⟩:=ps'.start
 refine⟨_,hst,?_⟩
 refine(Cx.start ps).call (p:=opP) (parseDescription_ok E de hde h1 (fun x hx=>hkf x (by simp[hx])) _ _ ⟨by simp,by simp⟩) fun xd H1 _ c1=>?_
 refine c1.call (expectKeyWord_ok E _ _ wType) fun _ H2 _ c2=>?_
 obtain⟨d1,d2,hd12,hdu⟩: ∃d1 d2,kvF ds++(kBL::(fs.flatMap kvs++kBR::u::r))=d1::d2∧d1.1≠20∧d1.2≠wImplements:=by
  have hne:eB≠wImplements:=fun h=>absurd (congrArg ByteArray.size h) (by decide)
  cases ds with
  |nil=>exact⟨kBL,_,rfl,by decide,hne⟩
  |cons d ds=>
   rw[kvF_cons,kvs_dir (kind_of_in hds d (by simp)) (dir_kids (hdf d (by simp)).1 (kind_of_in hds d (by simp)))]
   exact⟨kAt,_,rfl,by decide,hne⟩
 obtain⟨w2,w3,hw2⟩:=app_ne (brS (nmK wImplements) kAmp is) d1 d2
 rw[hd12,hw2] at c2
 refine c2.call (parseName_ok E t.n.name w2 w3) fun nb H3 _ c3=>?_
 rw[←hw2] at c3
 refine c3.call (p:=slP) (parseImplements_ok E is his (by omega) d1 d2 hdu.1 hdu.2) fun xi H4 _ c4=>?_
 rw[←hd12] at c4
 refine c4.call (p:=slP) (parseDirectives_ok E ds hds hdf (by omega) kBL _ (by decide) (by decide)) fun xs H5 _ c5=>?_
 refine braced tq117 tq117 (by unfold plainT;decide) (Q:=fun b t G=>ItemAt fq122 tq117 29 2 b t G) NoT (by omega) hfn (fun m hm u' r' hu'=>parseFieldDefinition_ok E m (kind_of_in hfs m hm) (hff m hm) u' r' hu') (fun m hm=>kvs_field_head m (kind_of_in hfs m hm) (hff m hm)) ⟨by decide,by decide,by decide,by decide⟩ c5.ps (fun R h=>reverseField.enter _ _ _ _ _ R h)
  (K:=fun y H'=>callW PP fq141 #[(.pointer (some ⟨E.p,0,none⟩)),(.int .i64 (st:Int))] H' pBlk fun(x23:Nat) H24=>
    newB H24 (.cells #[(.string (Go.Vx.bs [])),(.pointer (some ⟨x23,0,none⟩)),(.pointer (some ⟨nb,0,none⟩)),(.pointer xd),(.slice xi.1 xi.2.1 xi.2.2),(.slice xs.1 xs.2.1 xs.2.2),(.slice y.1 y.2.1 y.2.2)] tq238) fun b25 H26=>
    callW PP fq148 #[(.pointer (some ⟨b25,0,none⟩))] H26 pBlk fun(x27:Nat) H28=>
    retK (some [(.iface tq235 (.pointer (some ⟨x27,0,none⟩))),.nilIface]) H28 _) fun y bs H6 c6=>?_
 refine(c5.trans c6).call (loc_ok E _ _) fun lb H7 _ c7=>?_
 refine c7.node (NewObjectDefinition_mk _ _ _ _ _ _ _ _ _ _ _ _) fun b H8 _ c8=>?_
 refine rkI ⟨b,rfl,c8.weak fun G hG=>?_⟩
 obtain⟨⟨⟨⟨⟨⟨⟨⟨_,hd⟩,_⟩,hn⟩,⟨bi,hi,hiv⟩⟩,hs⟩,hm,hv⟩,hl⟩,hb⟩:=hG
 exact item_obj hl hn hb hd hi ⟨hiv,fun m hmm=>⟨hkf m (by simp[hmm]),kind_of_in his m hmm⟩⟩ hs (take_list putFieldD.enter (by unfold apartT;decide) (by decide) fields_ent hm hv) hks hk (formed_alias hf.1.self.1 (by omega)) (body_notext hf.1.self.1.2 (by omega)) hf.2.1
theorem take_obj27 (kind:Int) {b:Nat} {t:Tr} {G:Heap} (hf:Fine t) (h:ItemAt fq216 tq235 27 2 b t G):TakeOk kind tq235 b (flat t) G:=by
 intro H tk D ht hD
 refine tpartObjectDefinition.enter tk b kind H _ ?_
 unfold tpartObjectDefinition.W
 refine nbI fun H2 e2 hb2 x2 s2=>?_
 refine⟨fun w=>by kernel_rfl,?_⟩
 have t2:=ht.grow x2
 refine⟨_,lcO hb2 rfl,definitionObjectDefinition.enter tk b H2 _ ?_⟩
 unfold definitionObjectDefinition.W
 refine nbI fun H3 e3 hb3 x3 s3=>?_
 have t3:=t2.grow x3
 refine⟨_,lcO hb3 rfl,systemObjectDefinition.enter tk b H3 _ ?_⟩
 unfold systemObjectDefinition.W
 refine nbI fun H4 e4 hb4 x4 s4=>?_
 have t4:=t3.grow x4
 refine⟨_,lcO hb4 rfl,?_⟩
 refine(take_object h t4 (fine_take hf.2.2 hD)).mono ?_
 rintro v H5 ⟨rfl,k5,Y,hY,t5⟩
 exact⟨(),rfl,rkI ⟨(),rfl,rkI ⟨(),rfl,rkI ⟨rfl,Y,hY,t5⟩⟩⟩⟩
theorem kind_obj:KindOk 27 27 wType:=kind_of 27 27 wType partName_27 (fun h=>absurd (congrArg ByteArray.size h) (by decide)) (by
 intro t hf hk
 obtain⟨de,is,ds,fs,h1,h2,h3,h4,h5,h6,_⟩:=obj_parts hf hk
 refine⟨by rw[kvs_obj hk h1 h2 h4 h5 h6];simp,?_⟩
 intro E u hu H ps
 refine ppart.enter _ _ H _ ?_
 unfold ppart.W
 repeat refine fkI (fun hh=>(neq_bs (by decide) hh).elim) (fun _=>?_)
 refine fkI (fun _=>?_) (fun hh=>(eq_bs hh).elim)
 exact step_one (val:=ifP tq235) (ofA:=fun b=>(tq235,b)) ps ((parse_obj_ok E t hk hf u []).imp fun b G h=>take_obj27 27 hf h))
theorem ext_parts {t:Tr} (hf:Fine t) (hk:t.n.kind=39): ∃o,t.ks=[o]∧o.n.kind=27:=by
 cases hf.1.self.2 with
 |extend ob _ h1 h2 _=>exact⟨ob,h1,h2⟩
 |_=>omega
theorem kvs_ext {t o:Tr} (hk:t.n.kind=39) (hks:t.ks=[o]) (ho:o.n.kind=27):kvs t=nmK wExtend::kvs o:=by
 rw[kvs_eq,hks];simp[bodyK,restK,defK,hk,kvL,kidsK,selK,ho,allK]
theorem parse_ext_ok (E:PEnv) (t:Tr) (hk:t.n.kind=39) (hf:Fine t) (u:KV) (r:List KV):
 POk E fq104 #[.pointer (some ⟨E.p,0,none⟩)] (kvs t++u::r) (u::r) (ifP tq266) fun b G=>ExtendAt b t G:=by
 intro H ps
 obtain⟨o,hks,ho⟩:=ext_parts hf hk
 rw[kvs_ext hk hks ho,List.cons_append] at ps
 refine parseTypeExtensionDefinition.enter _ H _ ?_
 unfold parseTypeExtensionDefinition.W
 obtain⟨st,hst,_⟩:=ps.start
 refine⟨_,hst,?_⟩
 obtain⟨w2,w3,hw2⟩:=app_ne (kvs o) u r
 rw[hw2] at ps
 refine(Cx.start ps).call (expectKeyWord_ok E _ _ wExtend) fun x1 H1 _ c1=>?_
 rw[←hw2] at c1
 refine c1.tok rfl fun H2 _ _ c2=>?_
 refine c2.call (parse_obj_ok E o ho (hf.kid (by rw[hks];simp)) u r) fun ob H3 _ c3=>?_
 refine c3.call (loc_ok E _ _) fun lb H4 _ c4=>?_
 refine c4.node (NewTypeExtensionDefinition_mk _ _) fun b H5 _ c5=>?_
 refine rkI ⟨b,rfl,c5.weak fun G hG=>?_⟩
 obtain⟨⟨⟨_,hO⟩,hl⟩,hb⟩:=hG
 exact⟨lb,ob,_,o,hl,hb,hO,hks⟩
theorem take_ext39 (kind:Int) {b:Nat} {t:Tr} {G:Heap} (hf:Fine t) (hk:t.n.kind=39) (h:ExtendAt b t G):TakeOk kind tq266 b (flat t) G:=by
 intro H tk D ht hD
 obtain⟨lb,ob,k0,o,⟨ls,le,lq,hl⟩,hb,hO,hks⟩:=h
 obtain⟨hn,hx⟩:=body_empty hf.1.self.1.2 (n:=t.n) (by omega)
 have ha:=formed_alias hf.1.self.1 (by omega)
 have hfl:(flat t).length=1+(flat o).length:=by rw[flat_node,one_kid hks];simp;omega
 have hfl4:=hf.2.2
 refine tpartTypeExtensionDefinition.enter tk b kind H _ ?_
 unfold tpartTypeExtensionDefinition.W
 refine nbI fun H2 e2 hb2 x2 s2=>?_
 refine⟨fun w=>by kernel_rfl,?_⟩
 have t2:=ht.grow x2
 refine⟨_,lcO hb2 rfl,definitionTypeExtensionDefinition.enter tk b H2 _ ?_⟩
 unfold definitionTypeExtensionDefinition.W
 refine nbI fun H3 e3 hb3 x3 s3=>?_
 have t3:=t2.grow x3
 refine⟨_,lcO hb3 rfl,systemTypeExtensionDefinition.enter tk b H3 _ ?_⟩
 unfold systemTypeExtensionDefinition.W
 refine caps t3 b tq266 fun b1 b3 H5 x5 t5 h1 h3=>?_
 have bx:=t5.ext.get _ _ hb (by simp)
 refine⟨_,lcO h1 rfl,_,lcO h3 rfl,_,lcO bx rfl,?_⟩
 refine(putSys8.enter tk lb ⟨39,eB,eB,eB,0,0⟩ b1 b3 H5 _ (putG_ok fq194 t5 (by omega) lb hl ⟨39,eB,eB,eB,0,0⟩ b1 b3 (P:=fun W=>Sames W (flatL t.ks)) fun H7 k7 t7=>?_)).mono ?_
 ·have q1:=k7.get _ _ _ _ h1 (by decide) (by decide) (by decide)
  have q3:=k7.get _ _ _ _ h3 (by decide) (by decide) (by decide)
  have bx7:=t7.ext.get _ _ hb (by simp)
  refine inSys8.enter b1 b3 H7 _ ?_
  unfold inSys8.W
  refine⟨_,lcO q1 rfl,_,lcO q3 rfl,_,lcO bx7 rfl,?_⟩
  refine(take_object hO t7 (by simp only[List.length_append,List.length_cons,List.length_nil];omega)).mono ?_
  intro v' H8 hT
  obtain rfl:=hT.unit
  rw[one_kid hks]
  exact⟨(),rfl,rkI (hT.within (by omega))⟩
 ·rintro _ H8 ⟨rfl,k8,W,hW,t8⟩
  refine⟨(),rfl,rkI ⟨(),rfl,rkI ⟨(),rfl,rkI ⟨rfl,_,same_node hf.2.1 hW ⟨39,eB,eB,eB,0,0⟩ hk.symm hn.symm ha.symm hx.symm (by simp),t8⟩⟩⟩⟩
theorem kind_ext:KindOk 39 39 wExtend:=kind_of 39 39 wExtend partName_39 (fun h=>absurd (congrArg ByteArray.size h) (by decide)) (by
 intro t hf hk
 obtain⟨o,h1,h2⟩:=ext_parts hf hk
 refine⟨by rw[kvs_ext hk h1 h2];simp,?_⟩
 intro E u hu H ps
 refine ppart.enter _ _ H _ ?_
 unfold ppart.W
 repeat refine fkI (fun hh=>(neq_bs (by decide) hh).elim) (fun _=>?_)
 refine fkI (fun _=>?_) (fun hh=>(eq_bs hh).elim)
 exact step_one (val:=ifP tq266) (ofA:=fun b=>(tq266,b)) ps ((parse_ext_ok E t hk hf u []).imp fun b G h=>take_ext39 39 hf hk h))
end Go.Vx
