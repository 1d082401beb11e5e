/- A part of the proof of what the last text of this claim says: QR4. Conditions: none. -/
import Derived.Test.YtkopcepfeeemhaaGreatDoorYCAm
import Derived.Test.YtkopcepfeeemhaaGreatDoorYCAr
import Derived.Test.YtkopcepfeeemhaaGreatDoorYCAs
set_option maxRecDepth 10000
namespace Go.Vx
open Go Go.Proofs
theorem Fresh.appendN {H0 H:Heap} {e:TypeId} {size bytes:Nat} {a:Option Addr} {n c:Nat} {xs:List Value} (h:Fresh H0 H e size a n c xs) {ax:Option Addr} {m:Nat} {news:List Value}
 (hN:NewsS H size ax m news) (h1: ∀u∈news,u.oneCell'=true) (hn:n+m<4294967296) (hby:bytes<1000) {K:Option Addr→Nat→Heap→Prop}
 (hk: ∀a' c' H',Fresh H0 H' e size a' (n+m) c' (xs++news)→Grow H H' (rowOf a)→(rowOf a'=rowOf a∨rowOf a'=some H.size)→K a' c' H'):
 appK H e size bytes a n c ax m K:=by
 refine .inr ⟨xs,_,h.own,hN,h1,by simp only[maxLen];omega,?_,?_⟩
 ·have:(n+m)*bytes≤4294967296*1000:=Nat.mul_le_mul (by omega) (by omega)
  omega
 ·intro a' c' H' own' grow hnil hrow
  refine hk a' c' H' ⟨?_,own',?_⟩ grow hrow
  ·refine⟨Nat.le_trans h.ext.size grow.size,fun k o hk hn=>?_⟩
   refine grow.ext.get _ _ (h.ext.get _ _ hk hn) ?_
   intro hm
   rw[Option.mem_toList] at hm
   have:=h.row _ hm
   have:=lt_of_get hk
   omega
  ·intro r hr
   rcases hrow with h1|h1
   ·exact h.row r (by rw[←h1];exact hr)
   ·have:r=H.size:=by
     have:=hr.symm.trans h1;simpa using this
    have:=h.ext.size
    omega
theorem NewsS.of_slc {H:Heap} {a:Option Addr} {n:Nat} {vs:List Value} (h:SlcAt H a n vs):NewsS H 1 a n vs:=by
 refine⟨by have:=h.1;omega,fun ha=>?_,fun ad had j u hj=>?_⟩
 ·rcases h.2 with h0|⟨g,o,c,e,fr,hg,_⟩
  ·exact h0
  ·rw[ha] at hg;cases hg
 ·rcases h.2 with h0|⟨g,o,c,e,fr,hg,hc,hr⟩
  ·have hl:=h.1
   rw[h0] at hl
   rw[List.eq_nil_of_length_eq_zero hl.symm] at hj
   simp at hj
  ·rw[had] at hg
   cases hg
   rw[addr_add]
   have:=hr j u hj
   simpa [cellAt,hc] using this
theorem NewsS.of_nodes {H:Heap} {b o:Nat} {ds:List Nd} (h:NodesAt H b o ds):NewsS H 6 (some ⟨b,o,none⟩) ds.length (ndCells ds):=by
 obtain⟨c,e,fr,hc,hs,hr⟩:=h
 refine⟨ndCells_len ds,(fun ha=>by cases ha),fun ad had j u hj=>?_⟩
 cases had
 have hlt:=(List.getElem?_eq_some_iff.1 hj).1
 rw[ndCells_len] at hlt
 have hd:j/6<ds.length:=by omega
 have h1:=ndCells_get ds (j/6) _ (List.getElem?_eq_getElem hd) (j% 6) (Nat.mod_lt _ (by decide))
 have h2:=hr (j/6) _ (List.getElem?_eq_getElem hd) (j% 6) (Nat.mod_lt _ (by decide))
 have e1:j/6*6+j% 6=j:=by omega
 rw[e1,hj] at h1
 rw[Nat.add_assoc,e1,←h1] at h2
 rw[addr_add]
 simpa [cellAt,hc] using h2
theorem ndCells_one: ∀(ds:List Nd),∀u∈ndCells ds,u.oneCell'=true
 |[],u,h=>by simp[ndCells] at h
 |n::r,u,h=>by
  simp only[ndCells,List.mem_append] at h
  rcases h with h|h
  ·simp only[Nd.val,List.mem_cons,List.not_mem_nil,or_false] at h
   rcases h with rfl|rfl|rfl|rfl|rfl|rfl<;>rfl
  ·exact ndCells_one r u h
theorem KidOf_some (b o n c:Nat) (ds:List Nd) (H:Heap) (h:Doc H b o n ds) (i:Nat) (t:Tr) (ht:At ds i (flat t)) (hw:Ws t) (kd:Int):
 Fn PP fq19 #[.slice (some ⟨b,o,none⟩) n c,.int .i64 i,.int .i64 kd] H fun v H'=> ∃j:Int,v= .int .i64 j∧Ext [] H H'∧(0≤j→(t.ks.filter fun x=>x.n.kind==kd)≠ []):=by
 refine KidOf.enter b o n c i kd H _ ?_
 unfold KidOf.W
 refine(KidsOf_ok b o n c ds H h i t ht hw kd).mono ?_
 rintro _ H2 ⟨a,m,k,ps,rfl,hf,hp⟩
 have hS:=SlcAt.of_own hf.own
 have hm:=hS.1
 simp only[intL,List.length_map] at hm
 have hlen:=hp.length
 refine⟨(a,m,k),rfl,fkI (fun h0=>rkI ⟨-1,rfl,hf.ext,fun hh=>by omega⟩) (fun h0=>?_)⟩
 cases ps with
 |nil=>simp at h0;simp at hm;omega
 |cons p ps=>
  have hL:=hS.load (i:=0) (v:= .int .i64 (p:Int)) rfl
  refine⟨hL.1,_,hL.2,rkI ⟨p,rfl,hf.ext,fun _ hn=>?_⟩⟩
  rw[hn] at hlen
  simp at hlen
theorem rest_right (S:Src) (hS:S.text=bs [125]):Rest S (brK (some kPL) (some kPR) []++[(14,eB)]) 0:=by
 have hb:TokS (bs [125]) (14,eB):=tokS_sign (by decide)
 have e2:bs [125]=bs []++(bs [125]++bs []):=by simp only[bs_app];rfl
 have hsf:Sfx S.text 0 (bs []++(bs [125]++bs [])):=by rw[←e2,←hS];exact Sfx.zero _
 have hw:=gap_ws (gap:=bs []) (stop_tok hb) (by simp[gapL]) hsf
 have hz:S.text.size=1:=by rw[hS];rfl
 refine⟨0,1,⟨by omega,by omega,by omega,fun _=>rfl,fun H hH=>?_⟩,?_⟩
 ·exact hb.run S 0 _ _ hw hsf.next (fun _=> .inl rfl) (fun _=> .inl rfl) H hH
 ·show 1=S.text.size
  omega
theorem ReadArgumentDefs_ok (text:ByteArray) (hsm:text.size<268435456) (l:List Tr) (hK:InK [30] l) (hf: ∀t∈l,Fine t) (hlen:l.length≤400) (hfl:(flatL l).length≤800)
 (hr: ∀S:Src,S.text=text→Rest S (brK (some kPL) (some kPR) l++[(14,eB)]) 0) (H:Heap) (hT:TabsAt H.size H):
 Fn PP fq17 #[.string text] H fun v H'=> ∃(x:Sl) (Y:List Nd),v= .tuple #[.slice x.1 x.2.1 x.2.2,.int .i64 ((text.size:Int) -1),.bool true]∧Ext [] H H'∧
  Sames Y (flatL l)∧x.2.1=Y.length∧(Y=[]∨ ∃g:Nat,x.1=some ⟨g,0,none⟩∧NodesAt H' g 0 Y):=by
 refine ReadArgumentDefs.enter text H _ ?_
 unfold ReadArgumentDefs.W
 refine(readParts_ok sArgDefs 30 text hsm _ (14,eB) l (.inl rfl) hr (step_args l hK hf hlen) hfl H hT).mono ?_
 rintro _ H1 ⟨x,nx,Y,rfl,x1,h14,hY,hn,hg⟩
 have:=h14 rfl
 refine⟨(x,(nx:Int),true),rfl,rkI ⟨x,Y,?_,x1,hY,hn,hg⟩⟩
 have e:(nx:Int)=(text.size:Int) -1:=by omega
 simp only[retV,e]
theorem flatL_filter (p:Tr→Bool) (l:List Tr):(flatL (l.filter p)).length≤(flatL l).length:=by
 induction l with
 |nil=>exact Nat.le_refl _
 |cons x r ih=>
  rw[List.filter_cons]
  split
  ·simp only[flatL,List.length_append];omega
  ·simp only[flatL,List.length_append];omega
theorem toksL_ok: ∀(l:List Tr),(∀t∈l,Good t∧SmallT t)→Toks (l.flatMap toks) (l.flatMap kvs)∧(∀s∈l.flatMap toks,s.size≤30000)∧(l.flatMap toks).length≤8*(flatL l).length
 |[],_=>⟨.nil,by simp,by simp⟩
 |t::r,h=>by
  obtain⟨h1,h2,h3⟩:=toksL_ok r fun x hx=>h x (by simp[hx])
  obtain⟨hg,hs⟩:=h t (by simp)
  obtain⟨k1,k2⟩:=(toks_kvs t hg hs).toks
  have k3:=kvs_len t hg
  rw[←k1.len] at k3
  rw[List.flatMap_cons,List.flatMap_cons]
  refine⟨k1.append h1,fun s hs=>?_,?_⟩
  ·rcases List.mem_append.1 hs with hs|hs
   ·exact k2 s hs
   ·exact h2 s hs
  ·simp only[flatL,List.length_append];omega
theorem flatMap_take_succ {α β:Type} (f:α→List β) (l:List α) (k:Nat) (h:k<l.length):(l.take (k+1)).flatMap f=(l.take k).flatMap f++f l[k]:=by
 rw[List.take_succ_eq_append_getElem h,List.flatMap_append]
 simp
theorem flatMap_take_le {α β:Type} (f:α→List β) (l:List α) (k:Nat):((l.take k).flatMap f).length≤(l.flatMap f).length:=by
 conv=>rhs;rw[←List.take_append_drop k l,List.flatMap_append,List.length_append]
 omega
structure Gath (H0 H:Heap) (z:Sl×Sl×Int×Unit) (l:List Tr) (k:Nat):Prop where
 at_:z.2.2.1=k
 le:k≤l.length
 txt:Fresh H0 H tq9 1 z.1.1 z.1.2.1 z.1.2.2 ((bs [40]::(l.take k).flatMap toks).map .string)
 nds:Fresh H0 H tq41 6 z.2.1.1 z.2.1.2.1 z.2.1.2.2 (ndCells (flatL (l.take k)))
theorem oneCell_strs (l:List ByteArray): ∀u∈l.map Value.string,u.oneCell'=true:=by
 intro u hu
 obtain⟨s,_,rfl⟩:=List.mem_map.1 hu
 rfl
theorem args_law (b o n c:Nat) (ds:List Nd) (H:Heap) (h:NodesAt H b o ds) (hn:n=ds.length) (hc:n≤c) (which:Int) (hw:0≤which∧which≤255)
 (byA:Option Addr) (byN byC:Nat) (ys:List Int) (hy:SlcAt H byA byN (ys.map (.int .u8 ·))) (hyr: ∀y∈ys,0≤y∧y≤255) (hTb:TabsAt H.size H):
 Fn PP fq3 #[.slice (some ⟨b,o,none⟩) n c,.int .u8 which,.slice byA byN byC] H fun v H'=>v= .bool true∧Ext [] H H':=by
 refine FnPartArguments.enter b o n c which byA byN byC H _ ?_
 unfold FnPartArguments.W
 refine⟨fun y H'=>Ext [] H H'∧(y.1=false→Small ds∧n<2147483648),?_,?_⟩
 ·refine(zzFits3_ok b o n c ds H h hn).mono ?_
  rintro _ H1 ⟨r,rfl,x1,hr⟩
  refine⟨r,rfl,fkI (fun _=>⟨x1,by simp⟩) (fun hr1=>⟨x1,fun _=>hr (by simpa using hr1)⟩)⟩
 rintro⟨y,_⟩ H1 ⟨x1,hs⟩
 dsimp only at hs⊢
 refine fkI (fun _=>rkI ⟨rfl,x1⟩) (fun hy1=>?_)
 obtain⟨hs1,hlt⟩:=hs hy1
 have h1:Doc H1 b o n ds:=⟨h.ext x1 (by simp),hn,hlt⟩
 refine⟨fun y H'=>Ext [] H H'∧(y.1=false→ ∃t,DocP ds t∧t.n.kind=1),?_,?_⟩
 ·refine(AnyDocument_ok b o n c ds H1 h1 hs1).mono ?_
  rintro _ H2 ⟨r,rfl,x2,hr⟩
  refine⟨r,rfl,fkI (fun _=>⟨x1.trans x2,by simp⟩) (fun hr1=>⟨x1.trans x2,fun _=>hr (by simpa using hr1)⟩)⟩
 rintro⟨y,_⟩ H2 ⟨x2,hdoc⟩
 dsimp only at hdoc⊢
 refine fkI (fun _=>rkI ⟨rfl,x2⟩) (fun hy2=>?_)
 obtain⟨t,ht,_⟩:=hdoc hy2
 have h2:Doc H2 b o n ds:=⟨h.ext x2 (by simp),hn,hlt⟩
 refine(ReadArgumentDefs_ok (bs [125]) (by decide) [] (fun x hx=>by simp at hx) (by simp) (by simp) (by simp[flatL]) rest_right H2 (hTb.up x2)).mono ?_
 rintro _ H3 ⟨x,Y,rfl,x3,hY,hxn,_⟩
 have hY0:Y=[]:=List.eq_nil_of_length_eq_zero (by have:=hY.len;simpa [flatL] using this)
 rw[hY0] at hxn
 refine⟨(x,_,true),rfl,?_⟩
 dsimp only
 have y3:=x2.trans x3
 refine⟨(false,()),?_,?_⟩
 ·refine fkI (fun hh=>absurd hh (by decide)) (fun _=>?_)
  refine fkI (fun hh=>?_) (fun _=>?_)
  ·rw[hxn] at hh;exact absurd hh (by decide)
  ·exact⟨by rfl,rfl⟩
 dsimp only
 refine fkI (fun hh=>absurd hh (by decide)) (fun _=>?_)
 have h3:Doc H3 b o n ds:=⟨h.ext y3 (by simp),hn,hlt⟩
 have sel: ∀(i:Nat) (m:Nd),ds[i]?=some m→ ∃u,u∈preT t∧At ds i (flat u):=by
  intro i m hm
  cases hq:(preT t)[i]? with
  |none=>
   rw[ht.flat,flat_pre,List.getElem?_map,hq] at hm
   cases hm
  |some u=>exact⟨u,List.mem_of_getElem? hq,by rw[ht.flat];exact preT_at t i u hq⟩
 refine(beneath9_ok b o n c ds H3 h3 29 which hw).mono ?_
 rintro _ H4 ⟨i,r,rfl,x4,hr⟩
 refine⟨((i:Int),r),rfl,?_⟩
 dsimp only
 have y4:=y3.trans x4
 refine⟨fun y H'=>Ext [] H H'∧(y.2.1=true→ ∃(j:Nat) (u:Tr),y.1=j∧u∈preT t∧At ds j (flat u)),?_,?_⟩
 ·refine fkI (fun _=>?_) (fun hr1=>⟨y4,fun _=>?_⟩)
  ·refine(beneath9_ok b o n c ds H4 ⟨h.ext y4 (by simp),hn,hlt⟩ 37 which hw).mono ?_
   rintro _ H5 ⟨i2,r2,rfl,x5,hr2⟩
   refine⟨((i2:Int),r2),rfl,y4.trans x5,fun hh=>?_⟩
   obtain⟨m,hm,_⟩:=hr2 hh
   obtain⟨u,hu,hat⟩:=sel i2 m hm
   exact⟨i2,u,rfl,hu,hat⟩
  ·obtain⟨m,hm,_⟩:=hr (by simpa using hr1)
   obtain⟨u,hu,hat⟩:=sel i m hm
   exact⟨i,u,rfl,hu,hat⟩
 rintro⟨y1,y2,_⟩ H5 ⟨y5,hsel⟩
 dsimp only at hsel⊢
 have h5:Doc H5 b o n ds:=⟨h.ext y5 (by simp),hn,hlt⟩
 refine⟨fun y H'=>Ext [] H H'∧(y.1=false→ ∃(j:Nat) (u:Tr),y1=j∧u∈preT t∧At ds j (flat u)∧(u.ks.filter fun x=>x.n.kind==30)≠ []),?_,?_⟩
 ·refine fkI (fun _=>⟨y5,by simp⟩) (fun hh=>?_)
  obtain⟨j,u,rfl,hu,hat⟩:=hsel (by simpa using hh)
  refine(KidOf_some b o n c ds H5 h5 j u hat (preT_ws t ht.ws u hu) 30).mono ?_
  rintro _ H6 ⟨q,rfl,x6,hq⟩
  exact⟨q,rfl,y5.trans x6,fun hh2=>⟨j,u,rfl,hu,hat,hq (by simpa using hh2)⟩⟩
 rintro⟨y6,_⟩ H6 ⟨x6,hsel6⟩
 dsimp only at hsel6⊢
 refine fkI (fun _=>rkI ⟨rfl,x6⟩) (fun hy6=>?_)
 obtain⟨i,u,rfl,hmem,hat,hne⟩:=hsel6 hy6
 have h6:Doc H6 b o n ds:=⟨h.ext x6 (by simp),hn,hlt⟩
 have hws:Ws u:=preT_ws t ht.ws u hmem
 have hgood:Good u:=fun q hq=>ht.good q (preT_trans hmem q hq)
 have hsub: ∀q∈preT u,q∈preT t:=preT_trans hmem
 have hlen:(flat u).length≤400:=by
  have:=hat.le' (flat_ne _)
  have:=ht.len
  omega
 have hfine:Fine u:=⟨hgood,hws,hlen⟩
 have hsmall:SmallT u:=fun q hq=>ht.small q (hsub q hq)
 refine(KidsOf_ok b o n c ds H6 h6 i u hat hws 30).mono ?_
 rintro _ H7 ⟨ka,km,kc,ps,rfl,hf,hp⟩
 refine⟨(ka,km,kc),rfl,?_⟩
 dsimp only
 have hl30:InK [30] (u.ks.filter fun x=>x.n.kind==30):=fun x hx=>by
  have:=(List.mem_filter.1 hx).2
  simpa using this
 have hlf: ∀x∈(u.ks.filter fun x=>x.n.kind==30),Fine x∧SmallT x:=fun x hx=>by
  have hk:=(List.mem_filter.1 hx).1
  exact⟨hfine.kid hk,hsmall.kid hk⟩
 have hll:(u.ks.filter fun x=>x.n.kind==30).length≤400:=by
  have:=List.length_filter_le (fun x:Tr=>x.n.kind==30) u.ks
  have:=hfine.few
  omega
 have hfl:(flatL (u.ks.filter fun x=>x.n.kind==30)).length≤400:=by
  have h1:=flatL_filter (fun x:Tr=>x.n.kind==30) u.ks
  have h2:(flat u).length=1+(flatL u.ks).length:=by cases u;simp[flat,Tr.ks];omega
  omega
 generalize (u.ks.filter fun x=>x.n.kind==30)=l at hne hp hl30 hlf hll hfl
 obtain⟨hTk,hsz,htl⟩:=toksL_ok l fun x hx=>⟨(hlf x hx).1.1,(hlf x hx).2⟩
 have x7:=x6.trans hf.ext
 have hS:=SlcAt.of_own hf.own
 have hkm:=hS.1
 simp only[intL,List.length_map] at hkm
 have hpl:=hp.length
 refine nbI fun H8 e8 hb8 x8 s8=>?_
 refine⟨fun z H'=> ∃k:Nat,Gath H7 H' z l k,fun z _=>l.length -z.2.2.1.toNat,⟨0,rfl,Nat.zero_le _,⟨x8,⟨rfl,.inr ⟨H7.size,_,rfl,hb8,Nat.le_refl _,(show 1≤maxLen by decide),rfl,rfl⟩⟩,fun r hr=>by cases hr;exact Nat.le_refl _⟩,(Fresh.nil H7 tq41 6).grow x8⟩,?_⟩
 rintro⟨⟨la,ln,lc⟩,⟨wa,wn,wc⟩,_,_⟩ H9 ⟨k,g⟩
 obtain⟨hk,hkl,F1,F2⟩:=g
 dsimp only at hk F1 F2⊢
 subst hk
 have hln:=F1.own.1
 simp only[List.length_map,List.length_cons,Nat.mul_one] at hln
 have hwn:=F2.own.1
 rw[ndCells_len] at hwn
 have b1:=flatMap_take_le toks l k
 have b2:=flatL_take_le l k
 have y9:=x7.trans F1.ext
 have h9:Doc H9 b o n ds:=⟨h.ext y9 (by simp),hn,hlt⟩
 refine fkI (fun hlt9=>?_) (fun hge=>?_)
 ·have hk':k<l.length:=by simp at hlt9;omega
  obtain⟨p,hpk,hatk,hwsk⟩:=hp.get k hk'
  have hi:(intL ps)[k]?=some (.int .i64 (p:Int)):=by simp[intL,hpk]
  have hL:=(hS.ext F1.ext (by simp)).load hi
  refine⟨hL.1,(p:Int),hL.2,?_⟩
  have hmk:l[k]∈l:=List.getElem_mem hk'
  obtain⟨hfk,hsk⟩:=hlf _ hmk
  have hnode:NodeOk bodyM l[k]:=node_all l[k] hfk.1 fun q hq=>by have:=hsk q hq;simp only[ndBytes] at this;omega
  have hkt:=(toks_kvs l[k] hfk.1 hsk).toks.1.len
  have hkv:=kvs_len l[k] hfk.1
  have hfk4:=hfk.2.2
  refine(TokenTexts_ok b o n c ds H9 h9 p l[k] hatk hwsk hnode (by omega)).mono ?_
  rintro _ H10 ⟨a3,m3,k3,rfl,x10,o3⟩
  refine⟨(a3,m3,k3),rfl,?_⟩
  dsimp only
  have hm3:=o3.1
  simp only[List.length_map,Nat.mul_one] at hm3
  have F1a:=F1.grow x10
  have F2a:=F2.grow x10
  refine F1a.appendN (NewsS.of_slc (SlcAt.of_own o3)) (oneCell_strs _) (by omega) (by decide) fun a4 c4 H11 F1b g11 r11=>?_
  have F2b:Fresh H7 H11 tq41 6 wa wn wc (ndCells (flatL (l.take k))):=⟨F1b.ext,F2a.own.ext g11.ext fun r hr hm=>by
   rw[Option.mem_toList] at hm
   obtain⟨cur,_,hg,_⟩:=F1a.own.row hm
   exact F2a.own.ne hg (by decide) hr rfl,F2a.row⟩
  have hL2:=(hS.ext F1b.ext (by simp)).load hi
  refine⟨hL2.1,(p:Int),hL2.2,?_⟩
  have y11:=x7.trans F1b.ext
  refine(Sub_ok b o n c ds H11 ⟨h.ext y11 (by simp),hn,hlt⟩ p l[k] hatk hwsk hc).mono ?_
  rintro _ _ ⟨rfl,o6,c6,rfl,hN6⟩
  refine⟨(some ⟨b,o6,none⟩,(flat l[k]).length,c6),rfl,?_⟩
  dsimp only
  refine F2b.appendN (NewsS.of_nodes hN6) (ndCells_one _) (by omega) (by decide) fun a7 c7 H12 F2c g12 r12=>?_
  have F1c:Fresh H7 H12 tq9 1 a4 (ln+m3) c4 _:=⟨F2c.ext,F1b.own.ext g12.ext fun r hr hm=>by
   rw[Option.mem_toList] at hm
   obtain⟨cur,_,hg,_⟩:=F2b.own.row hm
   exact F1b.own.ne hg (by decide) hr rfl,F1b.row⟩
  rw[wrap1 (k:=k) (by omega)]
  refine⟨⟨k+1,rfl,hk',?_,?_⟩,by omega⟩
  ·rw[flatMap_take_succ toks l k hk',←List.cons_append,List.map_append]
   exact F1c
  ·have e1:flatL (l.take (k+1))=flatL (l.take k)++flat l[k]:=by
    rw[flatL_take_succ l k _ (List.getElem?_eq_getElem hk')]
   rw[e1,ndCells_append]
   exact F2c
 ·obtain rfl:k=l.length:=by simp at hge;omega
  rw[List.take_length] at F1 F2 hln hwn
  refine nbI fun H10 e10 hb10 x10 s10=>?_
  have F1a:=F1.grow x10
  have F2a:=F2.grow x10
  refine F1a.append hb10 rfl (by simp[Value.oneCell']) (by omega) (by decide) fun a4 c4 H11 F1b g11 r11=>?_
  have F2b:Fresh H7 H11 tq41 6 wa wn wc (ndCells (flatL l)):=⟨F1b.ext,F2a.own.ext g11.ext fun r hr hm=>by
   rw[Option.mem_toList] at hm
   obtain⟨cur,_,hg,_⟩:=F1a.own.row hm
   exact F2a.own.ne hg (by decide) hr rfl,F2a.row⟩
  have hss:((bs [40]::l.flatMap toks).map Value.string)++[Value.string (bs [41])]=(bs [40]::(l.flatMap toks++[bs [41]])).map .string:=by simp
  have o4:OwnS H11 tq9 1 a4 (ln+1) c4 ((bs [40]::(l.flatMap toks++[bs [41]])).map .string):=by
   rw[←hss];exact F1b.own
  rcases o4.2 with⟨_,h0,_⟩|⟨g4,cur,ha4,_⟩
  ·omega
  subst ha4
  have y11:=x7.trans F1b.ext
  have hT2:Toks (bs [40]::(l.flatMap toks++[bs [41]])) (brK (some kPL) (some kPR) l):=by
   have e:brK (some kPL) (some kPR) l=kPL::(l.flatMap kvs++[kPR]):=by
    have:=brK_some (b:=kPL) (e:=kPR) hne kPR []
    unfold brK at this⊢
    rw[if_neg hne]
    simp[optK,kvF]
   rw[e]
   exact .cons (tokS_sign (by decide)) (hTk.append (.cons (tokS_sign (by decide)) .nil))
  have hsz2: ∀s∈bs [40]::(l.flatMap toks++[bs [41]]),s.size≤30000:=by
   intro s hs
   simp only[List.mem_cons,List.mem_append,List.not_mem_nil,or_false] at hs
   rcases hs with rfl|hs|rfl
   ·decide
   ·exact hsz s hs
   ·decide
  have hlen2:(bs [40]::(l.flatMap toks++[bs [41]])).length≤4000:=by simp only[List.length_cons,List.length_append,List.length_nil];omega
  refine(Gaps_ok g4 (ln+1) c4 byA byN byC _ ys H11 (StrsAt.of_own o4) (hy.ext y11 (by simp)) hyr (fun s hsm=>⟨hT2.pos s hsm,by have:=hsz2 s hsm;omega⟩) (by omega)).mono ?_
  rintro _ H12 ⟨body,rfl,x12,hsp,_⟩
  refine⟨body,rfl,?_⟩
  have e2:(bs [10,125]).size=2:=rfl
  have hbs:=hsp.size 30000 hsz2
  have hbs2:body.size≤4000*30005:=Nat.le_trans hbs (Nat.mul_le_mul_right _ hlen2)
  have htsz:(body++bs [10,125]).size=body.size+2:=by rw[ByteArray.size_append,e2]
  refine⟨by omega,?_⟩
  have hrest: ∀S:Src,S.text=body++bs [10,125]→Rest S (brK (some kPL) (some kPR) l++[(14,eB)]) 0:=by
   intro S hS
   exact rest_of S (by rw[hS];omega) (bs [10,125]) [(14,eB)] tail_brace _ _ hT2 none body hsp 0 (fun h0=>by cases h0) (by rw[hS];exact Sfx.zero _)
  have y12:=y11.trans x12
  refine(ReadArgumentDefs_ok _ (by omega) l hl30 (fun x hx=>(hlf x hx).1) hll (by omega) hrest H12 (hTb.up y12)).mono ?_
  rintro _ H13 ⟨x,Y,rfl,x13,hY,hxn,hg⟩
  refine⟨(x,_,true),rfl,?_⟩
  dsimp only
  have y13:=y12.trans x13
  have hYl:=hY.len
  have hlpos:0<(flatL l).length:=by
   cases l with
   |nil=>exact absurd rfl hne
   |cons a r=>simp only[flatL,List.length_append];have:=flat_pos a;omega
  refine⟨fun y H'=>y.1=true∧Ext [] H H',?_,?_⟩
  ·refine fkI (fun _=>?_) (fun hh=>absurd hh (by decide))
   have hwr:IntKind.i64.wrap (((body++bs [10,125]).size:Nat) -1:Int)=(((body++bs [10,125]).size:Nat):Int) -1:=i64w (by omega)
   rw[hwr]
   refine fkI (fun _=>?_) (fun hh=>by simp at hh)
   rcases hg with h0|⟨g13,hxg,hN13⟩
   ·rw[h0] at hYl;simp at hYl;omega
   rcases F2b.own.2 with⟨_,h0,_⟩|⟨g2,cur2,hwa,_⟩
   ·omega
   subst hwa
   rw[hxg]
   have hN2:NodesAt H13 g2 0 (flatL l):=(NodesAt.own F2b.own).ext (x12.trans x13) (by simp)
   refine(SameDocument_ok g13 0 x.2.1 x.2.2 g2 0 wn wc Y (flatL l) H13 hN13 hN2 hxn (by omega) (by omega) hYl hY.get).mono ?_
   rintro _ H14 ⟨rfl,x14⟩
   exact⟨true,rfl,rfl,y13.trans x14⟩
  ·rintro⟨y,_⟩ H14 ⟨hy14,x14⟩
   dsimp only at hy14⊢
   subst hy14
   exact rkI ⟨rfl,x14⟩
theorem args_lawN (a:Option Addr) (c:Nat) (which:Int) (byA:Option Addr) (byN byC:Nat) (H:Heap):
 Fn PP fq3 #[.slice a 0 c,.int .u8 which,.slice byA byN byC] H fun v H'=>v= .bool true∧Ext [] H H':=by
 refine FnPartArgumentsN.enter a 0 c which byA byN byC H _ ?_
 unfold FnPartArgumentsN.W
 refine⟨fun _ H'=>Ext [] H H',?_,?_⟩
 ·refine(zzFits3N_ok a c H).mono ?_
  rintro _ _ ⟨rfl,rfl⟩
  exact⟨true,rfl,fkI (fun _=>Ext.refl _ _) (fun _=>Ext.refl _ _)⟩
 rintro⟨y,_⟩ H1 x1
 dsimp only
 refine fkI (fun _=>rkI ⟨rfl,x1⟩) (fun _=>?_)
 refine⟨fun y H'=>y.1=true∧Ext [] H H',?_,?_⟩
 ·refine(AnyDocumentN_ok a c H1).mono ?_
  rintro _ _ ⟨rfl,rfl⟩
  exact⟨false,rfl,fkI (fun _=>⟨rfl,x1⟩) (fun hh=>absurd hh (by decide))⟩
 rintro⟨y,_⟩ H2 ⟨hy,x2⟩
 dsimp only at hy⊢
 subst hy
 exact fkI (fun _=>rkI ⟨rfl,x2⟩) (fun hh=>absurd hh (by decide))
end Go.Vx
