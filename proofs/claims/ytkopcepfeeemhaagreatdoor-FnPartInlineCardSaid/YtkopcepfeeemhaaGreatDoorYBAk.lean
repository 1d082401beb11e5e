/- A part of the proof of what the last text of this claim says: QS1. Conditions: none. -/
import Derived.Test.YtkopcepfeeemhaaGreatDoorZAi
import Derived.Test.YtkopcepfeeemhaaGreatDoorYBAj
set_option maxRecDepth 10000
namespace Go.Vx
open Go Go.Proofs
theorem Spaced.size {p:Option ByteArray} {l:List ByteArray} {t:ByteArray} (h:Spaced p l t) (M:Nat) (hM: ∀s∈l,s.size≤M):t.size≤l.length*(M+5):=by
 induction h with
 |nil=>exact Nat.zero_le _
 |cons p l gap rest r hg _ ih=>
  have h1:=ih fun s hs=>hM s (List.mem_cons_of_mem _ hs)
  have h2:=hM l (by simp)
  have h3:gap.size≤5:=by
   have:=hg.1
   simp only[gapL,List.mem_cons,List.not_mem_nil,or_false] at this
   rcases this with rfl|rfl|rfl|rfl|rfl|rfl|rfl|rfl|rfl|rfl|rfl<;>decide
  rw[ByteArray.size_append,ByteArray.size_append,List.length_cons,Nat.add_mul]
  omega
theorem Toks.len {ss:List ByteArray} {ts:List KV} (h:Toks ss ts):ss.length=ts.length:=by
 induction h with
 |nil=>rfl
 |cons _ _ ih=>simp[ih]
theorem Toks.pos {ss:List ByteArray} {ts:List KV} (h:Toks ss ts): ∀s∈ss,0<s.size:=by
 induction h with
 |nil=>intro s hs;simp at hs
 |cons h _ ih=>
  intro s hs
  rcases List.mem_cons.1 hs with rfl|hs
  ·exact h.pos
  ·exact ih s hs
mutual
theorem preT_trans: ∀ {t u:Tr},u∈preT t→ ∀q∈preT u,q∈preT t
 | .node n ks,u,h,q,hq=>by
  simp only[preT,List.mem_cons] at h⊢
  rcases h with rfl|h
  ·simpa only[preT,List.mem_cons] using hq
  ·exact .inr (preL_trans h q hq)
theorem preL_trans: ∀ {l:List Tr} {u:Tr},u∈preL l→ ∀q∈preT u,q∈preL l
 |[],u,h,q,hq=>by simp[preL] at h
 |t::r,u,h,q,hq=>by
  simp only[preL,List.mem_append] at h⊢
  rcases h with h|h
  ·exact .inl (preT_trans h q hq)
  ·exact .inr (preL_trans h q hq)
end
structure KindOk (kind step:Int) (nm:ByteArray):Prop where
 name: ∀H,Fn PP fq33 #[.int .i64 step] H fun v H'=>v= .string nm∧H=H'
 ne:nm≠eB
 ok: ∀t:Tr,Good t→Ws t→t.n.kind=kind→(flat t).length≤400→(∀m∈flat t,ndBytes m≤4000)→
  ∃ks:List KV,Toks (toks t) ks∧ks≠ []∧ks.length≤10*(flat t).length∧(∀s∈toks t,s.size≤30000)∧StepOk nm step ks (flat t)
theorem part9_ok (kind step:Int) (nm:ByteArray) (hK:KindOk kind step nm) (b o n c:Nat) (ds:List Nd) (H:Heap) (h:Doc H b o n ds) (hs:Small ds) (hc:n≤c) (which:Int) (hw:0≤which∧which≤255)
 (byA:Option Addr) (byN byC:Nat) (ys:List Int) (hy:SlcAt H byA byN (ys.map (.int .u8 ·))) (hyr: ∀y∈ys,0≤y∧y≤255) (hTb:TabsAt H.size H):
 Fn PP fq25 #[.slice (some ⟨b,o,none⟩) n c,.int .i64 kind,.int .i64 step,.int .u8 which,.slice byA byN byC] H fun v H'=>v= .bool true∧Ext [] H H':=by
 refine part9.enter b o n c kind step which byA byN byC H _ ?_
 unfold part9.W
 refine⟨fun y H'=>Ext [] H H'∧(y.1=false→ ∃t,DocP ds t∧t.n.kind=1),?_,?_⟩
 ·refine(AnyDocument_ok b o n c ds H h hs).mono ?_
  rintro _ H1 ⟨r,rfl,x1,hr⟩
  refine⟨r,rfl,fkI (fun _=>⟨x1,by simp⟩) (fun hr1=>⟨x1,fun _=>hr (by simpa using hr1)⟩)⟩
 rintro⟨y,_⟩ H1 ⟨x1,hdoc⟩
 dsimp only at hdoc⊢
 refine fkI (fun _=>rkI ⟨rfl,x1⟩) (fun hy1=>?_)
 obtain⟨t,ht,_⟩:=hdoc hy1
 have h1:=h.ext x1 (by simp)
 refine(beneath9_ok b o n c ds H1 h1 kind which hw).mono ?_
 rintro _ H2 ⟨i,r,rfl,x2,hr⟩
 refine⟨((i:Int),r),rfl,?_⟩
 dsimp only
 have y2:=x1.trans x2
 refine fkI (fun _=>?_) (fun hr1=>?_)
 ·refine(ReadPart_scalarA H2 (hTb.up y2)).mono ?_
  rintro _ H3 ⟨g,cc,nx,nn,rfl,x3⟩
  exact⟨((some ⟨g,0,none⟩,nn,cc),(nx:Int),true),rfl,rkI ⟨rfl,y2.trans x3⟩⟩
 obtain⟨x,hx,hxk⟩:=hr (by simpa using hr1)
 have hx':(preT t)[i]?≠none:=by
  intro hn
  rw[ht.flat,flat_pre,List.getElem?_map,hn] at hx
  cases hx
 obtain⟨u,hu⟩: ∃u,(preT t)[i]?=some u:=by
  cases hq:(preT t)[i]? with
  |none=>exact absurd hq hx'
  |some u=>exact⟨u,rfl⟩
 have hun:u.n=x:=by
  rw[ht.flat,flat_pre,List.getElem?_map,hu] at hx
  simpa using hx
 have hmem:u∈preT t:=List.mem_of_getElem? hu
 have hat:At ds i (flat u):=by rw[ht.flat];exact preT_at t i u hu
 have hws:Ws u:=preT_ws t ht.ws u hmem
 have hgood:Good u:=fun q hq=>ht.good q (preT_trans hmem q hq)
 have hsub: ∀q∈preT u,q∈preT t:=preT_trans hmem
 have hlen:(flat u).length≤400:=by
  have:=hat.le' (flat_ne _)
  have:=ht.len
  omega
 have hbytes: ∀m∈flat u,ndBytes m≤4000:=by
  intro m hm
  rw[flat_pre,List.mem_map] at hm
  obtain⟨q,hq,rfl⟩:=hm
  exact ht.small q (hsub q hq)
 obtain⟨ks,hT,hne,hkl,hsz,hst⟩:=hK.ok u hgood hws (by rw[hun];exact hxk) hlen hbytes
 have htl:(toks u).length≤4000:=by rw[hT.len];omega
 have hnode:NodeOk bodyM u:=node_all u hgood fun q hq=>by have:=ht.small q (hsub q hq);simp only[ndBytes] at this;omega
 have h2:=h.ext y2 (by simp)
 refine(TokenTexts_ok b o n c ds H2 h2 i u hat hws hnode (by omega)).mono ?_
 rintro _ H3 ⟨a3,m3,k3,rfl,x3,o3⟩
 refine⟨(a3,m3,k3),rfl,?_⟩
 dsimp only
 have hm3:=o3.1
 simp only[List.length_map,Nat.mul_one] at hm3
 have hpos:0<ks.length:=List.length_pos_iff.2 hne
 rcases o3.2 with⟨_,h0,_⟩|⟨g3,cur,ha3,_⟩
 ·rw[hT.len] at hm3;omega
 subst ha3
 have y3:=y2.trans x3
 refine(Gaps_ok g3 m3 k3 byA byN byC (toks u) ys H3 (StrsAt.of_own o3) (hy.ext y3 (by simp)) hyr (fun s hsm=>⟨hT.pos s hsm,by have:=hsz s hsm;omega⟩) (by omega)).mono ?_
 rintro _ H4 ⟨body,rfl,x4,hsp,_⟩
 refine⟨body,rfl,?_⟩
 have e2:(bs [10,125]).size=2:=rfl
 have hbs:=hsp.size 30000 hsz
 have hbs2:body.size≤4000*30005:=Nat.le_trans hbs (Nat.mul_le_mul_right _ htl)
 have htsz:(body++bs [10,125]).size=body.size+2:=by rw[ByteArray.size_append,e2]
 refine⟨by omega,?_⟩
 have hrest: ∀S:Src,S.text=body++bs [10,125]→Rest S (ks++[(14,eB)]) 0:=by
  intro S hS
  refine rest_of S (by rw[hS];omega) (bs [10,125]) [(14,eB)] tail_brace (toks u) ks hT none body hsp 0 (fun h0=>?_) (by rw[hS];exact Sfx.zero _)
  rw[h0] at htl hm3
  have:=hT.len
  rw[h0] at this
  simp at this
  omega
 refine(ReadPart_ok nm step hK.name hK.ne _ (by omega) ks (14,eB) (flat u) (.inl rfl) hne hrest hst (flat_ne u) H4 (hTb.up (y3.trans x4))).mono ?_
 rintro _ H5 ⟨g5,c5,nx,Y,rfl,x5,h14,hY,hN⟩
 have hnx:=h14 rfl
 refine⟨((some ⟨g5,0,none⟩,Y.length,c5),(nx:Int),true),rfl,?_⟩
 dsimp only
 have y5:=(y3.trans x4).trans x5
 refine⟨fun y H'=>y.1=true∧Ext [] H H',?_,?_⟩
 ·refine fkI (fun _=>?_) (fun hh=>absurd hh (by decide))
  have hwr:IntKind.i64.wrap (((body++bs [10,125]).size:Nat) -1:Int)=(nx:Int):=by rw[i64w (by omega)];omega
  rw[hwr]
  refine fkI (fun _=>?_) (fun hh=>by simp at hh)
  have h5:=h.ext y5 (by simp)
  refine(Sub_ok b o n c ds H5 h5 i u hat hws hc).mono ?_
  rintro _ _ ⟨rfl,o6,c6,rfl,hN6⟩
  refine⟨(some ⟨b,o6,none⟩,(flat u).length,c6),rfl,?_⟩
  have hYl:=hY.len
  refine(SameDocument_ok g5 0 Y.length c5 b o6 (flat u).length c6 Y (flat u) H5 hN hN6 rfl rfl (by omega) hYl hY.get).mono ?_
  rintro _ H7 ⟨rfl,x7⟩
  exact⟨true,rfl,rfl,y5.trans x7⟩
 ·rintro⟨y,_⟩ H8 ⟨hy8,x8⟩
  dsimp only at hy8⊢
  subst hy8
  exact rkI ⟨rfl,x8⟩
end Go.Vx
