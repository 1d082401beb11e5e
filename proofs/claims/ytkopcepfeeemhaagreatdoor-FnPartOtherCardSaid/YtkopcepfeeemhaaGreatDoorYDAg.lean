/- A part of the proof of what the last text of this claim says: PC9. Conditions: none. -/
import Derived.Test.YtkopcepfeeemhaaGreatDoorYDAf
set_option maxRecDepth 10000
namespace Go.Vx
open Go Go.Proofs
theorem kka {t:Tr} (h:ShapedP t) (hk:t.n.kind=21∨t.n.kind=22∨t.n.kind=39): ∃k,t.ks=[k]:=by
 cases h with
 |tlist ty _ h _=>exact⟨ty,h⟩
 |tnon ty _ h _=>exact⟨ty,h⟩
 |extend ob _ h _ _=>exact⟨ob,h⟩
 |_=>exfalso;omega
theorem kc2 {n:Nd} (h:k2H n) (hk:n.kind=15):n.flag=0∨n.flag=1:=by
 cases h.2 with
 |boolean _ _ _ h=>exact h
 |_=>exfalso;omega
theorem kks {l:List Nd} {n:Nd} (h:n∈l):k1c n≤k36 l:=by
 induction l with
 |nil=>cases h
 |cons a r ih=>
  simp only[k36]
  rcases List.mem_cons.1 h with rfl|h
  ·omega
  ·have:=ih h;omega
theorem Good.kid {t k:Tr} (h:Good t) (hk:k∈t.ks):Good k:=fun u hu=>h u (k52 hk u hu)
theorem ka7 (t:Tr) (hg:Good t) (hs: ∀u∈preT t,u.n.text.size<4294967200):k23 k1E t:=
 klj t (fun k hk=>ka7 k (hg.kid hk) fun u hu=>hs u (k52 hk u hu)) (kka (hg t (k3t t)).2) (kc2 (hg t (k3t t)).1) (hs t (k3t t))
 termination_by SizeOf.sizeOf t
 decreasing_by
 cases t with|node n ks=>
 have:=List.sizeOf_lt_of_mem hk
 simp only[Tr.ks] at this
 simp;omega
theorem DocP.small {ds:List Nd} {t:Tr} (h:DocP ds t): ∀u∈preT t,k1c u.n≤4000:=by
 intro u hu
 have hm:u.n∈ds:=by rw[h.flat,k3G];exact List.mem_map_of_mem hu
 exact Nat.le_trans (kks hm) h.bytes
theorem kbh (b o n c:Nat) (ds:List Nd) (H:Heap) (h:Doc H b o n ds) (i:Nat) (t:Tr) (ht:At ds i (flat t)) (hw:Ws t) (hn:k23 k1E t) (hl:(toks t).length≤1000000):
 Fn PP fq21 #[.slice (some ⟨b,o,none⟩) n c,.int .i64 i] H fun v H'=> ∃a m k,v= .slice a m k∧Ext [] H H'∧OwnS H' tq9 1 a m k ((toks t).map .string):=by
 refine TokenTexts.enter b o n c i H _ ?_
 unfold TokenTexts.W
 refine nbI fun H2 e2 hb2 ext2 hs2=>?_
 refine nbI fun H4 e4 hb4 ext4 hs4=>?_
 have hW:WAt H H4 H2.size H.size b o n ds []:=
  ⟨ext2.trans ext4,h.ext (ext2.trans ext4) (by simp),h.below,ext2.size,Nat.le_refl _,⟨none,0,0,c,hb4,OwnS.nil _ _ _,(fun r hr=>by cases hr)⟩,⟨#[],0,ext4.get _ _ hb2 (by simp),(fun x hx=>by simp at hx)⟩⟩
 refine(hn H H4 H2.size H.size b o n ds [] i hW ht hw (by simpa using hl)).mono ?_
 rintro _ H6 ⟨rfl,hK,hW6⟩
 obtain⟨a,m,k,cc,hwc,ho,hr⟩:=hW6.st
 exact⟨(),rfl,(a,m,k),lcO hwc rfl,rkI ⟨a,m,k,rfl,hW6.ext,ho⟩⟩
def k1m (s:BA):Bool:=k3I (bt s 0)||(k1j (bt s 0)||(bt s 0==45||bt s 0==46))
theorem kbE (s:BA) (H:Heap) (hs:0<s.size):Fn PP fq32 #[.string s] H fun v H'=>v= .bool (k1m s)∧H=H':=by
 refine clinging.enter s H _ ?_
 unfold clinging.W
 refine⟨⟨by omega,by omega⟩,(k67 _ _).mono ?_⟩
 rintro _ _ ⟨rfl,rfl⟩
 refine⟨_,rfl,fkI (fun h1=>rkI ⟨by simp only[retV,k1m,h1,Bool.true_or],rfl⟩) (fun h1=>?_)⟩
 refine⟨⟨by omega,by omega⟩,(k68 _ _).mono ?_⟩
 rintro _ _ ⟨rfl,rfl⟩
 refine⟨_,rfl,fkI (fun h2=>rkI ⟨by simp only[retV,k1m,h1,h2,Bool.false_or,Bool.true_or],rfl⟩) (fun h2=>?_)⟩
 refine⟨⟨by omega,by omega⟩,fkI (fun h3=>rkI ⟨by simp only[retV,k1m,h1,h2,h3,Bool.false_or,Bool.true_or],rfl⟩) (fun h3=>?_)⟩
 exact⟨⟨by omega,by omega⟩,rkI ⟨by simp only[retV,k1m,h1,h2,h3,Bool.false_or],rfl⟩⟩
def gapL:List BA:=[bs [],bs [32],bs [10],bs [44],bs [32,44,32],bs [9],bs [13,10],bs [13],bs [35,32,97,10],bs [35,13],bs [44,44,10,32,32]]
def k4z (prev:Option BA) (l gap:BA):Prop:=
 gap∈gapL∧(gap=eB→ ∀p,prev=some p→ ¬(k1m p=true∧k1m l=true)∧ ¬(bt p 0=34∧bt l 0=34))
inductive Spaced:Option BA→List BA→BA→Prop
 |nil (p:Option BA):Spaced p [] (bs [])
 |cons (p:Option BA) (l gap rest:BA) (r:List BA):k4z p l gap→Spaced (some l) r rest→Spaced p (l::r) (gap++(l++rest))
theorem k7K (a:BA):a++bs []=a:=by
 apply ByteArray.ext
 rw[ByteArray.data_append]
 simp[bs]
theorem k4S (a:BA):bs []++a=a:=by
 apply ByteArray.ext
 rw[ByteArray.data_append]
 simp[bs]
def k26 (p:Option BA):List BA→Option BA
 |[]=>p
 |l::r=>k26 (some l) r
theorem Spaced.snoc {p:Option BA} {l:List BA} {t x gap:BA} (h:Spaced p l t) (hg:k4z (k26 p l) x gap):Spaced p (l++[x]) (t++(gap++x)):=by
 induction h with
 |nil p=>
  have:=Spaced.cons p x gap (bs []) [] hg (.nil _)
  rw[k7K] at this
  rw[k4S];exact this
 |cons p l g rest r hg' _ ih=>
  have:=Spaced.cons p l g _ _ hg' (ih hg)
  rw[List.cons_append]
  rw[ByteArray.append_assoc,ByteArray.append_assoc]
  exact this
theorem kcF (p:Option BA): ∀(l:List BA) (k:Nat) (x:BA),l[k]?=some x→k26 p (l.take (k+1))=some x
 |[],k,x,h=>by simp at h
 |a::r,0,x,h=>by simp at h;subst h;simp[k26]
 |a::r,k+1,x,h=>by
  simp at h
  simp only[List.take_succ_cons,k26]
  exact kcF (some a) r k x h
theorem kb3 (lb ln lc:Nat) (byA:OA) (byN byC:Nat) (ss:List BA) (ys:List Int) (H:Heap) (hl:k0I H (some ⟨lb,0,none⟩) ln ss) (hy:k0G H byA byN (ys.map (.int .u8 ·))) (hyr: ∀y∈ys,0≤y∧y≤255)
 (hss: ∀s∈ss,0<s.size∧s.size≤1000000) (hln:ln≤1000000):
 Fn PP fq23 #[.slice (some ⟨lb,0,none⟩) ln lc,.slice byA byN byC] H fun v H'=> ∃text,v= .string text∧Ext [] H H'∧Spaced none ss text∧text.size≤ss.length*1000010:=by
 refine Gaps.enter lb 0 ln lc byA byN byC H _ ?_
 unfold Gaps.W
 have hlen:=hl.1
 refine⟨fun z H'=>Ext [] H H'∧ ∃k:Nat,z.2.1=k∧k≤ln∧Spaced none (ss.take k) z.1∧z.1.size≤k*1000010,fun z _=>ln -z.2.1.toNat,⟨Ext.refl _ _,0,rfl,Nat.zero_le _,.nil _,(show(0:Nat)≤_ from Nat.zero_le _)⟩,?_⟩
 rintro⟨out,_,_⟩ H2 ⟨hE,k,hk,hkl,hsp,hsz⟩
 dsimp only at hk hsp hsz⊢
 subst hk
 have hl2:=hl.ext hE (by simp)
 have hy2:=hy.ext hE (by simp)
 refine fkI (fun hlt=>?_) (fun hge=>?_)
 ·have hk':k<ss.length:=by simp at hlt;omega
  have hi:ss[k]?=some ss[k]:=List.getElem?_eq_getElem hk'
  have hx:=hss _ (List.getElem_mem hk')
  have htk:ss.take (k+1)=ss.take k++[ss[k]]:=List.take_succ_eq_append_getElem hk'
  have hprev: ∀p,k26 none (ss.take k)=some p→0<k∧ss[k -1]?=some p:=by
   intro p hp
   cases k with
   |zero=>simp[k26] at hp
   |succ k=>
    have h9:ss[k]?=some ss[k]:=List.getElem?_eq_getElem (by omega)
    rw[kcF none ss k _ h9] at hp
    cases hp
    exact⟨by omega,by simp⟩
  generalize ss[k]=x at hi hx htk
  -- the gap that is asked for
  refine⟨fun y H'=>Ext [] H H'∧y.1∈gapL,?_,?_⟩
  ·refine fkI (fun hb=>?_) (fun _=>⟨hE,by simp[gapL]⟩)
   have hb':0<byN:=by simp at hb;omega
   refine nbI fun H8 e8 hb8 ext8 hs8=>?_
   have hy8:=hy2.ext ext8 (by simp)
   have hyl:=hy.1
   simp only[List.length_map] at hyl
   have ht:Int.tmod (k:Int) (byN:Int)=((k% byN:Nat):Int):=rfl
   rw[ht]
   have hm:k% byN<ys.length:=by rw[←hyl];exact Nat.mod_lt _ hb'
   have hym:ys[k% byN]?=some ys[k% byN]:=List.getElem?_eq_getElem hm
   have hyr':=hyr _ (List.getElem_mem hm)
   generalize ys[k% byN]=yv at hym hyr'
   have hL:=hy8.load (i:=k% byN) (v:= .int .u8 yv) (by simp[hym])
   have hw:IntKind.i64.wrap yv=yv:=i64w (by omega)
   refine⟨by omega,hL.1,yv,hL.2,by omega,?_⟩
   rw[hw]
   obtain⟨yn,rfl⟩: ∃yn:Nat,yv=yn:=⟨yv.toNat,by omega⟩
   have ht2:Int.tmod (yn:Int) 11=((yn% 11:Nat):Int):=rfl
   rw[ht2]
   have h11:yn% 11<11:=Nat.mod_lt _ (by omega)
   generalize yn% 11=q at h11
   have hload: ∀q:Nat,q<11→ ∃g,g∈gapL∧k07 H8 false 1 ⟨H2.size,0+(q:Int).toNat*1,none⟩=some (.string g):=by
    intro q hq
    refine⟨gapL[q]'(by simpa [gapL] using hq),List.getElem_mem _,?_⟩
    have eq:0+(q:Int).toNat*1=q:=by omega
    rw[eq]
    simp only[k07,k1a,hb8]
    have: ∀q:Fin 11,(#[Value.string (bs []),Value.string (bs [32]),Value.string (bs [10]),Value.string (bs [44]),Value.string (bs [32,44,32]),Value.string (bs [9]),Value.string (bs [13,10]),Value.string (bs [13]),Value.string (bs [35,32,97,10]),Value.string (bs [35,13]),Value.string (bs [44,44,10,32,32])]:Array Value)[q.val]?=some (.string (gapL[q.val]'(by simp[gapL]))):=by
     intro q
     match q with
     |⟨0,_⟩=>rfl
     |⟨1,_⟩=>rfl
     |⟨2,_⟩=>rfl
     |⟨3,_⟩=>rfl
     |⟨4,_⟩=>rfl
     |⟨5,_⟩=>rfl
     |⟨6,_⟩=>rfl
     |⟨7,_⟩=>rfl
     |⟨8,_⟩=>rfl
     |⟨9,_⟩=>rfl
     |⟨10,_⟩=>rfl
    exact this ⟨q,hq⟩
   obtain⟨g,hg,hgl⟩:=hload q h11
   exact⟨k0k (by omega) (by omega),g,hgl,hE.trans ext8,hg⟩
  rintro⟨gap,_⟩ H6 ⟨hE6,hgap⟩
  dsimp only at hgap⊢
  have hl6:=hl.ext hE6 (by simp)
  have hcur:=hl6.load hi
  -- is nothing too little?
  refine⟨fun y H'=>H6=H'∧(y.1=false→gap=eB→ ∀p,k26 none (ss.take k)=some p→ ¬(k1m p=true∧k1m x=true)∧ ¬(bt p 0=34∧bt x 0=34)),?_,?_⟩
  ·refine fkI (fun hg=>?_) (fun hg=>⟨rfl,fun _ he=>?_⟩)
   ·refine fkI (fun h0=>?_) (fun h0=>⟨rfl,fun _ _ p hp=>?_⟩)
    ·have h0':0<k:=by simp at h0;omega
     have hpk:k -1<ss.length:=by omega
     have hpi:ss[k -1]?=some ss[k -1]:=List.getElem?_eq_getElem hpk
     have hps:=hss _ (List.getElem_mem hpk)
     have huniq: ∀p,k26 none (ss.take k)=some p→p=ss[k -1]:=fun p hp=>by
      have:=(hprev p hp).2;rw[hpi] at this;exact(Option.some.inj this).symm
     generalize ss[k -1]=q at hpi hps huniq
     have hw:IntKind.i64.wrap ((k:Int) -1)=((k -1:Nat):Int):=by rw[i64w (by omega)];omega
     rw[hw]
     have hpl:=hl6.load hpi
     have same: ∀(Q:BA→Prop),Q q→ ∀p,k26 none (ss.take k)=some p→Q p:=fun Q hq p hp=>by rw[huniq p hp];exact hq
     have quotes: ¬(k1m q=true∧k1m x=true)→(IxOk (some ⟨lb,0,none⟩) ((k -1:Nat):Int) ln)∧
      k01 H6 false 1 ⟨lb,(0+((k -1:Nat):Int).toNat*1),none⟩ pStr fun(x20:BA)=>((0:Int)≤0∧0<((x20.size:Nat):Int))∧
      k02 ((bt x20 0)==34)
      ((IxOk (some ⟨lb,0,none⟩) (k:Int) ln)∧k01 H6 false 1 ⟨lb,(0+(k:Int).toNat*1),none⟩ pStr fun(x21:BA)=>((0:Int)≤0∧0<((x21.size:Nat):Int))∧
        (H6=H6∧(((bt x21 0)==34)=false→gap=eB→ ∀p,k26 none (ss.take k)=some p→ ¬(k1m p=true∧k1m x=true)∧ ¬(bt p 0=34∧bt x 0=34))))
      (H6=H6∧(false=false→gap=eB→ ∀p,k26 none (ss.take k)=some p→ ¬(k1m p=true∧k1m x=true)∧ ¬(bt p 0=34∧bt x 0=34))):=by
      intro hcl
      refine⟨hpl.1,q,hpl.2,⟨by omega,by omega⟩,fkI (fun hq1=>?_) (fun hq1=>⟨rfl,fun _ _=>same _ ⟨hcl,?_⟩⟩)⟩
      ·refine⟨hcur.1,x,hcur.2,⟨by omega,by omega⟩,rfl,fun hx1 _=>same _ ⟨hcl,?_⟩⟩
       intro hh;rw[hh.2] at hx1;cases hx1
      ·intro hh;rw[hh.1] at hq1;cases hq1
     refine⟨hpl.1,q,hpl.2,(kbE q H6 hps.1).mono ?_⟩
     rintro _ _ ⟨rfl,rfl⟩
     refine⟨_,rfl,fkI (fun hc1=>?_) (fun hc1=>quotes (fun hh=>by rw[hh.1] at hc1;cases hc1))⟩
     refine⟨hcur.1,x,hcur.2,(kbE x H6 hx.1).mono ?_⟩
     rintro _ _ ⟨rfl,rfl⟩
     refine⟨_,rfl,fkI (fun hc2=>⟨rfl,by simp⟩) (fun hc2=>quotes (fun hh=>by rw[hh.2] at hc2;cases hc2))⟩
    ·have:=(hprev p hp).1
     simp at h0;omega
   ·exfalso
    have hne:gap≠eB:=by simpa [k0t] using hg
    exact hne he
  rintro⟨y12,_⟩ _ ⟨rfl,hcl⟩
  dsimp only at hcl⊢
  -- the gap that is taken
  refine⟨fun y H'=>H6=H'∧k4z (k26 none (ss.take k)) x y.1∧y.1.size≤5,?_,?_⟩
  ·have hsz5: ∀g∈gapL,g.size≤5:=by
    intro g hg
    simp only[gapL,List.mem_cons,List.not_mem_nil,or_false] at hg
    rcases hg with rfl|rfl|rfl|rfl|rfl|rfl|rfl|rfl|rfl|rfl|rfl<;>decide
   have h32:(bs [32])≠eB:=by intro h;have:=congrArg ByteArray.size h;exact absurd this (by decide)
   refine fkI (fun _=>⟨rfl,⟨by simp[gapL],fun he=>absurd he h32⟩,by decide⟩) (fun hf=>⟨rfl,⟨hgap,hcl hf⟩,hsz5 _ hgap⟩)
  rintro⟨g2,_⟩ _ ⟨rfl,hg2,hg5⟩
  dsimp only at hg2 hg5⊢
  refine k3r ?_
  have hk10:(k+1)*1000010=k*1000010+1000010:=by omega
  have hkb:k*1000010≤1000000*1000010:=Nat.mul_le_mul_right _ (by omega)
  have hnil:k4z none x (bs []):=⟨by simp[gapL],fun _ p hp=>by cases hp⟩
  refine⟨fun y H'=>H6=H'∧ ∃g,y.1=out++g∧k4z (k26 none (ss.take k)) x g∧g.size≤5,?_,?_⟩
  ·refine fkI (fun _=>⟨by omega,rfl,g2,rfl,hg2,hg5⟩) (fun hf=>⟨rfl,bs [],(k7K out).symm,?_,by decide⟩)
   have h0:k=0:=by simp at hf;omega
   subst h0
   simpa [k26] using hnil
  ·rintro⟨y,_⟩ _ ⟨rfl,g,hyg,hgo,hgs⟩
   dsimp only at hyg⊢
   subst hyg
   have hsp2:=hsp.snoc hgo
   rw[k0h (by omega)]
   refine⟨hcur.1,x,hcur.2,?_,⟨hE6,k+1,rfl,by omega,?_,?_⟩,by omega⟩
   ·rw[ByteArray.size_append];omega
   ·rw[htk,ByteArray.append_assoc];exact hsp2
   ·rw[ByteArray.size_append,ByteArray.size_append,hk10];omega
 ·have hk':k=ss.length:=by simp at hge;omega
  rw[hk',List.take_length] at hsp
  exact rkI ⟨out,rfl,hE,hsp,by rw[←hk'];exact hsz⟩
end Go.Vx
