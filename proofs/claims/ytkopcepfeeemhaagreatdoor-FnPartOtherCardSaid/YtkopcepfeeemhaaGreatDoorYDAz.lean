/- A part of the proof of what the last text of this claim says: QP5. Conditions: none. -/
import Derived.Test.YtkopcepfeeemhaaGreatDoorYDAt
import Derived.Test.YtkopcepfeeemhaaGreatDoorYDAu
set_option maxRecDepth 10000
namespace Go.Vx
open Go Go.Proofs
def Fact (A H:Heap) (row:Option Nat) (P:Heap→Prop):Prop:= ∃B C:Heap,A.size≤B.size∧C.size≤H.size∧Born B C P∧(∀(k:Nat) (o:Obj),B.size≤k→C[k]?=some o→H[k]?=some o)∧ ∀r,row=some r→r<B.size∨C.size≤r
theorem Fact.born {A H:Heap} {row:Option Nat} {P:Heap→Prop} (h:Fact A H row P):Born A H P:=by
 obtain⟨B,C,h1,h2,h3,h4,h5⟩:=h
 exact fun G hG=>h3 G fun k o hk ho=>hG k o (by omega) (h4 k o hk ho)
theorem Fact.step {A H H':Heap} {row:Option Nat} {P:Heap→Prop} {S:List Nat} (h:Fact A H row P) (he:Ext S H H') (hS: ∀k∈S,k<A.size):Fact A H' row P:=by
 obtain⟨B,C,h1,h2,h3,h4,h5⟩:=h
 refine⟨B,C,h1,by have:=he.size;omega,h3,fun k o hk ho=>he.get _ _ (h4 k o hk ho) fun hm=>?_,h5⟩
 have:=hS k hm;omega
theorem Fact.grow {A H H':Heap} {row row':Option Nat} {P:Heap→Prop} (h:Fact A H row P) (he:Grow H H' row) (hr:row'=row∨row'=some H.size):Fact A H' row' P:=by
 obtain⟨B,C,h1,h2,h3,h4,h5⟩:=h
 refine⟨B,C,h1,by have:=he.size;omega,h3,fun k o hk ho=>?_,fun r hr'=>?_⟩
 ·have h6:=h4 k o hk ho
  rw[he.block k (k0l h6) fun e=>?_,h6]
  have h7:=k0l ho
  rcases h5 k e.symm with h8|h8<;>omega
 ·rcases hr with rfl|rfl
  ·exact h5 r hr'
  ·cases hr';exact .inr h2
theorem Fact.new {A B C:Heap} {row:Option Nat} {P:Heap→Prop} (h:Born B C P) (hA:A.size≤B.size) (hr: ∀r,row=some r→r<B.size):Fact A C row P:=
 ⟨B,C,hA,Nat.le_refl _,h,fun _ _ _ ho=>ho,fun r h=> .inl (hr r h)⟩
inductive All2 {α β:Type} (R:α→β→Prop):List α→List β→Prop
 |nil:All2 R [] []
 |cons {a:α} {b:β} {l:List α} {m:List β}:R a b→All2 R l m→All2 R (a::l) (b::m)
theorem All2.snoc {α β:Type} {R:α→β→Prop} {l:List α} {m:List β} (h:All2 R l m) {a:α} {b:β} (hr:R a b):All2 R (l++[a]) (m++[b]):=by
 induction h with
 |nil=>exact .cons hr .nil
 |cons h _ ih=>exact .cons h ih
theorem All2.imp {α β:Type} {R S:α→β→Prop} {l:List α} {m:List β} (h:All2 R l m) (hi: ∀a b,R a b→S a b):All2 S l m:=by
 induction h with
 |nil=>exact .nil
 |cons h _ ih=>exact .cons (hi _ _ h) ih
theorem All2.len {α β:Type} {R:α→β→Prop} {l:List α} {m:List β} (h:All2 R l m):l.length=m.length:=by
 induction h with
 |nil=>rfl
 |cons _ _ ih=>simp[ih]
theorem All2.map {α α' β:Type} {R:α'→β→Prop} {f:α→α'} {l:List α} {m:List β} (h:All2 (fun a b=>R (f a) b) l m):All2 R (l.map f) m:=by
 induction h with
 |nil=>exact .nil
 |cons h _ ih=>exact .cons h ih
theorem All2.born {α β:Type} {A H:Heap} {Q:α→β→Heap→Prop} {l:List α} {m:List β} (h:All2 (fun a b=>Born A H (Q a b)) l m):Born A H fun G=>All2 (fun a b=>Q a b G) l m:=
 fun G hG=>h.imp fun _ _ hb=>hb G hG
def ifV (x:Nat×Nat):Value:= .iface x.1 (.pointer (some ⟨x.2,0,none⟩))
def ptV (b:Nat):Value:= .pointer (some ⟨b,0,none⟩)
abbrev slV (x:Sl):Value:= .tuple #[.slice x.1 x.2.1 x.2.2,nI]
def SlAt (x:Sl) (vs:List Value) (G:Heap):Prop:=k0G G x.1 x.2.1 vs
theorem PS.row {E:PEnv} {H H':Heap} {l:List KV} (h:PS E H l) {r:Option Nat} (he:Grow H H' r) (hr: ∀q,r=some q→ ∃c e fr,H[q]?=some (.cells c e fr)∧e≠tq92∧e≠tq3∧e≠tq88∧e≠tq145∧e≠tq5) (hq: ∀q,r=some q→E.p≤q):PS E H' l:=by
 have key: ∀(k:Nat) (d:Array Value) (e:TypeId) (fr:Nat×Nat),H[k]?=some (.cells d e fr)→(e=tq92∨e=tq3∨e=tq88∨e=tq145∨e=tq5)→H'[k]?=some (.cells d e fr):=by
  intro k d e fr hk ho
  rw[he.block k (k0l hk) fun eq=>?_,hk]
  obtain⟨c,e',fr',hc,h1,h2,h3,h4,h5⟩:=hr k eq.symm
  rw[hk] at hc;cases hc
  rcases ho with h|h|h|h|h
  ·exact h1 h
  ·exact h2 h
  ·exact h3 h
  ·exact h4 h
  ·exact h5 h
 obtain⟨pe,t,st,en,r',h1,hp,h2⟩:=h.p
 obtain⟨n,hn⟩:=h.ls.prev
 refine⟨⟨⟨n,key _ _ _ _ hn (by simp)⟩,key _ _ _ _ h.ls.srcb (by simp),h.ls.src.keep (fun k c e fr hk ho=>key _ _ _ _ hk ?_) (fun k o hk ho=>by
  rw[he.block k (k0l ho) fun eq=>?_,ho]
  have:=hq k eq.symm;have:=h.ls.lo;omega),h.ls.lo⟩,pe,t,st,en,r',h1,key _ _ _ _ hp (by simp),h2⟩
 rcases ho with rfl|rfl<;>simp
structure Lst {α β:Type} (E:PEnv) (A H:Heap) (l:List KV) (e:TypeId) (x:Sl) (val:α→Value) (Q:α→β→Heap→Prop) (bs:List α) (ms:List β):Prop where
 ps:PS E H l
 ext:Ext E.S A H
 pa:E.p<A.size∧E.prev<A.size
 own:OwnS H e 1 x.1 x.2.1 x.2.2 (bs.map val)
 row: ∀r,k0u x.1=some r→A.size≤r
 facts:All2 (fun b m=>Fact A H (k0u x.1) (Q b m)) bs ms
def k15 (e:TypeId):Prop:=e≠tq92∧e≠tq3∧e≠tq88∧e≠tq145∧e≠tq5
section
variable {α β:Type} {E:PEnv} {A H:Heap} {l l':List KV} {e:TypeId} {x:Sl} {val:α→Value} {Q:α→β→Heap→Prop} {bs:List α} {ms:List β}
theorem Lst.lt (h:Lst E A H l e x val Q bs ms): ∀k∈E.S,k<A.size:=by
 intro k hk
 have:=h.pa
 simp only[PEnv.S,List.mem_cons,List.not_mem_nil,or_false] at hk
 rcases hk with rfl|rfl<;>omega
theorem Lst.step (h:Lst E A H l e x val Q bs ms) {H':Heap} (he:Ext E.S H H') (ps:PS E H' l'):Lst E A H' l' e x val Q bs ms where
 ps:=ps
 ext:=h.ext.trans he
 pa:=h.pa
 own:=h.own.ext he fun r hr hm=>by have:=h.lt r hm;have:=h.row r hr;omega
 row:=h.row
 facts:=h.facts.imp fun _ _ hf=>hf.step he h.lt
theorem Lst.push (h:Lst E A H l e x val Q bs ms) (he:k15 e) (hv: ∀a,(val a).oneCell'=true) (bytes:Nat) (hby:bytes≤1000) (hlen:bs.length≤100000) {b:α} {m:β} (hb:Fact A H (k0u x.1) (Q b m))
 {K:OA→Nat→Heap→Prop} (hk: ∀a c H',Lst E A H' l e (a,x.2.1+1,c) val Q (bs++[b]) (ms++[m])→K a c H'):
 newB H (.cells #[val b] e) fun b2 H2=>appK H2 e 1 bytes x.1 x.2.1 x.2.2 (some ⟨b2,0,none⟩) 1 K:=by
 refine nbI fun H1 e1 hb1 x1 s1=>?_
 have hn:=h.own.1
 simp only[List.length_map,Nat.mul_one] at hn
 have hml:1000000≤maxLen:=by decide
 have hbytes:(x.2.1+1)*bytes≤140737488355328:=by
  have:(x.2.1+1)*bytes≤100001*1000:=Nat.mul_le_mul (by omega) hby
  omega
 have own1:=h.own.ext x1 (by simp)
 refine .inr ⟨_,_,own1,k2o.of_block hb1 rfl,?_,by omega,hbytes,?_⟩
 ·intro u hu
  simp at hu
  subst hu
  exact hv b
 intro a c H2 ho hg _ hrow
 have hne: ∀q,k0u x.1=some q→ ∃c e' fr,H1[q]?=some (.cells c e' fr)∧e'≠tq92∧e'≠tq3∧e'≠tq88∧e'≠tq145∧e'≠tq5:=by
  intro q hq
  obtain⟨cur,_,hg',_⟩:=own1.row hq
  exact⟨_,_,_,hg',he⟩
 have hr2:k0u a=k0u x.1∨k0u a=some H1.size:=hrow
 refine hk a c H2 ⟨(h.ps.grow x1).row hg hne (fun q hq=>by have:=h.row q hq;have:=h.pa;omega),?_,h.pa,?_,?_,?_⟩
 ·refine⟨by have:=h.ext.size;have:=x1.size;have:=hg.size;omega,fun k o hk hn=>?_⟩
  have h2:=x1.get _ _ (h.ext.get _ _ hk hn) (by simp)
  rw[hg.block k (k0l h2) fun eq=>?_,h2]
  have:=h.row k eq.symm
  have:=k0l hk
  omega
 ·rw[List.map_append]
  simpa using ho
 ·intro r hr
  rcases hr2 with h3|h3
  ·exact h.row r (by rw[←h3];exact hr)
  ·rw[h3] at hr;cases hr;have:=h.ext.size;omega
 ·have f1:All2 (fun b m=>Fact A H2 (k0u a) (Q b m)) bs ms:=h.facts.imp fun _ _ hf=>(hf.step x1 (by simp)).grow hg hr2
  exact f1.snoc ((hb.step x1 (by simp)).grow hg hr2)
theorem Lst.fin (h:Lst E A H l e x val Q bs ms):Cx E A H l fun G=>SlAt x (bs.map val) G∧All2 (fun b m=>Q b m G) bs ms:=by
 refine⟨h.ps,h.ext,h.pa,fun G hG=>⟨?_,All2.born (h.facts.imp fun _ _ hf=>hf.born) G hG⟩⟩
 have:=k0G.of_own h.own
 refine⟨this.1,this.2.imp id ?_⟩
 rintro⟨g,o,c,e',fr,ha,hg,hr⟩
 exact⟨g,o,c,e',fr,ha,hG _ _ (h.row g (by rw[ha];rfl)) hg,hr⟩
end
theorem Lst.nil {α β:Type} (E:PEnv) {H:Heap} {l:List KV} (ps:PS E H l) (e:TypeId) (val:α→Value) (Q:α→β→Heap→Prop):Lst E H H l e (none,0,0) val Q [] []:=
 ⟨ps,Ext.refl _ _,ps.lt,OwnS.nil _ _ _,(by simp[k0u]),.nil⟩
theorem Lst.row0 {α β:Type} {E:PEnv} {H:Heap} {l:List KV} (ps:PS E H l) (e:TypeId) (val:α→Value) (Q:α→β→Heap→Prop) {K:Nat→Heap→Prop}
 (hk: ∀b H',Lst E H H' l e (some ⟨b,0,none⟩,0,0) val Q [] []→K b H'):newB H (.cells #[] e) K:=by
 refine nbI fun H1 e1 hb1 x1 s1=>hk _ _ ⟨ps.grow x1,x1.of_nil,ps.lt,⟨by simp,.inr ⟨H.size,#[],rfl,hb1,Nat.le_refl _,Nat.zero_le _,rfl,rfl⟩⟩,?_,.nil⟩
 intro r hr
 cases hr
 exact Nat.le_refl _
theorem Lst.call {α β:Type} {E:PEnv} {A H:Heap} {l l':List KV} {e:TypeId} {x:Sl} {val:α→Value} {Q:α→β→Heap→Prop} {bs:List α} {ms:List β} (h:Lst E A H l e x val Q bs ms)
 {f:FuncId} {args:Array Value} {p:Pat} {R:p.α→Heap→Prop} {K:p.α→Heap→Prop} (hf:POk E f args l l' p.to R)
 (hk: ∀y H',Lst E A H' l' e x val Q bs ms→Fact A H' (k0u x.1) (R y)→K y H'):k00 PP f args H p K:=by
 refine(hf H h.ps).mono ?_
 rintro _ H' ⟨y,rfl,hc⟩
 refine⟨y,rfl,hk y H' (h.step hc.ext hc.ps) (Fact.new hc.born h.ext.size fun r hr=>?_)⟩
 obtain⟨cur,_,hg,_⟩:=h.own.row hr
 exact k0l hg
theorem Lst.call1 {α β:Type} {E:PEnv} {A H:Heap} {l l':List KV} {e:TypeId} {x:Sl} {val:α→Value} {Q:α→β→Heap→Prop} {bs:List α} {ms:List β} (h:Lst E A H l e x val Q bs ms)
 {f:FuncId} {args:Array Value} {v:Value} {p:Pat} {K:p.α→Heap→Prop} (hf:POk1 E f args l l' v) (y:p.α) (hy:p.to y=v)
 (hk: ∀H',Lst E A H' l' e x val Q bs ms→K y H'):k00 PP f args H p K:=by
 refine(hf H h.ps).mono ?_
 rintro _ H' ⟨rfl,hc⟩
 exact⟨y,hy.symm,hk H' (h.step hc.ext hc.ps)⟩
theorem k8k (f:FuncId) (E:PEnv) (ok ck:Int) (z:Bool) (ts:Tr→List KV) (Q:Nat×Nat→Tr→Heap→Prop) (Fo:KV→Prop) (l:List Tr) (hlen:l.length≤1000) (hz:z=true→l≠ [])
 (hP: ∀t∈l,∀(u:KV) (r:List KV),Fo u→POk E f #[.pointer (some ⟨E.p,0,none⟩)] (ts t++u::r) (u::r) (fun x:Nat×Nat=> .tuple #[ifV x,nI]) fun x G=>Q x t G)
 (hF: ∀t∈l,∃h r,ts t=h::r∧Fo h∧h.1≠ck) (hc:Fo (ck,eB)) (u:KV) (r:List KV) (H:Heap) (ps:PS E H ((ok,eB)::(l.flatMap ts++(ck,eB)::u::r))):
 k1q.W f E.p ok ck z H fun v H'=> ∃(x:Sl) (bs:List (Nat×Nat)),v=slV x∧Cx E H H' (u::r) fun G=>SlAt x (bs.map ifV) G∧All2 (fun b t=>Q b t G) bs l:=by
 unfold k1q.W
 obtain⟨v1,v2,hv⟩: ∃v1 v2,l.flatMap ts++(ck,eB)::u::r=v1::v2:=by
  cases hh:l.flatMap ts with
  |nil=>exact⟨_,_,rfl⟩
  |cons a b=>exact⟨_,_,rfl⟩
 refine(Cx.start ps).call (p:=⟨Int×Int×Int×BA,fun x=>(.tuple #[(.agg #[(.int .i64 x.1),(.int .i64 x.2.1),(.int .i64 x.2.2.1),(.string x.2.2.2)]),nI])⟩) (by rw[hv];exact k1R E (ok,eB) v1 v2 ok rfl) fun x1 H1 _ c1=>?_
 rw[←hv] at c1
 refine c1.tok rfl fun H2 y2 hb2 c2=>?_
 have l0:Lst E H2 H2 (l.flatMap ts++(ck,eB)::u::r) tq20 (none,0,0) ifV Q [] []:=Lst.nil E c2.ps _ _ _
 refine⟨fun y H'=> ∃(done rest:List Tr) (bs:List (Nat×Nat)),l=done++rest∧Lst E H2 H' (rest.flatMap ts++(ck,eB)::u::r) tq20 y.1 ifV Q bs done,fun y _=>l.length -y.1.2.1,⟨[],l,[],rfl,l0⟩,?_⟩
 rintro⟨⟨xa,xn,xc⟩,_⟩ H3 ⟨done,rest,bs,hl,l3⟩
 dsimp only at l3⊢
 have hn:=l3.own.1
 simp only[List.length_map,Nat.mul_one] at hn
 have hbl:=l3.facts.len
 have hll:=congrArg List.length hl
 simp only[List.length_append] at hll
 cases rest with
 |nil=>
  simp only[List.flatMap_nil,List.nil_append] at l3
  refine l3.call1 (k3S E (ck,eB) u r ck rfl) true rfl fun H4 l4=>?_
  refine fkI (fun _=>?_) (fun hh=>absurd hh (by decide))
  refine⟨(false,()),?_,fkI (fun hh=>absurd hh (by decide)) (fun _=>?_)⟩
  ·refine fkI (fun hzt=>⟨?_,rfl⟩) (fun _=>⟨rfl,rfl⟩)
   have h0:0<l.length:=List.length_pos_iff.2 (hz hzt)
   simp only[List.length_nil] at hll
   simp only[Prod.mk.injEq,and_true,beq_eq_false_iff_ne]
   omega
  ·have c4:=l4.fin
   rw[List.append_nil] at hl
   refine rkI ⟨(xa,xn,xc),bs,rfl,(c2.trans c4).weak fun G hG=>⟨hG.2.1,by rw[hl];exact hG.2.2⟩⟩
 |cons t rest=>
  obtain⟨h,hr,hts,hfo,hne⟩:=hF t (by rw[hl];simp)
  have e1:(t::rest).flatMap ts++(ck,eB)::u::r=ts t++(rest.flatMap ts++(ck,eB)::u::r):=by simp
  rw[e1] at l3
  have e2:ts t++(rest.flatMap ts++(ck,eB)::u::r)=h::(hr++(rest.flatMap ts++(ck,eB)::u::r)):=by rw[hts];rfl
  have l3':=l3
  rw[e2] at l3'
  refine l3'.call1 (k3v E h _ ck hne) false rfl fun H4 l4=>?_
  refine fkI (fun hh=>absurd hh (by decide)) (fun _=>?_)
  rw[←e2] at l4
  obtain⟨w1,w2,hw,hwf⟩: ∃w1 w2,rest.flatMap ts++(ck,eB)::u::r=w1::w2∧Fo w1:=by
   cases rest with
   |nil=>exact⟨_,_,rfl,hc⟩
   |cons t2 rest2=>
    obtain⟨h2,hr2,hts2,hfo2,_⟩:=hF t2 (by rw[hl];simp)
    exact⟨h2,_,by simp[hts2];rfl,hfo2⟩
  rw[hw] at l4
  refine l4.call (p:=⟨(Nat×Nat),fun x=>(.tuple #[(.iface x.1 (.pointer (some ⟨x.2,0,none⟩))),nI])⟩) (hP t (by rw[hl];simp) w1 w2 hwf) fun y H5 l5 f5=>?_
  refine l5.push (b:=y) (m:=t) (by unfold k15;decide) (fun _=>rfl) 16 (by decide) (by omega) f5 fun a c H6 l6=>?_
  rw[←hw] at l6
  refine⟨⟨done++[t],rest,bs++[y],by rw[hl];simp,l6⟩,?_⟩
  simp only[List.length_cons] at hll
  omega
theorem k5r (T eT:Nat) (he:k15 eT) (E:PEnv) {A H:Heap} {l:List KV} {x:Sl} {bs:List Nat} {Q:Nat→Tr→Heap→Prop} {ms:List Tr} (c:Cx E A H l fun G=>SlAt x (bs.map fun b=>ifV (T,b)) G∧All2 (fun b t=>Q b t G) bs ms) (hlen:bs.length≤1000)
 {A0 H3:Heap} (hA:Ext E.S A0 A) (pa0:E.p<A0.size∧E.prev<A0.size) (x3:Ext [] H H3) {b0:Nat} (h0:H3[b0]?=some (.cells #[] eT)) (hb0:A0.size≤b0) (hb1:b0<A.size∨H.size≤b0)
 {K:Sl→Heap→Prop} (hk: ∀y H',Cx E A0 H' l (fun G=>SlAt y (bs.map ptV) G∧All2 (fun b t=>Q b t G) bs ms)→K y H'):
 k0e (Sl×Int×Unit) (((some ⟨b0,0,none⟩),0,0),0,()) H3 fun z7 H8 next9=>
 k02 (decide (z7.2.1<((x.2.1:Nat):Int)))
 ((IxOk x.1 z7.2.1 x.2.1)∧
   k01 H8 false 1 ⟨(k0c x.1),(k0b x.1+z7.2.1.toNat*1),none⟩ ⟨Nat,fun x=>(.iface T (.pointer (some ⟨x,0,none⟩)))⟩ fun(x10:Nat)=>
   newB H8 (.cells #[(.pointer (some ⟨x10,0,none⟩))] eT) fun b11 H12=>
   appK H12 eT 1 8 z7.1.1 z7.1.2.1 z7.1.2.2 (some ⟨b11,0,none⟩) 1 fun a13 c14 H15=>
   next9 ((a13,(z7.1.2.1+1),c14),(IntKind.i64.wrap (z7.2.1+1)),()) H15)
 (K z7.1 H8):=by
 have hsl:=c.self.1
 have hxn:x.2.1=bs.length:=by have:=hsl.1;simpa using this
 refine⟨fun z H'=> ∃k:Nat,z.2.1=k∧k≤bs.length∧z.1.2.1=k∧PS E H' l∧Ext [b0] H3 H'∧OwnS H' eT 1 z.1.1 z.1.2.1 z.1.2.2 ((bs.take k).map ptV)∧(∀r,k0u z.1.1=some r→r=b0∨H3.size≤r),fun z _=>bs.length -z.2.1.toNat,
  ⟨0,rfl,Nat.zero_le _,rfl,c.ps.grow x3,Ext.refl _ _,⟨by simp,.inr ⟨b0,#[],rfl,h0,Nat.le_refl _,Nat.zero_le _,rfl,rfl⟩⟩,fun r hr=> .inl (by cases hr;rfl)⟩,?_⟩
 rintro⟨⟨a,n,cc⟩,_,_⟩ H2 ⟨k,hk1,hkl,hk2,ps2,x2,o2,hr2⟩
 dsimp only at hk1 hk2 o2 hr2⊢
 subst hk1;subst hk2
 have bne: ∀q:Nat,A.size≤q→q<H.size→q∉ [b0]:=fun q hq hq2=>k14 (by omega)
 have z3:=x3.size
 have keep: ∀G:Heap,(∀(q:Nat) (o:Obj),A.size≤q→H2[q]?=some o→G[q]?=some o)→SlAt x (bs.map fun b=>ifV (T,b)) G∧All2 (fun b t=>Q b t G) bs ms:=fun G hG=>c.born G fun q o hq ho=>hG q o hq (x2.get _ _ (x3.get _ _ ho (by simp)) (bne q hq (k0l ho)))
 refine fkI (fun hlt=>?_) (fun hge=>?_)
 ·have hlt':n<bs.length:=by simp at hlt;omega
  have hi:(bs.map fun b=>ifV (T,b))[n]?=some (ifV (T,bs[n])):=by simp[hlt']
  have sl2:k0G H2 x.1 x.2.1 (bs.map fun b=>ifV (T,b)):=(keep H2 fun _ _ _ ho=>ho).1
  have hL:=sl2.load hi
  refine⟨hL.1,bs[n],hL.2,?_⟩
  refine nbI fun H5 e3 hb3 x5 s3=>?_
  have o3:=o2.ext x5 (by simp)
  have hml:1000000≤maxLen:=by decide
  refine .inr ⟨_,_,o3,k2o.of_block hb3 rfl,?_,by omega,by omega,?_⟩
  ·intro u hu;simp at hu;subst hu;rfl
  intro a4 c4 H4 o4 g4 _ hrow4
  have hne: ∀q,k0u a=some q→ ∃c e' fr,H5[q]?=some (.cells c e' fr)∧e'≠tq92∧e'≠tq3∧e'≠tq88∧e'≠tq145∧e'≠tq5:=by
   intro q hq
   obtain⟨cur,_,hg',_⟩:=o3.row hq
   exact⟨_,_,_,hg',he⟩
  rw[k0h (k:=n) (by omega)]
  refine⟨⟨n+1,rfl,hlt',rfl,(ps2.grow x5).row g4 hne (fun q hq=>by
   have:=hA.size;have:=c.ext.size
   rcases hr2 q hq with h5|h5<;>omega),?_,?_,?_⟩,by omega⟩
  ·refine⟨by have:=x2.size;have:=x5.size;have:=g4.size;omega,fun q o hq hn=>?_⟩
   have h2:=x5.get _ _ (x2.get _ _ hq hn) (by simp)
   rw[g4.block q (k0l h2) fun eq=>?_,h2]
   rcases hr2 q eq.symm with h5|h5
   ·subst h5;simp at hn
   ·have:=k0l hq;omega
  ·have ht:bs.take (n+1)=bs.take n++[bs[n]]:=List.take_succ_eq_append_getElem hlt'
   rw[ht,List.map_append]
   exact o4
  ·intro r hr
   rcases hrow4 with h5|h5
   ·exact hr2 r (by rw[←h5];exact hr)
   ·rw[h5] at hr;cases hr;right;have:=x2.size;omega
 ·obtain rfl:n=bs.length:=by simp at hge;omega
  rw[List.take_length] at o2
  have hsz:=hA.size
  refine hk _ _ ⟨ps2,?_,pa0,fun G hG=>⟨?_,(keep G fun q o hq ho=>hG q o (by omega) ho).2⟩⟩
  ·refine⟨by have:=c.ext.size;have:=x2.size;omega,fun q o hq hn=>x2.get _ _ (x3.get _ _ (c.ext.get _ _ (hA.get _ _ hq hn) hn) (by simp)) (k14 ?_)⟩
   have:=k0l hq;omega
  ·have hs:=k0G.of_own o2
   refine⟨hs.1,hs.2.imp id ?_⟩
   rintro⟨g,o,c',e',fr,ha,hg,hr⟩
   refine⟨g,o,c',e',fr,ha,hG _ _ ?_ hg,hr⟩
   have:=c.ext.size
   rcases hr2 g (by rw[ha];rfl) with h5|h5<;>omega
theorem k9c (eT aT:Nat) (VT:Nat→Prop) (he:k15 eT) (hAs: ∀x:Nat×Nat,VT x.1→ ∀w,(Instr.typeAssert (ifV x) tq20 aT false).run PP w= .ok (asV (ifV x) false) w) (E:PEnv) {A H:Heap} {l:List KV} {x:Sl} {bs:List (Nat×Nat)} {Q:Nat×Nat→Tr→Heap→Prop} (hV: ∀b∈bs,VT b.1) {ms:List Tr} (c:Cx E A H l fun G=>SlAt x (bs.map ifV) G∧All2 (fun b t=>Q b t G) bs ms) (hlen:bs.length≤1000)
 {A0 H3:Heap} (hA:Ext E.S A0 A) (pa0:E.p<A0.size∧E.prev<A0.size) (x3:Ext [] H H3) {b0:Nat} (h0:H3[b0]?=some (.cells #[] eT)) (hb0:A0.size≤b0) (hb1:b0<A.size∨H.size≤b0)
 {K:Sl→Heap→Prop} (hk: ∀y H',Cx E A0 H' l (fun G=>SlAt y (bs.map ifV) G∧All2 (fun b t=>Q b t G) bs ms)→K y H'):
 k0e (Sl×Int×Unit) (((some ⟨b0,0,none⟩),0,0),0,()) H3 fun z7 H8 next9=>
 k02 (decide (z7.2.1<((x.2.1:Nat):Int)))
 ((IxOk x.1 z7.2.1 x.2.1)∧
   k01 H8 false 1 ⟨(k0c x.1),(k0b x.1+z7.2.1.toNat*1),none⟩ ⟨(Nat×Nat),fun x=>(.iface x.1 (.pointer (some ⟨x.2,0,none⟩)))⟩ fun(x10:(Nat×Nat))=>
   asW PP (.iface x10.1 (.pointer (some ⟨x10.2,0,none⟩))) tq20 aT false (
   newB H8 (.cells #[(.iface x10.1 (.pointer (some ⟨x10.2,0,none⟩)))] eT) fun b11 H12=>
   appK H12 eT 1 16 z7.1.1 z7.1.2.1 z7.1.2.2 (some ⟨b11,0,none⟩) 1 fun a13 c14 H15=>
   next9 ((a13,(z7.1.2.1+1),c14),(IntKind.i64.wrap (z7.2.1+1)),()) H15))
 (K z7.1 H8):=by
 have hsl:=c.self.1
 have hxn:x.2.1=bs.length:=by have:=hsl.1;simpa using this
 refine⟨fun z H'=> ∃k:Nat,z.2.1=k∧k≤bs.length∧z.1.2.1=k∧PS E H' l∧Ext [b0] H3 H'∧OwnS H' eT 1 z.1.1 z.1.2.1 z.1.2.2 ((bs.take k).map ifV)∧(∀r,k0u z.1.1=some r→r=b0∨H3.size≤r),fun z _=>bs.length -z.2.1.toNat,
  ⟨0,rfl,Nat.zero_le _,rfl,c.ps.grow x3,Ext.refl _ _,⟨by simp,.inr ⟨b0,#[],rfl,h0,Nat.le_refl _,Nat.zero_le _,rfl,rfl⟩⟩,fun r hr=> .inl (by cases hr;rfl)⟩,?_⟩
 rintro⟨⟨a,n,cc⟩,_,_⟩ H2 ⟨k,hk1,hkl,hk2,ps2,x2,o2,hr2⟩
 dsimp only at hk1 hk2 o2 hr2⊢
 subst hk1;subst hk2
 have bne: ∀q:Nat,A.size≤q→q<H.size→q∉ [b0]:=fun q hq hq2=>k14 (by omega)
 have z3:=x3.size
 have keep: ∀G:Heap,(∀(q:Nat) (o:Obj),A.size≤q→H2[q]?=some o→G[q]?=some o)→SlAt x (bs.map ifV) G∧All2 (fun b t=>Q b t G) bs ms:=fun G hG=>c.born G fun q o hq ho=>hG q o hq (x2.get _ _ (x3.get _ _ ho (by simp)) (bne q hq (k0l ho)))
 refine fkI (fun hlt=>?_) (fun hge=>?_)
 ·have hlt':n<bs.length:=by simp at hlt;omega
  have hi:(bs.map ifV)[n]?=some (ifV bs[n]):=by simp[hlt']
  have sl2:k0G H2 x.1 x.2.1 (bs.map ifV):=(keep H2 fun _ _ _ ho=>ho).1
  have hL:=sl2.load hi
  refine⟨hL.1,bs[n],hL.2,hAs _ (hV _ (List.getElem_mem hlt')),?_⟩
  refine nbI fun H5 e3 hb3 x5 s3=>?_
  have o3:=o2.ext x5 (by simp)
  have hml:1000000≤maxLen:=by decide
  refine .inr ⟨_,_,o3,k2o.of_block hb3 rfl,?_,by omega,by omega,?_⟩
  ·intro u hu;simp at hu;subst hu;rfl
  intro a4 c4 H4 o4 g4 _ hrow4
  have hne: ∀q,k0u a=some q→ ∃c e' fr,H5[q]?=some (.cells c e' fr)∧e'≠tq92∧e'≠tq3∧e'≠tq88∧e'≠tq145∧e'≠tq5:=by
   intro q hq
   obtain⟨cur,_,hg',_⟩:=o3.row hq
   exact⟨_,_,_,hg',he⟩
  rw[k0h (k:=n) (by omega)]
  refine⟨⟨n+1,rfl,hlt',rfl,(ps2.grow x5).row g4 hne (fun q hq=>by
   have:=hA.size;have:=c.ext.size
   rcases hr2 q hq with h5|h5<;>omega),?_,?_,?_⟩,by omega⟩
  ·refine⟨by have:=x2.size;have:=x5.size;have:=g4.size;omega,fun q o hq hn=>?_⟩
   have h2:=x5.get _ _ (x2.get _ _ hq hn) (by simp)
   rw[g4.block q (k0l h2) fun eq=>?_,h2]
   rcases hr2 q eq.symm with h5|h5
   ·subst h5;simp at hn
   ·have:=k0l hq;omega
  ·have ht:bs.take (n+1)=bs.take n++[bs[n]]:=List.take_succ_eq_append_getElem hlt'
   rw[ht,List.map_append]
   exact o4
  ·intro r hr
   rcases hrow4 with h5|h5
   ·exact hr2 r (by rw[←h5];exact hr)
   ·rw[h5] at hr;cases hr;right;have:=x2.size;omega
 ·obtain rfl:n=bs.length:=by simp at hge;omega
  rw[List.take_length] at o2
  have hsz:=hA.size
  refine hk _ _ ⟨ps2,?_,pa0,fun G hG=>⟨?_,(keep G fun q o hq ho=>hG q o (by omega) ho).2⟩⟩
  ·refine⟨by have:=c.ext.size;have:=x2.size;omega,fun q o hq hn=>x2.get _ _ (x3.get _ _ (c.ext.get _ _ (hA.get _ _ hq hn) hn) (by simp)) (k14 ?_)⟩
   have:=k0l hq;omega
  ·have hs:=k0G.of_own o2
   refine⟨hs.1,hs.2.imp id ?_⟩
   rintro⟨g,o,c',e',fr,ha,hg,hr⟩
   refine⟨g,o,c',e',fr,ha,hG _ _ ?_ hg,hr⟩
   have:=c.ext.size
   rcases hr2 g (by rw[ha];rfl) with h5|h5<;>omega
theorem kfP {T:Nat} {bs:List (Nat×Nat)} (h: ∀b∈bs,b.1=T):bs.map ifV=(bs.map (·.2)).map fun b=>ifV (T,b):=by
 rw[List.map_map]
 apply List.map_congr_left
 intro b hb
 simp only[Function.comp_apply]
 rw[←h b hb]
theorem All2.left {α β:Type} {R:α→β→Prop} {P:α→Prop} (hp: ∀a b,R a b→P a) {l:List α} {m:List β} (h:All2 R l m): ∀a∈l,P a:=by
 induction h with
 |nil=>intro a h;simp at h
 |cons h _ ih=>
  intro a ha
  rcases List.mem_cons.1 ha with rfl|ha
  ·exact hp _ _ h
  ·exact ih a ha
end Go.Vx
