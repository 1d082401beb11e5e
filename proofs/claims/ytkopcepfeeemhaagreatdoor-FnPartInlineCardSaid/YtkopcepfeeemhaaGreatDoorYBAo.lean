/- A part of the proof of what the last text of this claim says: QP5, QV1, QT2, QT3, QV2, QV3. Conditions: none. -/
import Derived.Test.YtkopcepfeeemhaaGreatDoorZAo
import Derived.Test.YtkopcepfeeemhaaGreatDoorYBAi
import Derived.Test.YtkopcepfeeemhaaGreatDoorYBAj
set_option maxRecDepth 10000
namespace Go.Vx
open Go Go.Proofs
def Fact (A H:Heap) (row:Option Nat) (P:Heap→Prop):Prop:= ∃B C:Heap,A.size≤B.size∧C.size≤H.size∧Born B C P∧(∀(k:Nat) (o:Obj),B.size≤k→C[k]?=some o→H[k]?=some o)∧ ∀r,row=some r→r<B.size∨C.size≤r
theorem Fact.born {A H:Heap} {row:Option Nat} {P:Heap→Prop} (h:Fact A H row P):Born A H P:=by
 obtain⟨B,C,h1,h2,h3,h4,h5⟩:=h
 exact fun G hG=>h3 G fun k o hk ho=>hG k o (by omega) (h4 k o hk ho)
theorem Fact.step {A H H':Heap} {row:Option Nat} {P:Heap→Prop} {S:List Nat} (h:Fact A H row P) (he:Ext S H H') (hS: ∀k∈S,k<A.size):Fact A H' row P:=by
 obtain⟨B,C,h1,h2,h3,h4,h5⟩:=h
 refine⟨B,C,h1,by have:=he.size;omega,h3,fun k o hk ho=>he.get _ _ (h4 k o hk ho) fun hm=>?_,h5⟩
 have:=hS k hm;omega
theorem Fact.grow {A H H':Heap} {row row':Option Nat} {P:Heap→Prop} (h:Fact A H row P) (he:Grow H H' row) (hr:row'=row∨row'=some H.size):Fact A H' row' P:=by
 obtain⟨B,C,h1,h2,h3,h4,h5⟩:=h
 refine⟨B,C,h1,by have:=he.size;omega,h3,fun k o hk ho=>?_,fun r hr'=>?_⟩
 ·have h6:=h4 k o hk ho
  rw[he.block k (lt_of_get h6) fun e=>?_,h6]
  have h7:=lt_of_get ho
  rcases h5 k e.symm with h8|h8<;>omega
 ·rcases hr with rfl|rfl
  ·exact h5 r hr'
  ·cases hr';exact .inr h2
theorem Fact.new {A B C:Heap} {row:Option Nat} {P:Heap→Prop} (h:Born B C P) (hA:A.size≤B.size) (hr: ∀r,row=some r→r<B.size):Fact A C row P:=
 ⟨B,C,hA,Nat.le_refl _,h,fun _ _ _ ho=>ho,fun r h=> .inl (hr r h)⟩
inductive All2 {α β:Type} (R:α→β→Prop):List α→List β→Prop
 |nil:All2 R [] []
 |cons {a:α} {b:β} {l:List α} {m:List β}:R a b→All2 R l m→All2 R (a::l) (b::m)
theorem All2.snoc {α β:Type} {R:α→β→Prop} {l:List α} {m:List β} (h:All2 R l m) {a:α} {b:β} (hr:R a b):All2 R (l++[a]) (m++[b]):=by
 induction h with
 |nil=>exact .cons hr .nil
 |cons h _ ih=>exact .cons h ih
theorem All2.imp {α β:Type} {R S:α→β→Prop} {l:List α} {m:List β} (h:All2 R l m) (hi: ∀a b,R a b→S a b):All2 S l m:=by
 induction h with
 |nil=>exact .nil
 |cons h _ ih=>exact .cons (hi _ _ h) ih
theorem All2.len {α β:Type} {R:α→β→Prop} {l:List α} {m:List β} (h:All2 R l m):l.length=m.length:=by
 induction h with
 |nil=>rfl
 |cons _ _ ih=>simp[ih]
theorem All2.map {α α' β:Type} {R:α'→β→Prop} {f:α→α'} {l:List α} {m:List β} (h:All2 (fun a b=>R (f a) b) l m):All2 R (l.map f) m:=by
 induction h with
 |nil=>exact .nil
 |cons h _ ih=>exact .cons h ih
theorem All2.born {α β:Type} {A H:Heap} {Q:α→β→Heap→Prop} {l:List α} {m:List β} (h:All2 (fun a b=>Born A H (Q a b)) l m):Born A H fun G=>All2 (fun a b=>Q a b G) l m:=
 fun G hG=>h.imp fun _ _ hb=>hb G hG
def ifV (x:Nat×Nat):Value:= .iface x.1 (.pointer (some ⟨x.2,0,none⟩))
def ptV (b:Nat):Value:= .pointer (some ⟨b,0,none⟩)
abbrev slV (x:Sl):Value:= .tuple #[.slice x.1 x.2.1 x.2.2,.nilIface]
def SlAt (x:Sl) (vs:List Value) (G:Heap):Prop:=SlcAt G x.1 x.2.1 vs
theorem PS.row {E:PEnv} {H H':Heap} {l:List KV} (h:PS E H l) {r:Option Nat} (he:Grow H H' r) (hr: ∀q,r=some q→ ∃c e fr,H[q]?=some (.cells c e fr)∧e≠tq92∧e≠tq3∧e≠tq88∧e≠tq145∧e≠tq5) (hq: ∀q,r=some q→E.p≤q):PS E H' l:=by
 have key: ∀(k:Nat) (d:Array Value) (e:TypeId) (fr:Nat×Nat),H[k]?=some (.cells d e fr)→(e=tq92∨e=tq3∨e=tq88∨e=tq145∨e=tq5)→H'[k]?=some (.cells d e fr):=by
  intro k d e fr hk ho
  rw[he.block k (lt_of_get hk) fun eq=>?_,hk]
  obtain⟨c,e',fr',hc,h1,h2,h3,h4,h5⟩:=hr k eq.symm
  rw[hk] at hc;cases hc
  rcases ho with h|h|h|h|h
  ·exact h1 h
  ·exact h2 h
  ·exact h3 h
  ·exact h4 h
  ·exact h5 h
 obtain⟨pe,t,st,en,r',h1,hp,h2⟩:=h.p
 obtain⟨n,hn⟩:=h.ls.prev
 refine⟨⟨⟨n,key _ _ _ _ hn (by simp)⟩,key _ _ _ _ h.ls.srcb (by simp),h.ls.src.keep (fun k c e fr hk ho=>key _ _ _ _ hk ?_) (fun k o hk ho=>by
  rw[he.block k (lt_of_get ho) fun eq=>?_,ho]
  have:=hq k eq.symm;have:=h.ls.lo;omega),h.ls.lo⟩,pe,t,st,en,r',h1,key _ _ _ _ hp (by simp),h2⟩
 rcases ho with rfl|rfl<;>simp
structure Lst {α β:Type} (E:PEnv) (A H:Heap) (l:List KV) (e:TypeId) (x:Sl) (val:α→Value) (Q:α→β→Heap→Prop) (bs:List α) (ms:List β):Prop where
 ps:PS E H l
 ext:Ext E.S A H
 pa:E.p<A.size∧E.prev<A.size
 own:OwnS H e 1 x.1 x.2.1 x.2.2 (bs.map val)
 row: ∀r,rowOf x.1=some r→A.size≤r
 facts:All2 (fun b m=>Fact A H (rowOf x.1) (Q b m)) bs ms
def plainT (e:TypeId):Prop:=e≠tq92∧e≠tq3∧e≠tq88∧e≠tq145∧e≠tq5
section
variable {α β:Type} {E:PEnv} {A H:Heap} {l l':List KV} {e:TypeId} {x:Sl} {val:α→Value} {Q:α→β→Heap→Prop} {bs:List α} {ms:List β}
theorem Lst.lt (h:Lst E A H l e x val Q bs ms): ∀k∈E.S,k<A.size:=by
 intro k hk
 have:=h.pa
 simp only[PEnv.S,List.mem_cons,List.not_mem_nil,or_false] at hk
 rcases hk with rfl|rfl<;>omega
theorem Lst.step (h:Lst E A H l e x val Q bs ms) {H':Heap} (he:Ext E.S H H') (ps:PS E H' l'):Lst E A H' l' e x val Q bs ms where
 ps:=ps
 ext:=h.ext.trans he
 pa:=h.pa
 own:=h.own.ext he fun r hr hm=>by have:=h.lt r hm;have:=h.row r hr;omega
 row:=h.row
 facts:=h.facts.imp fun _ _ hf=>hf.step he h.lt
theorem Lst.push (h:Lst E A H l e x val Q bs ms) (he:plainT e) (hv: ∀a,(val a).oneCell'=true) (bytes:Nat) (hby:bytes≤1000) (hlen:bs.length≤100000) {b:α} {m:β} (hb:Fact A H (rowOf x.1) (Q b m))
 {K:Option Addr→Nat→Heap→Prop} (hk: ∀a c H',Lst E A H' l e (a,x.2.1+1,c) val Q (bs++[b]) (ms++[m])→K a c H'):
 newB H (.cells #[val b] e) fun b2 H2=>appK H2 e 1 bytes x.1 x.2.1 x.2.2 (some ⟨b2,0,none⟩) 1 K:=by
 refine nbI fun H1 e1 hb1 x1 s1=>?_
 have hn:=h.own.1
 simp only[List.length_map,Nat.mul_one] at hn
 have hml:1000000≤maxLen:=by decide
 have hbytes:(x.2.1+1)*bytes≤140737488355328:=by
  have:(x.2.1+1)*bytes≤100001*1000:=Nat.mul_le_mul (by omega) hby
  omega
 have own1:=h.own.ext x1 (by simp)
 refine .inr ⟨_,_,own1,NewsS.of_block hb1 rfl,?_,by omega,hbytes,?_⟩
 ·intro u hu
  simp at hu
  subst hu
  exact hv b
 intro a c H2 ho hg _ hrow
 have hne: ∀q,rowOf x.1=some q→ ∃c e' fr,H1[q]?=some (.cells c e' fr)∧e'≠tq92∧e'≠tq3∧e'≠tq88∧e'≠tq145∧e'≠tq5:=by
  intro q hq
  obtain⟨cur,_,hg',_⟩:=own1.row hq
  exact⟨_,_,_,hg',he⟩
 have hr2:rowOf a=rowOf x.1∨rowOf a=some H1.size:=hrow
 refine hk a c H2 ⟨(h.ps.grow x1).row hg hne (fun q hq=>by have:=h.row q hq;have:=h.pa;omega),?_,h.pa,?_,?_,?_⟩
 ·refine⟨by have:=h.ext.size;have:=x1.size;have:=hg.size;omega,fun k o hk hn=>?_⟩
  have h2:=x1.get _ _ (h.ext.get _ _ hk hn) (by simp)
  rw[hg.block k (lt_of_get h2) fun eq=>?_,h2]
  have:=h.row k eq.symm
  have:=lt_of_get hk
  omega
 ·rw[List.map_append]
  simpa using ho
 ·intro r hr
  rcases hr2 with h3|h3
  ·exact h.row r (by rw[←h3];exact hr)
  ·rw[h3] at hr;cases hr;have:=h.ext.size;omega
 ·have f1:All2 (fun b m=>Fact A H2 (rowOf a) (Q b m)) bs ms:=h.facts.imp fun _ _ hf=>(hf.step x1 (by simp)).grow hg hr2
  exact f1.snoc ((hb.step x1 (by simp)).grow hg hr2)
theorem Lst.fin (h:Lst E A H l e x val Q bs ms):Cx E A H l fun G=>SlAt x (bs.map val) G∧All2 (fun b m=>Q b m G) bs ms:=by
 refine⟨h.ps,h.ext,h.pa,fun G hG=>⟨?_,All2.born (h.facts.imp fun _ _ hf=>hf.born) G hG⟩⟩
 have:=SlcAt.of_own h.own
 refine⟨this.1,this.2.imp id ?_⟩
 rintro⟨g,o,c,e',fr,ha,hg,hr⟩
 exact⟨g,o,c,e',fr,ha,hG _ _ (h.row g (by rw[ha];rfl)) hg,hr⟩
end
theorem Lst.nil {α β:Type} (E:PEnv) {H:Heap} {l:List KV} (ps:PS E H l) (e:TypeId) (val:α→Value) (Q:α→β→Heap→Prop):Lst E H H l e (none,0,0) val Q [] []:=
 ⟨ps,Ext.refl _ _,ps.lt,OwnS.nil _ _ _,(by simp[rowOf]),.nil⟩
theorem Lst.row0 {α β:Type} {E:PEnv} {H:Heap} {l:List KV} (ps:PS E H l) (e:TypeId) (val:α→Value) (Q:α→β→Heap→Prop) {K:Nat→Heap→Prop}
 (hk: ∀b H',Lst E H H' l e (some ⟨b,0,none⟩,0,0) val Q [] []→K b H'):newB H (.cells #[] e) K:=by
 refine nbI fun H1 e1 hb1 x1 s1=>hk _ _ ⟨ps.grow x1,x1.of_nil,ps.lt,⟨by simp,.inr ⟨H.size,#[],rfl,hb1,Nat.le_refl _,Nat.zero_le _,rfl,rfl⟩⟩,?_,.nil⟩
 intro r hr
 cases hr
 exact Nat.le_refl _
theorem Lst.call {α β:Type} {E:PEnv} {A H:Heap} {l l':List KV} {e:TypeId} {x:Sl} {val:α→Value} {Q:α→β→Heap→Prop} {bs:List α} {ms:List β} (h:Lst E A H l e x val Q bs ms)
 {f:FuncId} {args:Array Value} {p:Pat} {R:p.α→Heap→Prop} {K:p.α→Heap→Prop} (hf:POk E f args l l' p.to R)
 (hk: ∀y H',Lst E A H' l' e x val Q bs ms→Fact A H' (rowOf x.1) (R y)→K y H'):callW PP f args H p K:=by
 refine(hf H h.ps).mono ?_
 rintro _ H' ⟨y,rfl,hc⟩
 refine⟨y,rfl,hk y H' (h.step hc.ext hc.ps) (Fact.new hc.born h.ext.size fun r hr=>?_)⟩
 obtain⟨cur,_,hg,_⟩:=h.own.row hr
 exact lt_of_get hg
theorem Lst.call1 {α β:Type} {E:PEnv} {A H:Heap} {l l':List KV} {e:TypeId} {x:Sl} {val:α→Value} {Q:α→β→Heap→Prop} {bs:List α} {ms:List β} (h:Lst E A H l e x val Q bs ms)
 {f:FuncId} {args:Array Value} {v:Value} {p:Pat} {K:p.α→Heap→Prop} (hf:POk1 E f args l l' v) (y:p.α) (hy:p.to y=v)
 (hk: ∀H',Lst E A H' l' e x val Q bs ms→K y H'):callW PP f args H p K:=by
 refine(hf H h.ps).mono ?_
 rintro _ H' ⟨rfl,hc⟩
 exact⟨y,hy.symm,hk H' (h.step hc.ext hc.ps)⟩
theorem reverse_ok (f:FuncId) (E:PEnv) (ok ck:Int) (z:Bool) (ts:Tr→List KV) (Q:Nat×Nat→Tr→Heap→Prop) (Fo:KV→Prop) (l:List Tr) (hlen:l.length≤1000) (hz:z=true→l≠ [])
 (hP: ∀t∈l,∀(u:KV) (r:List KV),Fo u→POk E f #[.pointer (some ⟨E.p,0,none⟩)] (ts t++u::r) (u::r) (fun x:Nat×Nat=> .tuple #[ifV x,.nilIface]) fun x G=>Q x t G)
 (hF: ∀t∈l,∃h r,ts t=h::r∧Fo h∧h.1≠ck) (hc:Fo (ck,eB)) (u:KV) (r:List KV) (H:Heap) (ps:PS E H ((ok,eB)::(l.flatMap ts++(ck,eB)::u::r))):
 reverseG.W f E.p ok ck z H fun v H'=> ∃(x:Sl) (bs:List (Nat×Nat)),v=slV x∧Cx E H H' (u::r) fun G=>SlAt x (bs.map ifV) G∧All2 (fun b t=>Q b t G) bs l:=by
 unfold reverseG.W
 obtain⟨v1,v2,hv⟩: ∃v1 v2,l.flatMap ts++(ck,eB)::u::r=v1::v2:=by
  cases hh:l.flatMap ts with
  |nil=>exact⟨_,_,rfl⟩
  |cons a b=>exact⟨_,_,rfl⟩
 refine(Cx.start ps).call (p:=⟨Int×Int×Int×ByteArray,fun x=>(.tuple #[(.agg #[(.int .i64 x.1),(.int .i64 x.2.1),(.int .i64 x.2.2.1),(.string x.2.2.2)]),.nilIface])⟩) (by rw[hv];exact expect_ok E (ok,eB) v1 v2 ok rfl) fun x1 H1 _ c1=>?_
 rw[←hv] at c1
 refine c1.tok rfl fun H2 y2 hb2 c2=>?_
 have l0:Lst E H2 H2 (l.flatMap ts++(ck,eB)::u::r) tq20 (none,0,0) ifV Q [] []:=Lst.nil E c2.ps _ _ _
 refine⟨fun y H'=> ∃(done rest:List Tr) (bs:List (Nat×Nat)),l=done++rest∧Lst E H2 H' (rest.flatMap ts++(ck,eB)::u::r) tq20 y.1 ifV Q bs done,fun y _=>l.length -y.1.2.1,⟨[],l,[],rfl,l0⟩,?_⟩
 rintro⟨⟨xa,xn,xc⟩,_⟩ H3 ⟨done,rest,bs,hl,l3⟩
 dsimp only at l3⊢
 have hn:=l3.own.1
 simp only[List.length_map,Nat.mul_one] at hn
 have hbl:=l3.facts.len
 have hll:=congrArg List.length hl
 simp only[List.length_append] at hll
 cases rest with
 |nil=>
  simp only[List.flatMap_nil,List.nil_append] at l3
  refine l3.call1 (skip_yes E (ck,eB) u r ck rfl) true rfl fun H4 l4=>?_
  refine fkI (fun _=>?_) (fun hh=>absurd hh (by decide))
  refine⟨(false,()),?_,fkI (fun hh=>absurd hh (by decide)) (fun _=>?_)⟩
  ·refine fkI (fun hzt=>⟨?_,rfl⟩) (fun _=>⟨rfl,rfl⟩)
   have h0:0<l.length:=List.length_pos_iff.2 (hz hzt)
   simp only[List.length_nil] at hll
   simp only[Prod.mk.injEq,and_true,beq_eq_false_iff_ne]
   omega
  ·have c4:=l4.fin
   rw[List.append_nil] at hl
   refine rkI ⟨(xa,xn,xc),bs,rfl,(c2.trans c4).weak fun G hG=>⟨hG.2.1,by rw[hl];exact hG.2.2⟩⟩
 |cons t rest=>
  obtain⟨h,hr,hts,hfo,hne⟩:=hF t (by rw[hl];simp)
  have e1:(t::rest).flatMap ts++(ck,eB)::u::r=ts t++(rest.flatMap ts++(ck,eB)::u::r):=by simp
  rw[e1] at l3
  have e2:ts t++(rest.flatMap ts++(ck,eB)::u::r)=h::(hr++(rest.flatMap ts++(ck,eB)::u::r)):=by rw[hts];rfl
  have l3':=l3
  rw[e2] at l3'
  refine l3'.call1 (skip_no E h _ ck hne) false rfl fun H4 l4=>?_
  refine fkI (fun hh=>absurd hh (by decide)) (fun _=>?_)
  rw[←e2] at l4
  obtain⟨w1,w2,hw,hwf⟩: ∃w1 w2,rest.flatMap ts++(ck,eB)::u::r=w1::w2∧Fo w1:=by
   cases rest with
   |nil=>exact⟨_,_,rfl,hc⟩
   |cons t2 rest2=>
    obtain⟨h2,hr2,hts2,hfo2,_⟩:=hF t2 (by rw[hl];simp)
    exact⟨h2,_,by simp[hts2];rfl,hfo2⟩
  rw[hw] at l4
  refine l4.call (p:=⟨(Nat×Nat),fun x=>(.tuple #[(.iface x.1 (.pointer (some ⟨x.2,0,none⟩))),.nilIface])⟩) (hP t (by rw[hl];simp) w1 w2 hwf) fun y H5 l5 f5=>?_
  refine l5.push (b:=y) (m:=t) (by unfold plainT;decide) (fun _=>rfl) 16 (by decide) (by omega) f5 fun a c H6 l6=>?_
  rw[←hw] at l6
  refine⟨⟨done++[t],rest,bs++[y],by rw[hl];simp,l6⟩,?_⟩
  simp only[List.length_cons] at hll
  omega
theorem conv_loop (T eT:Nat) (he:plainT eT) (E:PEnv) {A H:Heap} {l:List KV} {x:Sl} {bs:List Nat} {Q:Nat→Tr→Heap→Prop} {ms:List Tr} (c:Cx E A H l fun G=>SlAt x (bs.map fun b=>ifV (T,b)) G∧All2 (fun b t=>Q b t G) bs ms) (hlen:bs.length≤1000)
 {A0 H3:Heap} (hA:Ext E.S A0 A) (pa0:E.p<A0.size∧E.prev<A0.size) (x3:Ext [] H H3) {b0:Nat} (h0:H3[b0]?=some (.cells #[] eT)) (hb0:A0.size≤b0) (hb1:b0<A.size∨H.size≤b0)
 {K:Sl→Heap→Prop} (hk: ∀y H',Cx E A0 H' l (fun G=>SlAt y (bs.map ptV) G∧All2 (fun b t=>Q b t G) bs ms)→K y H'):
 loopK (Sl×Int×Unit) (((some ⟨b0,0,none⟩),0,0),0,()) H3 fun z7 H8 next9=>
 forkB (decide (z7.2.1<((x.2.1:Nat):Int)))
 ((IxOk x.1 z7.2.1 x.2.1)∧
   loadW H8 false 1 ⟨(blkOf x.1),(offOf x.1+z7.2.1.toNat*1),none⟩ ⟨Nat,fun x=>(.iface T (.pointer (some ⟨x,0,none⟩)))⟩ fun(x10:Nat)=>
   newB H8 (.cells #[(.pointer (some ⟨x10,0,none⟩))] eT) fun b11 H12=>
   appK H12 eT 1 8 z7.1.1 z7.1.2.1 z7.1.2.2 (some ⟨b11,0,none⟩) 1 fun a13 c14 H15=>
   next9 ((a13,(z7.1.2.1+1),c14),(IntKind.i64.wrap (z7.2.1+1)),()) H15)
 (K z7.1 H8):=by
 have hsl:=c.self.1
 have hxn:x.2.1=bs.length:=by have:=hsl.1;simpa using this
 refine⟨fun z H'=> ∃k:Nat,z.2.1=k∧k≤bs.length∧z.1.2.1=k∧PS E H' l∧Ext [b0] H3 H'∧OwnS H' eT 1 z.1.1 z.1.2.1 z.1.2.2 ((bs.take k).map ptV)∧(∀r,rowOf z.1.1=some r→r=b0∨H3.size≤r),fun z _=>bs.length -z.2.1.toNat,
  ⟨0,rfl,Nat.zero_le _,rfl,c.ps.grow x3,Ext.refl _ _,⟨by simp,.inr ⟨b0,#[],rfl,h0,Nat.le_refl _,Nat.zero_le _,rfl,rfl⟩⟩,fun r hr=> .inl (by cases hr;rfl)⟩,?_⟩
 rintro⟨⟨a,n,cc⟩,_,_⟩ H2 ⟨k,hk1,hkl,hk2,ps2,x2,o2,hr2⟩
 dsimp only at hk1 hk2 o2 hr2⊢
 subst hk1;subst hk2
 have bne: ∀q:Nat,A.size≤q→q<H.size→q∉ [b0]:=fun q hq hq2=>ne_mem (by omega)
 have z3:=x3.size
 have keep: ∀G:Heap,(∀(q:Nat) (o:Obj),A.size≤q→H2[q]?=some o→G[q]?=some o)→SlAt x (bs.map fun b=>ifV (T,b)) G∧All2 (fun b t=>Q b t G) bs ms:=fun G hG=>c.born G fun q o hq ho=>hG q o hq (x2.get _ _ (x3.get _ _ ho (by simp)) (bne q hq (lt_of_get ho)))
 refine fkI (fun hlt=>?_) (fun hge=>?_)
 ·have hlt':n<bs.length:=by simp at hlt;omega
  have hi:(bs.map fun b=>ifV (T,b))[n]?=some (ifV (T,bs[n])):=by simp[hlt']
  have sl2:SlcAt H2 x.1 x.2.1 (bs.map fun b=>ifV (T,b)):=(keep H2 fun _ _ _ ho=>ho).1
  have hL:=sl2.load hi
  refine⟨hL.1,bs[n],hL.2,?_⟩
  refine nbI fun H5 e3 hb3 x5 s3=>?_
  have o3:=o2.ext x5 (by simp)
  have hml:1000000≤maxLen:=by decide
  refine .inr ⟨_,_,o3,NewsS.of_block hb3 rfl,?_,by omega,by omega,?_⟩
  ·intro u hu;simp at hu;subst hu;rfl
  intro a4 c4 H4 o4 g4 _ hrow4
  have hne: ∀q,rowOf a=some q→ ∃c e' fr,H5[q]?=some (.cells c e' fr)∧e'≠tq92∧e'≠tq3∧e'≠tq88∧e'≠tq145∧e'≠tq5:=by
   intro q hq
   obtain⟨cur,_,hg',_⟩:=o3.row hq
   exact⟨_,_,_,hg',he⟩
  rw[wrap1 (k:=n) (by omega)]
  refine⟨⟨n+1,rfl,hlt',rfl,(ps2.grow x5).row g4 hne (fun q hq=>by
   have:=hA.size;have:=c.ext.size
   rcases hr2 q hq with h5|h5<;>omega),?_,?_,?_⟩,by omega⟩
  ·refine⟨by have:=x2.size;have:=x5.size;have:=g4.size;omega,fun q o hq hn=>?_⟩
   have h2:=x5.get _ _ (x2.get _ _ hq hn) (by simp)
   rw[g4.block q (lt_of_get h2) fun eq=>?_,h2]
   rcases hr2 q eq.symm with h5|h5
   ·subst h5;simp at hn
   ·have:=lt_of_get hq;omega
  ·have ht:bs.take (n+1)=bs.take n++[bs[n]]:=List.take_succ_eq_append_getElem hlt'
   rw[ht,List.map_append]
   exact o4
  ·intro r hr
   rcases hrow4 with h5|h5
   ·exact hr2 r (by rw[←h5];exact hr)
   ·rw[h5] at hr;cases hr;right;have:=x2.size;omega
 ·obtain rfl:n=bs.length:=by simp at hge;omega
  rw[List.take_length] at o2
  have hsz:=hA.size
  refine hk _ _ ⟨ps2,?_,pa0,fun G hG=>⟨?_,(keep G fun q o hq ho=>hG q o (by omega) ho).2⟩⟩
  ·refine⟨by have:=c.ext.size;have:=x2.size;omega,fun q o hq hn=>x2.get _ _ (x3.get _ _ (c.ext.get _ _ (hA.get _ _ hq hn) hn) (by simp)) (ne_mem ?_)⟩
   have:=lt_of_get hq;omega
  ·have hs:=SlcAt.of_own o2
   refine⟨hs.1,hs.2.imp id ?_⟩
   rintro⟨g,o,c',e',fr,ha,hg,hr⟩
   refine⟨g,o,c',e',fr,ha,hG _ _ ?_ hg,hr⟩
   have:=c.ext.size
   rcases hr2 g (by rw[ha];rfl) with h5|h5<;>omega
theorem conv_loopI (eT aT:Nat) (VT:Nat→Prop) (he:plainT eT) (hAs: ∀x:Nat×Nat,VT x.1→ ∀w,(Instr.typeAssert (ifV x) tq20 aT false).run PP w= .ok (asV (ifV x) false) w) (E:PEnv) {A H:Heap} {l:List KV} {x:Sl} {bs:List (Nat×Nat)} {Q:Nat×Nat→Tr→Heap→Prop} (hV: ∀b∈bs,VT b.1) {ms:List Tr} (c:Cx E A H l fun G=>SlAt x (bs.map ifV) G∧All2 (fun b t=>Q b t G) bs ms) (hlen:bs.length≤1000)
 {A0 H3:Heap} (hA:Ext E.S A0 A) (pa0:E.p<A0.size∧E.prev<A0.size) (x3:Ext [] H H3) {b0:Nat} (h0:H3[b0]?=some (.cells #[] eT)) (hb0:A0.size≤b0) (hb1:b0<A.size∨H.size≤b0)
 {K:Sl→Heap→Prop} (hk: ∀y H',Cx E A0 H' l (fun G=>SlAt y (bs.map ifV) G∧All2 (fun b t=>Q b t G) bs ms)→K y H'):
 loopK (Sl×Int×Unit) (((some ⟨b0,0,none⟩),0,0),0,()) H3 fun z7 H8 next9=>
 forkB (decide (z7.2.1<((x.2.1:Nat):Int)))
 ((IxOk x.1 z7.2.1 x.2.1)∧
   loadW H8 false 1 ⟨(blkOf x.1),(offOf x.1+z7.2.1.toNat*1),none⟩ ⟨(Nat×Nat),fun x=>(.iface x.1 (.pointer (some ⟨x.2,0,none⟩)))⟩ fun(x10:(Nat×Nat))=>
   asW PP (.iface x10.1 (.pointer (some ⟨x10.2,0,none⟩))) tq20 aT false (
   newB H8 (.cells #[(.iface x10.1 (.pointer (some ⟨x10.2,0,none⟩)))] eT) fun b11 H12=>
   appK H12 eT 1 16 z7.1.1 z7.1.2.1 z7.1.2.2 (some ⟨b11,0,none⟩) 1 fun a13 c14 H15=>
   next9 ((a13,(z7.1.2.1+1),c14),(IntKind.i64.wrap (z7.2.1+1)),()) H15))
 (K z7.1 H8):=by
 have hsl:=c.self.1
 have hxn:x.2.1=bs.length:=by have:=hsl.1;simpa using this
 refine⟨fun z H'=> ∃k:Nat,z.2.1=k∧k≤bs.length∧z.1.2.1=k∧PS E H' l∧Ext [b0] H3 H'∧OwnS H' eT 1 z.1.1 z.1.2.1 z.1.2.2 ((bs.take k).map ifV)∧(∀r,rowOf z.1.1=some r→r=b0∨H3.size≤r),fun z _=>bs.length -z.2.1.toNat,
  ⟨0,rfl,Nat.zero_le _,rfl,c.ps.grow x3,Ext.refl _ _,⟨by simp,.inr ⟨b0,#[],rfl,h0,Nat.le_refl _,Nat.zero_le _,rfl,rfl⟩⟩,fun r hr=> .inl (by cases hr;rfl)⟩,?_⟩
 rintro⟨⟨a,n,cc⟩,_,_⟩ H2 ⟨k,hk1,hkl,hk2,ps2,x2,o2,hr2⟩
 dsimp only at hk1 hk2 o2 hr2⊢
 subst hk1;subst hk2
 have bne: ∀q:Nat,A.size≤q→q<H.size→q∉ [b0]:=fun q hq hq2=>ne_mem (by omega)
 have z3:=x3.size
 have keep: ∀G:Heap,(∀(q:Nat) (o:Obj),A.size≤q→H2[q]?=some o→G[q]?=some o)→SlAt x (bs.map ifV) G∧All2 (fun b t=>Q b t G) bs ms:=fun G hG=>c.born G fun q o hq ho=>hG q o hq (x2.get _ _ (x3.get _ _ ho (by simp)) (bne q hq (lt_of_get ho)))
 refine fkI (fun hlt=>?_) (fun hge=>?_)
 ·have hlt':n<bs.length:=by simp at hlt;omega
  have hi:(bs.map ifV)[n]?=some (ifV bs[n]):=by simp[hlt']
  have sl2:SlcAt H2 x.1 x.2.1 (bs.map ifV):=(keep H2 fun _ _ _ ho=>ho).1
  have hL:=sl2.load hi
  refine⟨hL.1,bs[n],hL.2,hAs _ (hV _ (List.getElem_mem hlt')),?_⟩
  refine nbI fun H5 e3 hb3 x5 s3=>?_
  have o3:=o2.ext x5 (by simp)
  have hml:1000000≤maxLen:=by decide
  refine .inr ⟨_,_,o3,NewsS.of_block hb3 rfl,?_,by omega,by omega,?_⟩
  ·intro u hu;simp at hu;subst hu;rfl
  intro a4 c4 H4 o4 g4 _ hrow4
  have hne: ∀q,rowOf a=some q→ ∃c e' fr,H5[q]?=some (.cells c e' fr)∧e'≠tq92∧e'≠tq3∧e'≠tq88∧e'≠tq145∧e'≠tq5:=by
   intro q hq
   obtain⟨cur,_,hg',_⟩:=o3.row hq
   exact⟨_,_,_,hg',he⟩
  rw[wrap1 (k:=n) (by omega)]
  refine⟨⟨n+1,rfl,hlt',rfl,(ps2.grow x5).row g4 hne (fun q hq=>by
   have:=hA.size;have:=c.ext.size
   rcases hr2 q hq with h5|h5<;>omega),?_,?_,?_⟩,by omega⟩
  ·refine⟨by have:=x2.size;have:=x5.size;have:=g4.size;omega,fun q o hq hn=>?_⟩
   have h2:=x5.get _ _ (x2.get _ _ hq hn) (by simp)
   rw[g4.block q (lt_of_get h2) fun eq=>?_,h2]
   rcases hr2 q eq.symm with h5|h5
   ·subst h5;simp at hn
   ·have:=lt_of_get hq;omega
  ·have ht:bs.take (n+1)=bs.take n++[bs[n]]:=List.take_succ_eq_append_getElem hlt'
   rw[ht,List.map_append]
   exact o4
  ·intro r hr
   rcases hrow4 with h5|h5
   ·exact hr2 r (by rw[←h5];exact hr)
   ·rw[h5] at hr;cases hr;right;have:=x2.size;omega
 ·obtain rfl:n=bs.length:=by simp at hge;omega
  rw[List.take_length] at o2
  have hsz:=hA.size
  refine hk _ _ ⟨ps2,?_,pa0,fun G hG=>⟨?_,(keep G fun q o hq ho=>hG q o (by omega) ho).2⟩⟩
  ·refine⟨by have:=c.ext.size;have:=x2.size;omega,fun q o hq hn=>x2.get _ _ (x3.get _ _ (c.ext.get _ _ (hA.get _ _ hq hn) hn) (by simp)) (ne_mem ?_)⟩
   have:=lt_of_get hq;omega
  ·have hs:=SlcAt.of_own o2
   refine⟨hs.1,hs.2.imp id ?_⟩
   rintro⟨g,o,c',e',fr,ha,hg,hr⟩
   refine⟨g,o,c',e',fr,ha,hG _ _ ?_ hg,hr⟩
   have:=c.ext.size
   rcases hr2 g (by rw[ha];rfl) with h5|h5<;>omega
theorem bs_typed {T:Nat} {bs:List (Nat×Nat)} (h: ∀b∈bs,b.1=T):bs.map ifV=(bs.map (·.2)).map fun b=>ifV (T,b):=by
 rw[List.map_map]
 apply List.map_congr_left
 intro b hb
 simp only[Function.comp_apply]
 rw[←h b hb]
theorem All2.left {α β:Type} {R:α→β→Prop} {P:α→Prop} (hp: ∀a b,R a b→P a) {l:List α} {m:List β} (h:All2 R l m): ∀a∈l,P a:=by
 induction h with
 |nil=>intro a h;simp at h
 |cons h _ ih=>
  intro a ha
  rcases List.mem_cons.1 ha with rfl|ha
  ·exact hp _ _ h
  ·exact ih a ha
abbrev KK:=List (Nd×List KV)
def optK (b:Option KV):List KV:=b.toList
def selK (kinds:List Int) (kk:KK):KK:=kk.filter fun x=>decide (x.1.kind∈kinds)
def sepK (s:Option KV):KK→List KV
 |[]=> []
 |[x]=>x.2
 |x::y::r=>x.2++(optK s++sepK s (y::r))
def kidsK (b e s:Option KV) (kinds:List Int) (kk:KK):List KV:=match selK kinds kk with
 |[]=> []
 |x::r=>optK b++sepK s (x::r)++optK e
def firstK (b:Option KV) (is_:Nd→Bool) (kk:KK):List KV:=match kk.find? fun x=>is_ x.1 with
 |none=> []
 |some x=>optK b++x.2
def allK (kk:KK):List KV:=kk.flatMap fun x=>x.2
abbrev nmK (s:ByteArray):KV:=(15,s)
def dirsK (kk:KK):List KV:=kidsK none none none [10] kk
def selsK (kk:KK):List KV:=kidsK none none none [5] kk
abbrev kPL:KV:=(4,eB)
abbrev kPR:KV:=(5,eB)
abbrev kDots:KV:=(6,eB)
abbrev kCol:KV:=(7,eB)
abbrev kEq:KV:=(8,eB)
abbrev kAt:KV:=(9,eB)
abbrev kSL:KV:=(10,eB)
abbrev kSR:KV:=(11,eB)
abbrev kBL:KV:=(12,eB)
abbrev kPipe:KV:=(13,eB)
abbrev kBR:KV:=(14,eB)
abbrev kAmp:KV:=(20,eB)
abbrev kBang:KV:=(2,eB)
abbrev kDol:KV:=(3,eB)
def defK (n:Nd) (kk:KK):List KV:=kidsK none none none [23] kk++
 (if n.kind=24 then[nmK wSchema]++(dirsK kk++(kidsK (some kBL) (some kBR) none [25] kk++[]))
 else if n.kind=25 then[nmK n.text,kCol,nmK n.name]++[]
 else if n.kind=26 then[nmK wScalar,nmK n.name]++(dirsK kk++[])
 else if n.kind=27 then[nmK wType,nmK n.name]++(kidsK (some (nmK wImplements)) none (some kAmp) [28] kk++(dirsK kk++(kidsK (some kBL) (some kBR) none [29] kk++[])))
 else if n.kind=31 then[nmK wInterface,nmK n.name]++(dirsK kk++(kidsK (some kBL) (some kBR) none [29] kk++[]))
 else if n.kind=29 then[nmK n.name]++(kidsK (some kPL) (some kPR) none [30] kk++(firstK (some kCol) isTypeM kk++(dirsK kk++[])))
 else if n.kind=30 then[nmK n.name]++(firstK (some kCol) isTypeM kk++(firstK (some kEq) isValueM kk++(dirsK kk++[])))
 else if n.kind=32 then[nmK wUnion,nmK n.name]++(dirsK kk++(kidsK (some kEq) none (some kPipe) [33] kk++[]))
 else if n.kind=34 then[nmK wEnum,nmK n.name]++(dirsK kk++(kidsK (some kBL) (some kBR) none [35] kk++[]))
 else if n.kind=35 then[nmK n.name]++(dirsK kk++[])
 else if n.kind=36 then[nmK wInput,nmK n.name]++(dirsK kk++(kidsK (some kBL) (some kBR) none [30] kk++[]))
 else if n.kind=37 then[nmK wDirective,kAt,nmK n.name]++(kidsK (some kPL) (some kPR) none [30] kk++(kidsK (some (nmK onB)) none (some kPipe) [38] kk++[]))
 else if n.kind=39 then[nmK wExtend]++(allK kk++[])
 else[])
def strK (n:Nd):KV:=if n.flag=1 then(19,n.text) else(18,n.text)
def numK (n:Nd):KV:=(n.kind+4,n.text)
def restK (n:Nd) (kk:KK):List KV:=
 if n.kind=11 then[kDol,nmK n.name]++[]
 else if n.kind=12∨n.kind=13 then[numK n]++[]
 else if n.kind=14∨n.kind=23 then[strK n]++[]
 else if n.kind=15 then[nmK (if n.flag=0 then falseB else trueB)]++[]
 else if n.kind=17 then[kSL]++(allK kk++([kSR]++[]))
 else if n.kind=18 then[kBL]++(allK kk++([kBR]++[]))
 else if n.kind=21 then[kSL]++(allK kk++([kSR]++[]))
 else if n.kind=22 then allK kk++([kBang]++[])
 else if n.kind=16∨n.kind=20∨n.kind=28∨n.kind=33∨n.kind=38 then[nmK n.name]++[]
 else defK n kk
def bodyK (n:Nd) (kk:KK):List KV:=
 if n.kind=1 then allK kk++[]
 else if n.kind=2 then(if n.flag=0 then[nmK n.text]++(if n.name=eB then[] else[nmK n.name]) else[])++(kidsK (some kPL) (some kPR) none [4] kk++(dirsK kk++(selsK kk++[])))
 else if n.kind=3 then[nmK wFragment,nmK n.name,nmK onB,nmK n.text]++(dirsK kk++(selsK kk++[]))
 else if n.kind=4 then[kDol,nmK n.name,kCol]++(firstK none isTypeM kk++(firstK (some kEq) isValueM kk++[]))
 else if n.kind=5 then kidsK (some kBL) (some kBR) none [6,7,8] kk++[]
 else if n.kind=6 then(if n.alias=eB then[] else[nmK n.alias,kCol])++([nmK n.name]++(kidsK (some kPL) (some kPR) none [9] kk++(dirsK kk++(selsK kk++[]))))
 else if n.kind=7 then[kDots,nmK n.name]++(dirsK kk++[])
 else if n.kind=8 then[kDots]++((if n.text=eB then[] else[nmK onB,nmK n.text])++(dirsK kk++(selsK kk++[])))
 else if n.kind=9∨n.kind=19 then[nmK n.name,kCol]++(firstK none isValueM kk++[])
 else if n.kind=10 then[kAt,nmK n.name]++(kidsK (some kPL) (some kPR) none [9] kk++[])
 else restK n kk
mutual
def kvs:Tr→List KV
 | .node n ks=>bodyK n (kvL ks)
def kvL:List Tr→KK
 |[]=> []
 |t::r=>(t.n,kvs t)::kvL r
end
theorem kvs_eq (t:Tr):kvs t=bodyK t.n (kvL t.ks):=by cases t;rfl
def TokR (s:ByteArray) (k:KV):Prop:=TokS s k∧s.size≤30000
abbrev TR:=All2 TokR
def KTR (kt:KT) (kk:KK):Prop:=All2 (fun x y=>x.1=y.1∧TR x.2 y.2) kt kk
theorem All2.app {α β:Type} {R:α→β→Prop} {l l':List α} {m m':List β} (h:All2 R l m) (k:All2 R l' m'):All2 R (l++l') (m++m'):=by
 induction h with
 |nil=>exact k
 |cons h _ ih=>exact .cons h ih
inductive OptR:ByteArray→Option KV→Prop
 |none:OptR eB none
 |some {s:ByteArray} {k:KV}:s≠eB→TokR s k→OptR s (some k)
theorem OptR.tr {b:ByteArray} {o:Option KV} (h:OptR b o):TR (optB b) (optK o):=by
 cases h with
 |none=>unfold optB;rw[if_pos rfl];exact .nil
 |some h1 h2=>unfold optB;rw[if_neg h1];exact .cons h2 .nil
theorem KTR.sel {kt:KT} {kk:KK} (h:KTR kt kk) (K:List Int):KTR (selM K kt) (selK K kk):=by
 induction h with
 |nil=>exact .nil
 |cons h _ ih=>
  rename_i a b l m _
  unfold selM selK at*
  rw[List.filter_cons,List.filter_cons,h.1]
  split
  ·exact .cons h ih
  ·exact ih
theorem KTR.sep {kt:KT} {kk:KK} (h:KTR kt kk) {s:ByteArray} {o:Option KV} (ho:OptR s o):TR (sepM s kt) (sepK o kk):=by
 induction h with
 |nil=>exact .nil
 |cons h hr ih=>
  cases hr with
  |nil=>exact h.2
  |cons h2 hr2=>exact h.2.app (ho.tr.app ih)
theorem KTR.kids {kt:KT} {kk:KK} (h:KTR kt kk) (K:List Int) {b e s:ByteArray} {ob oe os:Option KV} (hb:OptR b ob) (he:OptR e oe) (hs:OptR s os):TR (kidsM b e s K kt) (kidsK ob oe os K kk):=by
 have h1:=h.sel K
 unfold kidsM kidsK
 generalize selM K kt=x at h1
 generalize selK K kk=y at h1
 cases h1 with
 |nil=>exact .nil
 |cons h2 h3=>
  have:=(KTR.sep (.cons h2 h3) hs)
  exact(hb.tr.app this).app he.tr
theorem KTR.first {kt:KT} {kk:KK} (h:KTR kt kk) (p:Nd→Bool) {b:ByteArray} {ob:Option KV} (hb:OptR b ob):TR (firstM b p kt) (firstK ob p kk):=by
 unfold firstM firstK
 induction h with
 |nil=>exact .nil
 |cons h _ ih=>
  rename_i a b l m _
  simp only[List.find?_cons]
  rw[←h.1]
  cases p a.1 with
  |true=>exact hb.tr.app h.2
  |false=>exact ih
theorem KTR.all {kt:KT} {kk:KK} (h:KTR kt kk):TR (allM kt) (allK kk):=by
 unfold allM allK
 induction h with
 |nil=>exact .nil
 |cons h _ ih=>rw[List.flatMap_cons,List.flatMap_cons];exact h.2.app ih
theorem sgR {c:UInt8} {k:Int} (hk:(c,k)∈signL):TokR (bs [c]) (k,eB):=⟨tokS_sign hk,by rw[bs_size];simp⟩
theorem nmR {s:ByteArray} (h:NameP s) (hz:s.size≤4000):TokR s (nmK s):=⟨tokS_name h,by omega⟩
theorem wdR (l:List UInt8) (h0:l≠ []) (h: ∀j,j<l.length→nameC (bs l) j=true) (hz:l.length≤100):TokR (bs l) (nmK (bs l)):=⟨tokS_name (nameP_of l h0 h),by rw[bs_size];omega⟩
theorem opS {c:UInt8} {k:Int} (hk:(c,k)∈signL):OptR (bs [c]) (some (k,eB)):= .some (fun h=>by have:=congrArg ByteArray.size h;rw[bs_size,bs_size] at this;simp at this) (sgR hk)
theorem opWd (l:List UInt8) (h0:l≠ []) (h: ∀j,j<l.length→nameC (bs l) j=true) (hz:l.length≤100):OptR (bs l) (some (nmK (bs l))):=
 .some (fun he=>by have:=congrArg ByteArray.size he;rw[bs_size,bs_size] at this;exact h0 (List.eq_nil_of_length_eq_zero this)) (wdR l h0 h hz)
theorem dirsR {kt:KT} {kk:KK} (h:KTR kt kk):TR (dirsM kt) (dirsK kk):=h.kids _ .none .none .none
theorem selsR {kt:KT} {kk:KK} (h:KTR kt kk):TR (selsM kt) (selsK kk):=h.kids _ .none .none .none
theorem dotsR:TokR sDots kDots:=⟨tokS_dots,by decide⟩
theorem quoteGo_size (s:ByteArray): ∀(n k:Nat),s.size -k=n→k≤s.size→(quoteGo s k).size≤6*n+1:=by
 intro n
 induction n using Nat.strongRecOn with
 |_ n ih=>
  intro k hn hk
  have e1:(bs [34]).size=1:=rfl
  unfold quoteGo
  split
  ·rename_i h1
   split
   ·rw[e1];omega
   ·rename_i h2
    have hpt:=point_bytes (s:=s) (k:=k) (c:=(pointM s k).1) (n:=(pointM s k).2) rfl h2 h1
    have hc0:=pointM_nonneg s k
    have:=ih (s.size -(k+(pointM s k).2)) (by omega) (k+(pointM s k).2) rfl hpt.2
    rw[ByteArray.size_append]
    have hq:(quoteOne s k (pointM s k).1 (pointM s k).2).size≤6*(pointM s k).2:=by
     unfold quoteOne
     split
     ·rw[ByteArray.size_append,ByteArray.size_extract];have:(bs [92]).size=1:=rfl;omega
     ·split
      ·rename_i he
       have:=escM_size _ (hx_range _ hc0 he);omega
      ·rw[ByteArray.size_extract];omega
    omega
  ·rw[e1];omega
theorem quoteM_size (s:ByteArray):(quoteM s).size≤6*s.size+2:=by
 have:=quoteGo_size s s.size 0 rfl (Nat.zero_le _)
 unfold quoteM
 rw[ByteArray.size_append]
 have:(bs [34]).size=1:=rfl
 omega
theorem blockTextM_size {s:ByteArray} (h:BlockP s):(blockTextM s).size=s.size+8:=by
 have hgo:=blockGo_plain s.size 0 rfl (fun j _=>block_no3 0 h.1 j (Nat.zero_le _)) (Nat.zero_le _)
 unfold blockTextM
 rw[hgo,ByteArray.size_append,ByteArray.size_append,ByteArray.size_extract]
 have:(bs [34,34,34,10]).size=4:=rfl
 have:(bs [10,34,34,34]).size=4:=rfl
 omega
theorem strR {n:Nd} (h:n.flag=0∧TextP n.text∨n.flag=1∧BlockP n.text) (hz:n.text.size≤4000):TokR (if n.flag=1 then blockTextM n.text else quoteM n.text) (strK n):=by
 unfold strK
 rcases h with⟨h1,h2⟩|⟨h1,h2⟩
 ·rw[if_neg (by omega),if_neg (by omega)]
  exact⟨tokS_str h2 (by omega),by have:=quoteM_size n.text;omega⟩
 ·rw[if_pos h1,if_pos h1]
  exact⟨tokS_block h2 (by omega),by have:=blockTextM_size h2;omega⟩
theorem body_name {n:Nd} (h:BodyP n) (hk:n.kind=3∨n.kind=4∨n.kind=6∨n.kind=7∨9≤n.kind∧n.kind≤11∨n.kind=16∨n.kind=19∨n.kind=20∨25≤n.kind∧n.kind≤38):NameP n.name:=by
 cases h<;>first|assumption|(exfalso;omega)
theorem body_text {n:Nd} (h:BodyP n) (hk:n.kind=3):NameP n.text:=by
 cases h<;>first|assumption|(exfalso;omega)
theorem body_op {n:Nd} (h:BodyP n) (hk:n.kind=2∨n.kind=25):OpWord n.text:=by
 cases h<;>first|assumption|(exfalso;omega)
theorem body_opname {n:Nd} (h:BodyP n) (hk:n.kind=2):n.name=eB∨NameP n.name:=by
 cases h<;>first|assumption|(exfalso;omega)
theorem body_on {n:Nd} (h:BodyP n) (hk:n.kind=8):n.text=eB∨NameP n.text:=by
 cases h<;>first|assumption|(exfalso;omega)
theorem body_num {n:Nd} (h:BodyP n) (hk:n.kind=12∨n.kind=13):Num n.text 0 (n.kind+4) n.text.size:=by
 cases h<;>first|assumption|(exfalso;omega)
theorem body_str {n:Nd} (h:BodyP n) (hk:n.kind=14∨n.kind=23):n.flag=0∧TextP n.text∨n.flag=1∧BlockP n.text:=by
 cases h<;>first|assumption|(exfalso;omega)
theorem body_R {n:Nd} (hf:FormedP n) (hz:n.name.size≤4000∧n.alias.size≤4000∧n.text.size≤4000) {kt:KT} {kk:KK} (h:KTR kt kk):TR (bodyM n kt) (bodyK n kk):=by
 obtain⟨ha,hb⟩:=hf
 have nm:=fun hk=>nmR (body_name hb hk) hz.1
 have op:=fun hk=>nmR (opWord_name (body_op hb hk)) hz.2.2
 have pl:OptR sParL (some kPL):=opS (by decide)
 have pr:OptR sParR (some kPR):=opS (by decide)
 have bl:OptR sBraL (some kBL):=opS (by decide)
 have br:OptR sBraR (some kBR):=opS (by decide)
 have col:TokR sCol kCol:=sgR (by decide)
 unfold bodyM bodyK
 by_cases hk:n.kind=1
 ·rw[if_pos hk,if_pos hk]
  exact h.all.app .nil
 rw[if_neg hk,if_neg hk]
 by_cases hk:n.kind=2
 ·rw[if_pos hk,if_pos hk]
  refine All2.app ?_ ((h.kids _ pl pr .none).app ((dirsR h).app ((selsR h).app .nil)))
  split
  ·refine .cons (op (by omega)) ?_
   unfold optB
   split
   ·exact .nil
   ·rename_i hn
    rcases body_opname hb (by omega) with h1|h1
    ·exact absurd h1 hn
    ·exact .cons (nmR h1 hz.1) .nil
  ·exact .nil
 rw[if_neg hk,if_neg hk]
 by_cases hk:n.kind=3
 ·rw[if_pos hk,if_pos hk]
  exact .cons (wdR _ (by simp) (by decide) (by decide)) (.cons (nm (by omega)) (.cons (wdR _ (by simp) (by decide) (by decide)) (.cons (nmR (body_text hb (by omega)) hz.2.2) ((dirsR h).app ((selsR h).app .nil)))))
 rw[if_neg hk,if_neg hk]
 by_cases hk:n.kind=4
 ·rw[if_pos hk,if_pos hk]
  exact .cons (sgR (by decide)) (.cons (nm (by omega)) (.cons col ((h.first _ .none).app ((h.first _ (opS (by decide))).app .nil))))
 rw[if_neg hk,if_neg hk]
 by_cases hk:n.kind=5
 ·rw[if_pos hk,if_pos hk]
  exact(h.kids _ bl br .none).app .nil
 rw[if_neg hk,if_neg hk]
 by_cases hk:n.kind=6
 ·rw[if_pos hk,if_pos hk]
  refine All2.app ?_ (.cons (nm (by omega)) ((h.kids _ pl pr .none).app ((dirsR h).app ((selsR h).app .nil))))
  split
  ·exact .nil
  ·rename_i hn
   rcases ha with h1|h1
   ·exact absurd h1 hn
   ·exact .cons (nmR h1.2 hz.2.1) (.cons col .nil)
 rw[if_neg hk,if_neg hk]
 by_cases hk:n.kind=7
 ·rw[if_pos hk,if_pos hk]
  exact .cons dotsR (.cons (nm (by omega)) ((dirsR h).app .nil))
 rw[if_neg hk,if_neg hk]
 by_cases hk:n.kind=8
 ·rw[if_pos hk,if_pos hk]
  show TR (sDots::((if n.text=eB then[] else[onB,n.text])++(dirsM kt++(selsM kt++[])))) (kDots::((if n.text=eB then[] else[nmK onB,nmK n.text])++(dirsK kk++(selsK kk++[]))))
  refine .cons dotsR (All2.app ?_ ((dirsR h).app ((selsR h).app .nil)))
  split
  ·exact .nil
  ·rename_i hn
   rcases body_on hb (by omega) with h1|h1
   ·exact absurd h1 hn
   ·exact .cons (wdR _ (by simp) (by decide) (by decide)) (.cons (nmR h1 hz.2.2) .nil)
 rw[if_neg hk,if_neg hk]
 by_cases hk:n.kind=9∨n.kind=19
 ·rw[if_pos hk,if_pos hk]
  exact .cons (nm (by omega)) (.cons col ((h.first _ .none).app .nil))
 rw[if_neg hk,if_neg hk]
 by_cases hk:n.kind=10
 ·rw[if_pos hk,if_pos hk]
  exact .cons (sgR (by decide)) (.cons (nm (by omega)) ((h.kids _ pl pr .none).app .nil))
 rw[if_neg hk,if_neg hk]
 unfold restM restK
 by_cases hk:n.kind=11
 ·rw[if_pos hk,if_pos hk]
  exact .cons (sgR (by decide)) (.cons (nm (by omega)) .nil)
 rw[if_neg hk,if_neg hk]
 by_cases hk:n.kind=12∨n.kind=13
 ·rw[if_pos hk,if_pos hk]
  refine .cons ⟨?_,by omega⟩ .nil
  exact tokS_num (body_num hb (by assumption))
 rw[if_neg hk,if_neg hk]
 by_cases hk:n.kind=14∨n.kind=23
 ·rw[if_pos hk,if_pos hk]
  exact .cons (strR (body_str hb (by assumption)) hz.2.2) .nil
 rw[if_neg hk,if_neg hk]
 by_cases hk:n.kind=15
 ·rw[if_pos hk,if_pos hk]
  refine .cons ?_ .nil
  split
  ·exact wdR _ (by simp) (by decide) (by decide)
  ·exact wdR _ (by simp) (by decide) (by decide)
 rw[if_neg hk,if_neg hk]
 by_cases hk:n.kind=17
 ·rw[if_pos hk,if_pos hk]
  exact .cons (sgR (by decide)) (h.all.app (.cons (sgR (by decide)) .nil))
 rw[if_neg hk,if_neg hk]
 by_cases hk:n.kind=18
 ·rw[if_pos hk,if_pos hk]
  exact .cons (sgR (by decide)) (h.all.app (.cons (sgR (by decide)) .nil))
 rw[if_neg hk,if_neg hk]
 by_cases hk:n.kind=21
 ·rw[if_pos hk,if_pos hk]
  exact .cons (sgR (by decide)) (h.all.app (.cons (sgR (by decide)) .nil))
 rw[if_neg hk,if_neg hk]
 by_cases hk:n.kind=22
 ·rw[if_pos hk,if_pos hk]
  exact h.all.app (.cons (sgR (by decide)) .nil)
 rw[if_neg hk,if_neg hk]
 by_cases hk:n.kind=16∨n.kind=20∨n.kind=28∨n.kind=33∨n.kind=38
 ·rw[if_pos hk,if_pos hk]
  exact .cons (nm (by omega)) .nil
 rw[if_neg hk,if_neg hk]
 unfold defM defK
 refine(h.kids _ .none .none .none).app ?_
 by_cases hk:n.kind=24
 ·rw[if_pos hk,if_pos hk]
  exact .cons (wdR _ (by simp) (by decide) (by decide)) ((dirsR h).app ((h.kids _ bl br .none).app .nil))
 rw[if_neg hk,if_neg hk]
 by_cases hk:n.kind=25
 ·rw[if_pos hk,if_pos hk]
  exact .cons (op (by omega)) (.cons col (.cons (nm (by omega)) .nil))
 rw[if_neg hk,if_neg hk]
 by_cases hk:n.kind=26
 ·rw[if_pos hk,if_pos hk]
  exact .cons (wdR _ (by simp) (by decide) (by decide)) (.cons (nm (by omega)) ((dirsR h).app .nil))
 rw[if_neg hk,if_neg hk]
 by_cases hk:n.kind=27
 ·rw[if_pos hk,if_pos hk]
  exact .cons (wdR _ (by simp) (by decide) (by decide)) (.cons (nm (by omega)) ((h.kids _ (opWd _ (by simp) (by decide) (by decide)) .none (opS (by decide))).app ((dirsR h).app ((h.kids _ bl br .none).app .nil))))
 rw[if_neg hk,if_neg hk]
 by_cases hk:n.kind=31
 ·rw[if_pos hk,if_pos hk]
  exact .cons (wdR _ (by simp) (by decide) (by decide)) (.cons (nm (by omega)) ((dirsR h).app ((h.kids _ bl br .none).app .nil)))
 rw[if_neg hk,if_neg hk]
 by_cases hk:n.kind=29
 ·rw[if_pos hk,if_pos hk]
  exact .cons (nm (by omega)) ((h.kids _ pl pr .none).app ((h.first _ (opS (by decide))).app ((dirsR h).app .nil)))
 rw[if_neg hk,if_neg hk]
 by_cases hk:n.kind=30
 ·rw[if_pos hk,if_pos hk]
  exact .cons (nm (by omega)) ((h.first _ (opS (by decide))).app ((h.first _ (opS (by decide))).app ((dirsR h).app .nil)))
 rw[if_neg hk,if_neg hk]
 by_cases hk:n.kind=32
 ·rw[if_pos hk,if_pos hk]
  exact .cons (wdR _ (by simp) (by decide) (by decide)) (.cons (nm (by omega)) ((dirsR h).app ((h.kids _ (opS (by decide)) .none (opS (by decide))).app .nil)))
 rw[if_neg hk,if_neg hk]
 by_cases hk:n.kind=34
 ·rw[if_pos hk,if_pos hk]
  exact .cons (wdR _ (by simp) (by decide) (by decide)) (.cons (nm (by omega)) ((dirsR h).app ((h.kids _ bl br .none).app .nil)))
 rw[if_neg hk,if_neg hk]
 by_cases hk:n.kind=35
 ·rw[if_pos hk,if_pos hk]
  exact .cons (nm (by omega)) ((dirsR h).app .nil)
 rw[if_neg hk,if_neg hk]
 by_cases hk:n.kind=36
 ·rw[if_pos hk,if_pos hk]
  exact .cons (wdR _ (by simp) (by decide) (by decide)) (.cons (nm (by omega)) ((dirsR h).app ((h.kids _ bl br .none).app .nil)))
 rw[if_neg hk,if_neg hk]
 by_cases hk:n.kind=37
 ·rw[if_pos hk,if_pos hk]
  exact .cons (wdR _ (by simp) (by decide) (by decide)) (.cons (sgR (by decide)) (.cons (nm (by omega)) ((h.kids _ pl pr .none).app ((h.kids _ (opWd _ (by simp) (by decide) (by decide)) .none (opS (by decide))).app .nil))))
 rw[if_neg hk,if_neg hk]
 by_cases hk:n.kind=39
 ·rw[if_pos hk,if_pos hk]
  exact .cons (wdR _ (by simp) (by decide) (by decide)) (h.all.app .nil)
 ·rw[if_neg hk,if_neg hk]
  exact .nil
def SmallT (t:Tr):Prop:= ∀u∈preT t,ndBytes u.n≤4000
theorem SmallT.kid {t k:Tr} (h:SmallT t) (hk:k∈t.ks):SmallT k:=fun u hu=>h u (preT_kid hk u hu)
theorem SmallT.self {t:Tr} (h:SmallT t):t.n.name.size≤4000∧t.n.alias.size≤4000∧t.n.text.size≤4000:=by
 have:=h t (preT_self t)
 simp only[ndBytes] at this
 omega
theorem toks_kvs (t:Tr) (hg:Good t) (hs:SmallT t):TR (toks t) (kvs t):=by
 have hk: ∀l:List Tr,(∀k∈l,k∈t.ks)→KTR (toksKT bodyM l) (kvL l):=by
  intro l
  induction l with
  |nil=>intro _;exact .nil
  |cons k r ih=>
   intro h
   have hkm:=h k (by simp)
   exact .cons ⟨rfl,toks_kvs k (hg.kid hkm) (hs.kid hkm)⟩ (ih fun x hx=>h x (by simp[hx]))
 rw[toks_eq,kvs_eq]
 exact body_R (hg t (preT_self t)).1 hs.self (hk t.ks fun _ h=>h)
 termination_by SizeOf.sizeOf t
 decreasing_by
 cases t with|node n ks=>
 have:=List.sizeOf_lt_of_mem hkm
 simp only[Tr.ks] at this
 simp;omega
theorem TR.toks {l:List ByteArray} {m:List KV} (h:TR l m):Toks l m∧(∀s∈l,s.size≤30000):=by
 induction h with
 |nil=>exact⟨.nil,by simp⟩
 |cons h _ ih=>
  refine⟨.cons h.1 ih.1,fun s hs=>?_⟩
  rcases List.mem_cons.1 hs with rfl|hs
  ·exact h.2
  ·exact ih.2 s hs
theorem kvL_append (a b:List Tr):kvL (a++b)=kvL a++kvL b:=by
 induction a with
 |nil=>rfl
 |cons x r ih=>simp[kvL,ih]
theorem selK_append (K:List Int) (a b:KK):selK K (a++b)=selK K a++selK K b:=List.filter_append ..
theorem selK_all {K L:List Int} {l:List Tr} (h:InK L l) (hs: ∀k∈L,k∈K):selK K (kvL l)=kvL l:=by
 induction l with
 |nil=>rfl
 |cons x r ih=>
  have h1:=ih fun y hy=>h y (by simp[hy])
  unfold selK at*
  simp only[kvL]
  rw[List.filter_cons,if_pos (by simpa using hs _ (h x (by simp))),h1]
def kvF (l:List Tr):List KV:=l.flatMap kvs
theorem kvF_cons (t:Tr) (l:List Tr):kvF (t::l)=kvs t++kvF l:=by simp[kvF]
theorem sepK_none: ∀l:List Tr,sepK none (kvL l)=kvF l
 |[]=>rfl
 |[x]=>by simp[kvL,sepK,kvF]
 |x::y::r=>by
  have:=sepK_none (y::r)
  simp only[kvL] at this⊢
  simp only[sepK,this,optK,Option.toList,List.nil_append]
  rw[kvF_cons x]
theorem allK_eq (l:List Tr):allK (kvL l)=kvF l:=by
 induction l with
 |nil=>rfl
 |cons x r ih=>simp only[kvL,allK,List.flatMap_cons,kvF] at*;rw[ih]
def brK (b e:Option KV) (l:List Tr):List KV:=if l=[] then[] else optK b++kvF l++optK e
theorem kidsK_sel {b e:Option KV} {K:List Int} {kk:KK} {l:List Tr} (h:selK K kk=kvL l):kidsK b e none K kk=brK b e l:=by
 unfold kidsK brK
 rw[h]
 cases l with
 |nil=>rfl
 |cons x r=>
  rw[if_neg (by simp)]
  have:=sepK_none (x::r)
  simp only[kvL] at this⊢
  rw[this]
theorem brK_none (l:List Tr):brK none none l=kvF l:=by
 unfold brK
 split
 ·rename_i h;subst h;rfl
 ·simp[optK]
theorem firstK_none {b:Option KV} {p:Nd→Bool}: ∀ {l:List Tr},(∀x∈l,p x.n=false)→firstK b p (kvL l)=[]
 |[],_=>rfl
 |x::r,h=>by
  have:=firstK_none (b:=b) (p:=p) (l:=r) fun y hy=>h y (by simp[hy])
  unfold firstK at*
  simp only[kvL,List.find?_cons,h x (by simp)]
  exact this
theorem firstK_some {b:Option KV} {p:Nd→Bool} {t:Tr} {r:List Tr} (ht:p t.n=true): ∀ {l:List Tr},(∀x∈l,p x.n=false)→firstK b p (kvL (l++t::r))=optK b++kvs t
 |[],_=>by simp[firstK,kvL,ht]
 |x::l,h=>by
  have:=firstK_some (b:=b) (r:=r) ht (l:=l) fun y hy=>h y (by simp[hy])
  unfold firstK at*
  simp only[List.cons_append,kvL,List.find?_cons,h x (by simp)]
  exact this
def Took (G:Heap) (tk:Nat) (H:Heap) (D X:List Nd) (v:Value) (H':Heap):Prop:=v= .tuple #[]∧KpT H H'∧ ∃Y,Sames Y X∧TkAt G H' tk (D++Y)
theorem Took.unit {G:Heap} {tk:Nat} {H:Heap} {D X:List Nd} {v:Value} {H':Heap} (h:Took G tk H D X v H'):v= .tuple #[]:=h.1
theorem Took.within {G H H':Heap} {tk:Nat} {D X:List Nd} {x:Nd} {v:Value} (h:Took G tk H (D++[x]) X v H') (hX:X.length≤10000):
 v= .tuple #[]∧KpT H H'∧ ∃W,W.length≤10000∧Sames W X∧TkAt G H' tk (D++x::W):=by
 obtain⟨h1,h2,Y,hY,hT⟩:=h
 exact⟨h1,h2,Y,by rw[hY.len];exact hX,hY,by simpa using hT⟩
theorem Took.zero {G H:Heap} {tk:Nat} {D:List Nd} (h:TkAt G H tk D):Took G tk H D [] (.tuple #[]) H:=⟨rfl,KpT.refl H,[],.nil,by simpa using h⟩
theorem Took.pre {G A H H':Heap} {tk:Nat} {D X:List Nd} {v:Value} (h:Took G tk H D X v H') (k:KpT A H):Took G tk A D X v H':=⟨h.1,k.trans h.2.1,h.2.2⟩
theorem Took.seq {G A H H':Heap} {tk:Nat} {D X Y Z:List Nd} {v:Value} (hk:KpT A H) (hY:Sames Y X) (h:Took G tk H (D++Y) Z v H'):Took G tk A D (X++Z) v H':=by
 obtain⟨h1,h2,W,hW,hT⟩:=h
 exact⟨h1,hk.trans h2,Y++W,hY.append hW,by rw[←List.append_assoc];exact hT⟩
theorem flat_leaf {t:Tr} (h:t.ks=[]) (hw:Ws t):flat t=[t.n]∧t.n.size=1:=by
 cases t with|node n ks=>
 simp only[Tr.ks] at h
 subst h
 have:=hw.size
 simp only[Tr.n,flat,flatL,List.length_singleton] at this
 exact⟨by simp[flat,flatL,Tr.n],this⟩
theorem flat_node (t:Tr):flat t=t.n::flatL t.ks:=by cases t;rfl
theorem same_leaf {t:Tr} (h:t.ks=[]) (hw:Ws t) (x:Nd) (h1:x.kind=t.n.kind) (h2:x.name=t.n.name) (h3:x.alias=t.n.alias) (h4:x.text=t.n.text) (h5:x.kind=15→x.flag=t.n.flag):Sames [x.sized 1] (flat t):=by
 obtain⟨e,hs⟩:=flat_leaf h hw
 rw[e]
 exact .cons ⟨h1,h2,h3,h4,hs.symm,h5⟩ .nil
theorem same_node {t:Tr} (hw:Ws t) {W:List Nd} (hW:Sames W (flatL t.ks)) (x:Nd) (h1:x.kind=t.n.kind) (h2:x.name=t.n.name) (h3:x.alias=t.n.alias) (h4:x.text=t.n.text) (h5:x.kind≠15):Sames (x.sized ((1+W.length:Nat):Int)::W) (flat t):=by
 have hs:=hw.size
 rw[flat_node] at hs⊢
 refine .cons ⟨h1,h2,h3,h4,?_,fun h=>absurd h h5⟩ hW
 rw[hs,hW.len]
 simp only[Nd.sized,List.length_cons]
 omega
theorem caps {G H:Heap} {tk:Nat} {D:List Nd} (h:TkAt G H tk D) (v:Nat) (eT:TypeId) {K:Nat→Nat→Heap→Prop}
 (hk: ∀b1 b3 H',Ext [] H H'→TkAt G H' tk D→H'[b1]?=some (.cells #[.pointer (some ⟨tk,0,none⟩)] tq60)→H'[b3]?=some (.cells #[.pointer (some ⟨v,0,none⟩)] eT)→K b1 b3 H'):
 newB H (.cells #[(.pointer (some ⟨tk,0,none⟩))] tq60) fun b1 H2=>newB H2 (.cells #[(.pointer none)] eT) fun b3 H4=>storeW H4 ⟨b3,0,none⟩ [(.pointer (some ⟨v,0,none⟩))] fun H5=>K b1 b3 H5:=by
 refine nbI fun H1 e1 hb1 x1 s1=>nbI fun H2 e2 hb2 x2 s2=>?_
 refine swI hb2 (by simp) rfl rfl fun H3 e3 hb3 x3 s3=>?_
 have y3:Ext [] H1 H3:=by rw[e3];exact x2.setNew (Nat.le_refl _) _
 exact hk _ _ H3 (x1.trans y3) (h.grow (x1.trans y3)) (y3.get _ _ hb1 (by simp)) hb3
theorem cap1 {G H:Heap} {tk:Nat} {D:List Nd} (h:TkAt G H tk D) (v:Nat) (eT:TypeId) {K:Nat→Heap→Prop}
 (hk: ∀b3 H',Ext [] H H'→TkAt G H' tk D→H'[b3]?=some (.cells #[.pointer (some ⟨v,0,none⟩)] eT)→K b3 H'):
 newB H (.cells #[(.pointer none)] eT) fun b3 H4=>storeW H4 ⟨b3,0,none⟩ [(.pointer (some ⟨v,0,none⟩))] fun H5=>K b3 H5:=by
 refine nbI fun H2 e2 hb2 x2 s2=>?_
 refine swI hb2 (by simp) rfl rfl fun H3 e3 hb3 x3 s3=>?_
 have y3:Ext [] H H3:=by rw[e3];exact x2.setNew (Nat.le_refl _) _
 exact hk _ H3 y3 (h.grow y3) hb3
def TakeV (T b:Nat) (X:List Nd) (G:Heap):Prop:= ∀(H:Heap) (tk:Nat) (D:List Nd),TkAt G H tk D→D.length+X.length≤5000→
 Fn PP fq119 #[.pointer (some ⟨tk,0,none⟩),.iface T (.pointer (some ⟨b,0,none⟩))] H (Took G tk H D X)
def TakeTy (T b:Nat) (X:List Nd) (G:Heap):Prop:= ∀(H:Heap) (tk:Nat) (D:List Nd),TkAt G H tk D→D.length+X.length≤5000→
 Fn PP fq118 #[.pointer (some ⟨tk,0,none⟩),.iface T (.pointer (some ⟨b,0,none⟩))] H (Took G tk H D X)
theorem leaf_step {G H:Heap} {tk:Nat} {D:List Nd} (h:TkAt G H tk D) (hD:D.length≤5000) {A:Heap} (hk:KpT A H) (lb:Nat) (hl:LocAt lb G) (x:Nd) {X:List Nd} (hX:Sames [x.sized 1] X):
 callW PP fq67 #[(.pointer (some ⟨tk,0,none⟩)),(.pointer (some ⟨lb,0,none⟩)),.agg x.val,.nilFunc] H ⟨Unit,fun _=>(.tuple #[])⟩ fun(_:Unit) H7=>retK (some []) H7 (Took G tk A D X):=by
 obtain⟨ls,le,lq,hl⟩:=hl
 refine(putNil_ok h (by omega) lb hl x).mono ?_
 rintro _ H3 ⟨rfl,k3,t3⟩
 exact⟨(),rfl,rkI ⟨rfl,hk.trans k3,_,hX,t3⟩⟩
section
variable {G:Heap} {b lb nb:Nat} {t:Tr}
theorem takeV_var (hl:LocAt lb G) (hn:NameAt nb t.n.name G) (hb:G[b]?=some (.cells #[.string kVariable,.pointer (some ⟨lb,0,none⟩),.pointer (some ⟨nb,0,none⟩)] tq176))
 (hk:t.n.kind=11) (ha:t.n.alias=eB) (hx:t.n.text=eB) (hks:t.ks=[]) (hw:Ws t):TakeV tq169 b (flat t) G:=by
 intro H tk D h hD
 obtain⟨lb2,_,hnm⟩:=hn
 refine valueVariable.enter tk b H _ ?_
 unfold valueVariable.W
 refine nbI fun H2 e2 hb2 x2 s2=>?_
 have t2:=h.grow x2
 have b2:=t2.ext.get _ _ hb (by simp)
 refine⟨_,lcO hb2 rfl,_,lcO b2 rfl,_,lcO b2 rfl,?_⟩
 refine(text_ok nb t.n.name H2 (t2.ext.get _ _ hnm (by simp))).mono ?_
 rintro _ _ ⟨rfl,rfl⟩
 refine⟨_,rfl,lcO b2 rfl,lcO hb2 rfl,?_⟩
 exact leaf_step t2 (by omega) x2.kpT lb hl ⟨11,t.n.name,eB,eB,0,0⟩ (same_leaf hks hw _ hk.symm rfl ha.symm hx.symm (fun h=>by simp at h))
theorem takeV_int (hl:LocAt lb G) (hb:G[b]?=some (.cells #[.string kIntValue,.pointer (some ⟨lb,0,none⟩),.string t.n.text] tq301))
 (hk:t.n.kind=12) (hn:t.n.name=eB) (ha:t.n.alias=eB) (hks:t.ks=[]) (hw:Ws t):TakeV tq300 b (flat t) G:=by
 intro H tk D h hD
 refine valueIntValue.enter tk b H _ ?_
 unfold valueIntValue.W
 refine nbI fun H2 e2 hb2 x2 s2=>?_
 have t2:=h.grow x2
 have b2:=t2.ext.get _ _ hb (by simp)
 refine⟨_,lcO hb2 rfl,_,lcO b2 rfl,_,lcO b2 rfl,?_⟩
 exact leaf_step t2 (by omega) x2.kpT lb hl ⟨12,eB,eB,t.n.text,0,0⟩ (same_leaf hks hw _ hk.symm hn.symm ha.symm rfl (fun h=>by simp at h))
theorem takeV_float (hl:LocAt lb G) (hb:G[b]?=some (.cells #[.string kFloatValue,.pointer (some ⟨lb,0,none⟩),.string t.n.text] tq303))
 (hk:t.n.kind=13) (hn:t.n.name=eB) (ha:t.n.alias=eB) (hks:t.ks=[]) (hw:Ws t):TakeV tq302 b (flat t) G:=by
 intro H tk D h hD
 refine valueFloatValue.enter tk b H _ ?_
 unfold valueFloatValue.W
 refine nbI fun H2 e2 hb2 x2 s2=>?_
 have t2:=h.grow x2
 have b2:=t2.ext.get _ _ hb (by simp)
 refine⟨_,lcO hb2 rfl,_,lcO b2 rfl,_,lcO b2 rfl,?_⟩
 exact leaf_step t2 (by omega) x2.kpT lb hl ⟨13,eB,eB,t.n.text,0,0⟩ (same_leaf hks hw _ hk.symm hn.symm ha.symm rfl (fun h=>by simp at h))
theorem takeV_str (hl:LocAt lb G) (hb:G[b]?=some (.cells #[.string kStringValue,.pointer (some ⟨lb,0,none⟩),.string t.n.text] tq183))
 (hk:t.n.kind=14) (hn:t.n.name=eB) (ha:t.n.alias=eB) (hks:t.ks=[]) (hw:Ws t):TakeV tq102 b (flat t) G:=by
 intro H tk D h hD
 refine valueStringValue.enter tk b H _ ?_
 unfold valueStringValue.W
 refine nbI fun H2 e2 hb2 x2 s2=>?_
 have t2:=h.grow x2
 have b2:=t2.ext.get _ _ hb (by simp)
 refine⟨_,lcO hb2 rfl,_,lcO b2 rfl,_,lcO b2 rfl,?_⟩
 exact leaf_step t2 (by omega) x2.kpT lb hl ⟨14,eB,eB,t.n.text,0,0⟩ (same_leaf hks hw _ hk.symm hn.symm ha.symm rfl (fun h=>by simp at h))
theorem takeV_enum (hl:LocAt lb G) (hb:G[b]?=some (.cells #[.string kEnumValue,.pointer (some ⟨lb,0,none⟩),.string t.n.name] tq308))
 (hk:t.n.kind=16) (hx:t.n.text=eB) (ha:t.n.alias=eB) (hks:t.ks=[]) (hw:Ws t):TakeV tq307 b (flat t) G:=by
 intro H tk D h hD
 refine valueEnumValue.enter tk b H _ ?_
 unfold valueEnumValue.W
 refine nbI fun H2 e2 hb2 x2 s2=>?_
 have t2:=h.grow x2
 have b2:=t2.ext.get _ _ hb (by simp)
 refine⟨_,lcO hb2 rfl,_,lcO b2 rfl,_,lcO b2 rfl,?_⟩
 exact leaf_step t2 (by omega) x2.kpT lb hl ⟨16,t.n.name,eB,eB,0,0⟩ (same_leaf hks hw _ hk.symm rfl ha.symm hx.symm (fun h=>by simp at h))
theorem takeV_bool {v:Bool} (hl:LocAt lb G) (hb:G[b]?=some (.cells #[.string kBooleanValue,.pointer (some ⟨lb,0,none⟩),.bool v] tq306))
 (hk:t.n.kind=15) (hn:t.n.name=eB) (hx:t.n.text=eB) (ha:t.n.alias=eB) (hf:t.n.flag=if v=true then 1 else 0) (hks:t.ks=[]) (hw:Ws t):TakeV tq304 b (flat t) G:=by
 intro H tk D h hD
 refine valueBooleanValue.enter tk b H _ ?_
 unfold valueBooleanValue.W
 refine nbI fun H2 e2 hb2 x2 s2=>nbI fun H3 e3 hb3 x3 s3=>?_
 refine swI hb3 (by simp) rfl rfl fun H4 e4 hb4 x4 s4=>?_
 have y4:Ext [] H2 H4:=by rw[e4];exact x3.setNew (Nat.le_refl _) _
 have hb4':H4[H2.size]?=some (.cells #[.int .i64 15,.string (bs []),.string (bs []),.string (bs []),.int .i64 0,.int .i64 0] tq41):=hb4
 have hb24:=y4.get _ _ hb2 (by simp)
 have t4:=h.grow (x2.trans y4)
 have b4:=t4.ext.get _ _ hb (by simp)
 refine⟨v,lcO b4 rfl,fkI (fun hv=>?_) (fun hv=>?_)⟩
 ·refine swI hb4' (by simp) rfl rfl fun H5 e5 hb5 x5 s5=>?_
  have hb5':H5[H2.size]?=some (.cells #[.int .i64 15,.string (bs []),.string (bs []),.string (bs []),.int .i64 1,.int .i64 0] tq41):=hb5
  have y5:Ext [] H H5:=by rw[e5];exact(x2.trans y4).setNew (by omega) _
  have t5:=h.grow y5
  have hb25:=x5.get _ _ hb24 (nm (by omega))
  have b5:=t5.ext.get _ _ hb (by simp)
  refine⟨_,lcO hb25 rfl,_,lcO b5 rfl,(15,bs [],bs [],bs [],1,0),lcO hb5' rfl,?_⟩
  exact leaf_step t5 (by omega) y5.kpT lb hl ⟨15,eB,eB,eB,1,0⟩ (same_leaf hks hw _ hk.symm hn.symm ha.symm hx.symm (fun _=>by rw[hf,if_pos hv]))
 ·refine⟨_,lcO hb24 rfl,_,lcO b4 rfl,(15,bs [],bs [],bs [],0,0),lcO hb4' rfl,?_⟩
  exact leaf_step t4 (by omega) (x2.trans y4).kpT lb hl ⟨15,eB,eB,eB,0,0⟩ (same_leaf hks hw _ hk.symm hn.symm ha.symm hx.symm (fun _=>by rw[hf,if_neg (by rw[hv];simp)]))
theorem takeTy_named (hF:NamedAt b t.n.name G) (hk:t.n.kind=20) (hx:t.n.text=eB) (ha:t.n.alias=eB) (hks:t.ks=[]) (hw:Ws t):TakeTy tq107 b (flat t) G:=by
 intro H tk D h hD
 obtain⟨lb2,nb2,hl,⟨lb3,_,hnm⟩,hb⟩:=hF
 refine typNamed.enter tk b H _ ?_
 unfold typNamed.W
 refine nbI fun H2 e2 hb2 x2 s2=>?_
 have t2:=h.grow x2
 have b2:=t2.ext.get _ _ hb (by simp)
 refine⟨_,lcO hb2 rfl,_,lcO b2 rfl,?_⟩
 refine(on_ok b nb2 t.n.name H2 b2 (t2.ext.get _ _ hnm (by simp))).mono ?_
 rintro _ _ ⟨rfl,rfl⟩
 refine⟨_,rfl,lcO b2 rfl,lcO hb2 rfl,?_⟩
 exact leaf_step t2 (by omega) x2.kpT lb2 hl ⟨20,t.n.name,eB,eB,0,0⟩ (same_leaf hks hw _ hk.symm rfl ha.symm hx.symm (fun h=>by simp at h))
theorem takeTy_list {T v:Nat} {k:Tr} (hl:LocAt lb G) (hb:G[b]?=some (.cells #[.string kList,.pointer (some ⟨lb,0,none⟩),.iface T (.pointer (some ⟨v,0,none⟩))] tq297)) (hv:TakeTy T v (flat k) G)
 (hk:t.n.kind=21) (hn:t.n.name=eB) (hx:t.n.text=eB) (ha:t.n.alias=eB) (hks:t.ks=[k]) (hw:Ws t):TakeTy tq295 b (flat t) G:=by
 intro H tk D h hD
 have hfl:flatL t.ks=flat k:=by rw[hks];simp[flatL]
 rw[flat_node,hfl,List.length_cons] at hD
 obtain⟨ls,le,lq,hl⟩:=hl
 refine typList.enter tk b H _ ?_
 unfold typList.W
 refine caps h b tq295 fun b1 b3 H5 x5 t5 h1 h3=>?_
 have b5:=t5.ext.get _ _ hb (by simp)
 refine⟨_,lcO h1 rfl,_,lcO h3 rfl,_,lcO b5 rfl,?_⟩
 refine(putTyp1.enter tk lb ⟨21,eB,eB,eB,0,0⟩ b1 b3 H5 _ (putG_ok fq179 t5 (by omega) lb hl ⟨21,eB,eB,eB,0,0⟩ b1 b3 (P:=fun W=>Sames W (flat k)) fun H7 k7 t7=>?_)).mono ?_
 ·have q1:=k7.get _ _ _ _ h1 (by decide) (by decide) (by decide)
  have q3:=k7.get _ _ _ _ h3 (by decide) (by decide) (by decide)
  have b7:=t7.ext.get _ _ hb (by simp)
  refine inTyp1.enter b1 b3 H7 _ ?_
  unfold inTyp1.W
  refine⟨_,lcO q1 rfl,_,lcO q3 rfl,_,lcO b7 rfl,?_⟩
  refine(hv H7 tk _ t7 (by simp;omega)).mono ?_
  intro v' H8 hT
  obtain rfl:=hT.unit
  exact⟨(),rfl,rkI (hT.within (by omega))⟩
 ·rintro _ H8 ⟨rfl,k8,W,hW,t8⟩
  exact⟨(),rfl,rkI ⟨rfl,x5.kpT.trans k8,_,same_node hw (by rw[hfl];exact hW) _ hk.symm hn.symm ha.symm hx.symm (by decide),t8⟩⟩
theorem takeTy_non {T v:Nat} {k:Tr} (hl:LocAt lb G) (hb:G[b]?=some (.cells #[.string kNonNull,.pointer (some ⟨lb,0,none⟩),.iface T (.pointer (some ⟨v,0,none⟩))] tq299)) (hv:TakeTy T v (flat k) G)
 (hk:t.n.kind=22) (hn:t.n.name=eB) (hx:t.n.text=eB) (ha:t.n.alias=eB) (hks:t.ks=[k]) (hw:Ws t):TakeTy tq298 b (flat t) G:=by
 intro H tk D h hD
 have hfl:flatL t.ks=flat k:=by rw[hks];simp[flatL]
 rw[flat_node,hfl,List.length_cons] at hD
 obtain⟨ls,le,lq,hl⟩:=hl
 refine typNonNull.enter tk b H _ ?_
 unfold typNonNull.W
 refine caps h b tq298 fun b1 b3 H5 x5 t5 h1 h3=>?_
 have b5:=t5.ext.get _ _ hb (by simp)
 refine⟨_,lcO h1 rfl,_,lcO h3 rfl,_,lcO b5 rfl,?_⟩
 refine(putTyp2.enter tk lb ⟨22,eB,eB,eB,0,0⟩ b1 b3 H5 _ (putG_ok fq180 t5 (by omega) lb hl ⟨22,eB,eB,eB,0,0⟩ b1 b3 (P:=fun W=>Sames W (flat k)) fun H7 k7 t7=>?_)).mono ?_
 ·have q1:=k7.get _ _ _ _ h1 (by decide) (by decide) (by decide)
  have q3:=k7.get _ _ _ _ h3 (by decide) (by decide) (by decide)
  have b7:=t7.ext.get _ _ hb (by simp)
  refine inTyp2.enter b1 b3 H7 _ ?_
  unfold inTyp2.W
  refine⟨_,lcO q1 rfl,_,lcO q3 rfl,_,lcO b7 rfl,?_⟩
  refine(hv H7 tk _ t7 (by simp;omega)).mono ?_
  intro v' H8 hT
  obtain rfl:=hT.unit
  exact⟨(),rfl,rkI (hT.within (by omega))⟩
 ·rintro _ H8 ⟨rfl,k8,W,hW,t8⟩
  exact⟨(),rfl,rkI ⟨rfl,x5.kpT.trans k8,_,same_node hw (by rw[hfl];exact hW) _ hk.symm hn.symm ha.symm hx.symm (by decide),t8⟩⟩
end
theorem flatL_cons (a:Tr) (l:List Tr):flatL (a::l)=flat a++flatL l:=by simp[flatL]
theorem flatL_take_succ (l:List Tr) (k:Nat) (t:Tr) (h:l[k]?=some t):flatL (l.take (k+1))=flatL (l.take k)++flat t:=by
 have hlt:=(List.getElem?_eq_some_iff.1 h).1
 have he:l[k]=t:=(List.getElem?_eq_some_iff.1 h).2
 rw[List.take_succ_eq_append_getElem hlt,flatL_append,he]
 simp[flatL]
theorem flatL_take_le (l:List Tr) (k:Nat):(flatL (l.take k)).length≤(flatL l).length:=by
 have:flatL l=flatL (l.take k)++flatL (l.drop k):=by rw[←flatL_append,List.take_append_drop]
 rw[this,List.length_append];omega
theorem flatL_len: ∀l:List Tr,l.length≤(flatL l).length
 |[]=>by simp
 |a::l=>by
  have:=flatL_len l
  rw[flatL_cons,List.length_append,flat_node,List.length_cons,List.length_cons]
  omega
theorem All2.get {α β:Type} {R:α→β→Prop} {l:List α} {m:List β} (h:All2 R l m): ∀(i:Nat) (b:β),m[i]?=some b→ ∃a,l[i]?=some a∧R a b:=by
 induction h with
 |nil=>intro i b h;simp at h
 |cons h _ ih=>
  intro i b hb
  cases i with
  |zero=>simp at hb;subst hb;exact⟨_,rfl,h⟩
  |succ i=>simp at hb;exact ih i b hb
theorem SlAt.keep {x:Sl} {vs:List Value} {G H:Heap} (h:SlAt x vs G) (he:Ext [] G H):SlAt x vs H:=SlcAt.ext h he (by simp)
theorem take_loop {G H0 H:Heap} {tk:Nat} {D:List Nd} (ts:List Tr) (n:Nat) (hn:n=ts.length) (hlen:n≤10000) (hk:KpT H0 H) (hT:TkAt G H tk D)
 {body:Nat→Heap→(Int×Unit→Heap→Prop)→Prop}
 (hb: ∀(k:Nat) (t:Tr) (H1:Heap) (Y:List Nd) (next:Int×Unit→Heap→Prop),ts[k]?=some t→KpT H0 H1→Sames Y (flatL (ts.take k))→TkAt G H1 tk (D++Y)→
   (∀(H2:Heap) (Z:List Nd),KpT H0 H2→Sames Z (flat t)→TkAt G H2 tk ((D++Y)++Z)→next (((k+1:Nat):Int),()) H2)→body k H1 next)
 {rest:Heap→Prop} (hr: ∀(H1:Heap) (Y:List Nd),KpT H0 H1→Sames Y (flatL ts)→TkAt G H1 tk (D++Y)→rest H1)
 {lp:Int×Unit→Heap→(Int×Unit→Heap→Prop)→Prop} (hlp: ∀(k:Nat) (H1:Heap) (next:Int×Unit→Heap→Prop),lp ((k:Int),()) H1 next=forkB (decide ((k:Int)<((n:Nat):Int))) (body k H1 next) (rest H1)):
 loopK (Int×Unit) (0,()) H lp:=by
 refine⟨fun z H'=> ∃(k:Nat) (Y:List Nd),z.1=k∧k≤n∧KpT H0 H'∧Sames Y (flatL (ts.take k))∧TkAt G H' tk (D++Y),fun z _=>n -z.1.toNat,⟨0,[],rfl,Nat.zero_le _,hk,by simpa [flatL] using Sames.nil,by simpa using hT⟩,?_⟩
 rintro⟨_,_⟩ H1 ⟨k,Y,hk1,hkn,hk2,hY,hT1⟩
 dsimp only at hk1
 subst hk1
 rw[show(((k:Int),()):Int×Unit)=((k:Int),()) from rfl,hlp]
 refine fkI (fun hlt=>?_) (fun hge=>?_)
 ·have hlt':k<ts.length:=by simp at hlt;omega
  have hi:ts[k]?=some ts[k]:=List.getElem?_eq_getElem hlt'
  refine hb k ts[k] H1 Y _ hi hk2 hY hT1 fun H2 Z hk3 hZ hT2=>?_
  refine⟨⟨k+1,Y++Z,rfl,by omega,hk3,?_,by rw[←List.append_assoc];exact hT2⟩,by dsimp only;omega⟩
  rw[flatL_take_succ ts k _ hi]
  exact hY.append hZ
 ·have he:k=ts.length:=by simp at hge;omega
  rw[he,List.take_length] at hY
  exact hr H1 Y hk2 hY hT1
section
variable {G:Heap} {b lb:Nat} {t:Tr} {a:Option Addr} {n c:Nat}
theorem takeV_list {bs:List (Nat×Nat)} (hl:LocAt lb G) (hb:G[b]?=some (.cells #[.string kListValue,.pointer (some ⟨lb,0,none⟩),.slice a n c] tq312)) (hs:SlAt (a,n,c) (bs.map ifV) G)
 (hv:All2 (fun x k=>TakeV x.1 x.2 (flat k) G) bs t.ks) (hk:t.n.kind=17) (hn:t.n.name=eB) (hx:t.n.text=eB) (ha:t.n.alias=eB) (hw:Ws t):TakeV tq309 b (flat t) G:=by
 intro H tk D h hD
 rw[flat_node,List.length_cons] at hD
 have hnl:n=t.ks.length:=by have:=hs.1;simp at this;rw[this,hv.len]
 have hks:t.ks.length≤(flatL t.ks).length:=flatL_len t.ks
 obtain⟨ls,le,lq,hl⟩:=hl
 refine valueListValue.enter tk b H _ ?_
 unfold valueListValue.W
 refine caps h b tq309 fun b1 b3 H5 x5 t5 h1 h3=>?_
 have b5:=t5.ext.get _ _ hb (by simp)
 refine⟨_,lcO h1 rfl,_,lcO h3 rfl,_,lcO b5 rfl,?_⟩
 refine(putVal1.enter tk lb ⟨17,eB,eB,eB,0,0⟩ b3 b1 H5 _ (putG_ok fq181 t5 (by omega) lb hl ⟨17,eB,eB,eB,0,0⟩ b3 b1 (P:=fun W=>Sames W (flatL t.ks)) fun H7 k7 t7=>?_)).mono ?_
 ·have q1:=k7.get _ _ _ _ h1 (by decide) (by decide) (by decide)
  have q3:=k7.get _ _ _ _ h3 (by decide) (by decide) (by decide)
  have b7:=t7.ext.get _ _ hb (by simp)
  refine inVal1.enter b3 b1 H7 _ ?_
  unfold inVal1.W
  refine⟨_,lcO q3 rfl,(a,n,c),lcO b7 rfl,?_⟩
  refine take_loop t.ks n hnl (by omega) (KpT.refl H7) t7 (fun k kt H8 Y next hi k8 hY t8 hnext=>?_) (fun H8 Y k8 hY t8=>rkI ⟨rfl,k8,Y,by rw[hY.len];omega,hY,by simpa using t8⟩) (fun k H8 next=>rfl)
  obtain⟨x,hxi,hxv⟩:=hv.get k kt hi
  have hL:=(hs.keep t8.ext).load (i:=k) (v:=ifV x) (by simp[hxi])
  have q18:=k8.get _ _ _ _ q1 (by decide) (by decide) (by decide)
  have hlen:=flatL_take_le t.ks (k+1)
  rw[flatL_take_succ t.ks k kt hi,List.length_append] at hlen
  refine⟨hL.1,_,hL.2,_,lcO q18 rfl,?_⟩
  refine(hxv H8 tk _ t8 ?_).mono ?_
  ·have:=hY.len
   simp only[List.length_append,List.length_cons,List.length_nil];omega
  intro v' H9 hT
  obtain rfl:=hT.unit
  obtain⟨_,k9,Z,hZ,t9⟩:=hT
  rw[wrap1 (k:=k) (by have:=(List.getElem?_eq_some_iff.1 hi).1;omega)]
  exact⟨(),rfl,hnext H9 Z (k8.trans k9) hZ t9⟩
 ·rintro _ H8 ⟨rfl,k8,W,hW,t8⟩
  exact⟨(),rfl,rkI ⟨rfl,x5.kpT.trans k8,_,same_node hw hW _ hk.symm hn.symm ha.symm hx.symm (by decide),t8⟩⟩
def OFldAt (b:Nat) (t:Tr) (G:Heap):Prop:= ∃(lb nb T v:Nat) (k:Tr),LocAt lb G∧NameAt nb t.n.name G∧G[b]?=some (.cells #[.string kObjectField,.pointer (some ⟨nb,0,none⟩),.pointer (some ⟨lb,0,none⟩),.iface T (.pointer (some ⟨v,0,none⟩))] tq319)∧
 TakeV T v (flat k) G∧t.ks=[k]∧t.n.kind=19∧t.n.alias=eB∧t.n.text=eB∧Ws t
def ArgAt (b:Nat) (t:Tr) (G:Heap):Prop:= ∃(lb nb T v:Nat) (k:Tr),LocAt lb G∧NameAt nb t.n.name G∧G[b]?=some (.cells #[.string kArgument,.pointer (some ⟨lb,0,none⟩),.pointer (some ⟨nb,0,none⟩),.iface T (.pointer (some ⟨v,0,none⟩))] tq180)∧
 TakeV T v (flat k) G∧t.ks=[k]∧t.n.kind=9∧t.n.alias=eB∧t.n.text=eB∧Ws t
theorem one_kid {t k:Tr} (h:t.ks=[k]):flatL t.ks=flat k:=by rw[h];simp[flatL]
theorem takeV_obj {bs:List Nat} (hl:LocAt lb G) (hb:G[b]?=some (.cells #[.string kObjectValue,.pointer (some ⟨lb,0,none⟩),.slice a n c] tq316)) (hs:SlAt (a,n,c) (bs.map ptV) G)
 (hv:All2 (fun x k=>OFldAt x k G) bs t.ks) (hk:t.n.kind=18) (hn:t.n.name=eB) (hx:t.n.text=eB) (ha:t.n.alias=eB) (hw:Ws t):TakeV tq313 b (flat t) G:=by
 intro H tk D h hD
 rw[flat_node,List.length_cons] at hD
 have hnl:n=t.ks.length:=by have:=hs.1;simp at this;rw[this,hv.len]
 have hks:t.ks.length≤(flatL t.ks).length:=flatL_len t.ks
 obtain⟨ls,le,lq,hl⟩:=hl
 refine valueObjectValue.enter tk b H _ ?_
 unfold valueObjectValue.W
 refine caps h b tq313 fun b1 b3 H5 x5 t5 h1 h3=>?_
 have b5:=t5.ext.get _ _ hb (by simp)
 refine⟨_,lcO h1 rfl,_,lcO h3 rfl,_,lcO b5 rfl,?_⟩
 refine(putVal2.enter tk lb ⟨18,eB,eB,eB,0,0⟩ b3 b1 H5 _ (putG_ok fq182 t5 (by omega) lb hl ⟨18,eB,eB,eB,0,0⟩ b3 b1 (P:=fun W=>Sames W (flatL t.ks)) fun H7 k7 t7=>?_)).mono ?_
 ·have q1:=k7.get _ _ _ _ h1 (by decide) (by decide) (by decide)
  have q3:=k7.get _ _ _ _ h3 (by decide) (by decide) (by decide)
  have b7:=t7.ext.get _ _ hb (by simp)
  refine inVal2.enter b3 b1 H7 _ ?_
  unfold inVal2.W
  refine⟨_,lcO q3 rfl,(a,n,c),lcO b7 rfl,?_⟩
  refine take_loop t.ks n hnl (by omega) (KpT.refl H7) t7 (fun k kt H8 Y next hi k8 hY t8 hnext=>?_) (fun H8 Y k8 hY t8=>rkI ⟨rfl,k8,Y,by rw[hY.len];omega,hY,by simpa using t8⟩) (fun k H8 next=>rfl)
  obtain⟨x,hxi,lb2,nb2,T,v,kid,⟨ls2,le2,lq2,hl2⟩,⟨lb3,_,hnm⟩,hbx,htv,hkk,hkd,hal,htx,hwk⟩:=hv.get k kt hi
  have hL:=(hs.keep t8.ext).load (i:=k) (v:=ptV x) (by simp[hxi])
  have hlen:=flatL_take_le t.ks (k+1)
  rw[flatL_take_succ t.ks k kt hi,List.length_append] at hlen
  have hYl:=hY.len
  have hfl:(flat kt).length=1+(flat kid).length:=by rw[flat_node,one_kid hkk];simp;omega
  refine⟨hL.1,x,hL.2,?_⟩
  refine cap1 t8 x tq317 fun b9 H9 x9 t9 h9=>?_
  have k9:=k8.trans x9.kpT
  have q19:=k9.get _ _ _ _ q1 (by decide) (by decide) (by decide)
  have bx9:=t9.ext.get _ _ hbx (by simp)
  refine⟨_,lcO q19 rfl,_,lcO h9 rfl,_,lcO bx9 rfl,_,lcO h9 rfl,_,lcO bx9 rfl,?_⟩
  refine(text_ok nb2 kt.n.name H9 (t9.ext.get _ _ hnm (by simp))).mono ?_
  rintro _ _ ⟨rfl,rfl⟩
  refine⟨_,rfl,lcO bx9 rfl,lcO h9 rfl,lcO q19 rfl,?_⟩
  refine(putVal21.enter tk lb2 ⟨19,kt.n.name,eB,eB,0,0⟩ b1 b9 H9 _ (putG_ok fq183 t9 (by simp only[List.length_append,List.length_cons,List.length_nil];omega) lb2 hl2 ⟨19,kt.n.name,eB,eB,0,0⟩ b1 b9 (P:=fun W=>Sames W (flat kid)) fun H10 k10 t10=>?_)).mono ?_
  ·have p1:=k10.get _ _ _ _ q19 (by decide) (by decide) (by decide)
   have p9:=k10.get _ _ _ _ h9 (by decide) (by decide) (by decide)
   have bx10:=t10.ext.get _ _ hbx (by simp)
   refine inVal21.enter b1 b9 H10 _ ?_
   unfold inVal21.W
   refine⟨_,lcO p1 rfl,_,lcO p9 rfl,_,lcO bx10 rfl,?_⟩
   refine(htv H10 tk _ t10 (by simp only[List.length_append,List.length_cons,List.length_nil];omega)).mono ?_
   intro v' H11 hT
   obtain rfl:=hT.unit
   exact⟨(),rfl,rkI (hT.within (by omega))⟩
  ·rintro _ H11 ⟨rfl,k11,W,hW,t11⟩
   have p9:=k11.get _ _ _ _ h9 (by decide) (by decide) (by decide)
   refine⟨(),rfl,lcO p9 rfl,?_⟩
   rw[wrap1 (k:=k) (by have:=(List.getElem?_eq_some_iff.1 hi).1;omega)]
   exact hnext H11 _ (k9.trans k11) (same_node hwk (by rw[one_kid hkk];exact hW) ⟨19,kt.n.name,eB,eB,0,0⟩ hkd.symm rfl hal.symm htx.symm (by simp)) t11
 ·rintro _ H8 ⟨rfl,k8,W,hW,t8⟩
  exact⟨(),rfl,rkI ⟨rfl,x5.kpT.trans k8,_,same_node hw hW _ hk.symm hn.symm ha.symm hx.symm (by decide),t8⟩⟩
end
def TakeL (f:FuncId) (x:Sl) (X:List Nd) (G:Heap):Prop:= ∀(H:Heap) (tk:Nat) (D:List Nd),TkAt G H tk D→D.length+X.length≤5000→
 Fn PP f #[.pointer (some ⟨tk,0,none⟩),.slice x.1 x.2.1 x.2.2] H (Took G tk H D X)
theorem take_args {G:Heap} {x:Sl} {bs:List Nat} {ts:List Tr} (hs:SlAt x (bs.map ptV) G) (hv:All2 (fun b k=>ArgAt b k G) bs ts):TakeL fq64 x (flatL ts) G:=by
 intro H tk D h hD
 obtain⟨a,n,c⟩:=x
 have hnl:n=ts.length:=by have:=hs.1;simp at this;rw[this,hv.len]
 have hks:ts.length≤(flatL ts).length:=flatL_len ts
 refine argumentsT.enter tk a n c H _ ?_
 unfold argumentsT.W
 refine nbI fun H1 e1 hb1 x1 s1=>?_
 refine take_loop ts n hnl (by omega) (KpT.refl H1) (h.grow x1) (fun k kt H8 Y next hi k8 hY t8 hnext=>?_) (fun H8 Y k8 hY t8=>rkI ⟨rfl,x1.kpT.trans k8,Y,hY,t8⟩) (fun k H8 next=>rfl)
 obtain⟨xb,hxi,lb2,nb2,T,v,kid,⟨ls2,le2,lq2,hl2⟩,⟨lb3,_,hnm⟩,hbx,htv,hkk,hkd,hal,htx,hwk⟩:=hv.get k kt hi
 have hL:=(hs.keep t8.ext).load (i:=k) (v:=ptV xb) (by simp[hxi])
 have hlen:=flatL_take_le ts (k+1)
 rw[flatL_take_succ ts k kt hi,List.length_append] at hlen
 have hYl:=hY.len
 have hfl:(flat kt).length=1+(flat kid).length:=by rw[flat_node,one_kid hkk];simp;omega
 refine⟨hL.1,xb,hL.2,?_⟩
 refine cap1 t8 xb tq96 fun b9 H9 x9 t9 h9=>?_
 have k9:=k8.trans x9.kpT
 have q19:=k9.get _ _ _ _ hb1 (by decide) (by decide) (by decide)
 have bx9:=t9.ext.get _ _ hbx (by simp)
 refine⟨_,lcO q19 rfl,_,lcO h9 rfl,_,lcO bx9 rfl,_,lcO h9 rfl,_,lcO bx9 rfl,?_⟩
 refine(text_ok nb2 kt.n.name H9 (t9.ext.get _ _ hnm (by simp))).mono ?_
 rintro _ _ ⟨rfl,rfl⟩
 refine⟨_,rfl,lcO bx9 rfl,lcO h9 rfl,lcO q19 rfl,?_⟩
 refine(putArg.enter tk lb2 ⟨9,kt.n.name,eB,eB,0,0⟩ H.size b9 H9 _ (putG_ok fq120 t9 (by simp only[List.length_append];omega) lb2 hl2 ⟨9,kt.n.name,eB,eB,0,0⟩ H.size b9 (P:=fun W=>Sames W (flat kid)) fun H10 k10 t10=>?_)).mono ?_
 ·have p1:=k10.get _ _ _ _ q19 (by decide) (by decide) (by decide)
  have p9:=k10.get _ _ _ _ h9 (by decide) (by decide) (by decide)
  have bx10:=t10.ext.get _ _ hbx (by simp)
  refine inArg.enter H.size b9 H10 _ ?_
  unfold inArg.W
  refine⟨_,lcO p1 rfl,_,lcO p9 rfl,_,lcO bx10 rfl,?_⟩
  refine(htv H10 tk _ t10 (by simp only[List.length_append,List.length_cons,List.length_nil];omega)).mono ?_
  intro v' H11 hT
  obtain rfl:=hT.unit
  exact⟨(),rfl,rkI (hT.within (by omega))⟩
 ·rintro _ H11 ⟨rfl,k11,W,hW,t11⟩
  have p9:=k11.get _ _ _ _ h9 (by decide) (by decide) (by decide)
  refine⟨(),rfl,lcO p9 rfl,?_⟩
  rw[wrap1 (k:=k) (by have:=(List.getElem?_eq_some_iff.1 hi).1;omega)]
  exact hnext H11 _ (k9.trans k11) (same_node hwk (by rw[one_kid hkk];exact hW) ⟨9,kt.n.name,eB,eB,0,0⟩ hkd.symm rfl hal.symm htx.symm (by simp)) t11
def DirAt (b:Nat) (t:Tr) (G:Heap):Prop:= ∃(lb nb:Nat) (x:Sl),LocAt lb G∧NameAt nb t.n.name G∧G[b]?=some (.cells #[.string kDirective,.pointer (some ⟨lb,0,none⟩),.pointer (some ⟨nb,0,none⟩),.slice x.1 x.2.1 x.2.2] tq182)∧
 TakeL fq64 x (flatL t.ks) G∧t.n.kind=10∧t.n.alias=eB∧t.n.text=eB∧Ws t
theorem take_dirs {G:Heap} {x:Sl} {bs:List Nat} {ts:List Tr} (hs:SlAt x (bs.map ptV) G) (hv:All2 (fun b k=>DirAt b k G) bs ts):TakeL fq65 x (flatL ts) G:=by
 intro H tk D h hD
 obtain⟨a,n,c⟩:=x
 have hnl:n=ts.length:=by have:=hs.1;simp at this;rw[this,hv.len]
 have hks:ts.length≤(flatL ts).length:=flatL_len ts
 refine directivesT.enter tk a n c H _ ?_
 unfold directivesT.W
 refine nbI fun H1 e1 hb1 x1 s1=>?_
 refine take_loop ts n hnl (by omega) (KpT.refl H1) (h.grow x1) (fun k kt H8 Y next hi k8 hY t8 hnext=>?_) (fun H8 Y k8 hY t8=>rkI ⟨rfl,x1.kpT.trans k8,Y,hY,t8⟩) (fun k H8 next=>rfl)
 obtain⟨xb,hxi,lb2,nb2,xs,⟨ls2,le2,lq2,hl2⟩,⟨lb3,_,hnm⟩,hbx,htv,hkd,hal,htx,hwk⟩:=hv.get k kt hi
 have hL:=(hs.keep t8.ext).load (i:=k) (v:=ptV xb) (by simp[hxi])
 have hlen:=flatL_take_le ts (k+1)
 rw[flatL_take_succ ts k kt hi,List.length_append] at hlen
 have hYl:=hY.len
 have hfl:(flat kt).length=1+(flatL kt.ks).length:=by rw[flat_node];simp;omega
 refine⟨hL.1,xb,hL.2,?_⟩
 refine cap1 t8 xb tq99 fun b9 H9 x9 t9 h9=>?_
 have k9:=k8.trans x9.kpT
 have q19:=k9.get _ _ _ _ hb1 (by decide) (by decide) (by decide)
 have bx9:=t9.ext.get _ _ hbx (by simp)
 refine⟨_,lcO q19 rfl,_,lcO h9 rfl,_,lcO bx9 rfl,_,lcO h9 rfl,_,lcO bx9 rfl,?_⟩
 refine(text_ok nb2 kt.n.name H9 (t9.ext.get _ _ hnm (by simp))).mono ?_
 rintro _ _ ⟨rfl,rfl⟩
 refine⟨_,rfl,lcO bx9 rfl,lcO h9 rfl,lcO q19 rfl,?_⟩
 refine(putDir.enter tk lb2 ⟨10,kt.n.name,eB,eB,0,0⟩ H.size b9 H9 _ (putG_ok fq121 t9 (by simp only[List.length_append];omega) lb2 hl2 ⟨10,kt.n.name,eB,eB,0,0⟩ H.size b9 (P:=fun W=>Sames W (flatL kt.ks)) fun H10 k10 t10=>?_)).mono ?_
 ·have p1:=k10.get _ _ _ _ q19 (by decide) (by decide) (by decide)
  have p9:=k10.get _ _ _ _ h9 (by decide) (by decide) (by decide)
  have bx10:=t10.ext.get _ _ hbx (by simp)
  refine inDir.enter H.size b9 H10 _ ?_
  unfold inDir.W
  refine⟨_,lcO p1 rfl,_,lcO p9 rfl,xs,lcO bx10 rfl,?_⟩
  refine(htv H10 tk _ t10 (by simp only[List.length_append,List.length_cons,List.length_nil];omega)).mono ?_
  intro v' H11 hT
  obtain rfl:=hT.unit
  exact⟨(),rfl,rkI (hT.within (by omega))⟩
 ·rintro _ H11 ⟨rfl,k11,W,hW,t11⟩
  have p9:=k11.get _ _ _ _ h9 (by decide) (by decide) (by decide)
  refine⟨(),rfl,lcO p9 rfl,?_⟩
  rw[wrap1 (k:=k) (by have:=(List.getElem?_eq_some_iff.1 hi).1;omega)]
  exact hnext H11 _ (k9.trans k11) (same_node hwk hW ⟨10,kt.n.name,eB,eB,0,0⟩ hkd.symm rfl hal.symm htx.symm (by simp)) t11
abbrev N2v (x:Nat×Nat):Value:= .tuple #[.iface x.1 (.pointer (some ⟨x.2,0,none⟩)),.nilIface]
abbrev N2p:Pat:=⟨Nat×Nat,fun x=>(.tuple #[(.iface x.1 (.pointer (some ⟨x.2,0,none⟩))),.nilIface])⟩
abbrev P1v (b:Nat):Value:= .tuple #[.pointer (some ⟨b,0,none⟩),.nilIface]
theorem body_empty {n:Nd} (h:BodyP n) (hk:n.kind=1∨n.kind=5∨n.kind=17∨n.kind=18∨n.kind=21∨n.kind=22∨n.kind=24∨n.kind=39):n.name=eB∧n.text=eB:=by
 cases h<;>first|exact⟨by assumption,by assumption⟩|(exfalso;omega)
theorem body_notext {n:Nd} (h:BodyP n) (hk:n.kind=4∨n.kind=6∨n.kind=7∨9≤n.kind∧n.kind≤11∨n.kind=16∨19≤n.kind∧n.kind≤20∨26≤n.kind∧n.kind≤38):n.text=eB:=by
 cases h<;>first|assumption|(exfalso;omega)
theorem body_noname {n:Nd} (h:BodyP n) (hk:n.kind=12∨n.kind=13∨n.kind=14∨n.kind=15∨n.kind=23∨n.kind=8):n.name=eB:=by
 cases h<;>first|assumption|(exfalso;omega)
theorem formed_alias {n:Nd} (h:FormedP n) (hk:n.kind≠6):n.alias=eB:=by
 rcases h.1 with h1|h1
 ·exact h1
 ·exact absurd h1.1 hk
theorem Good.self {t:Tr} (h:Good t):FormedP t.n∧ShapedP t:=h t (preT_self t)
theorem Ws.kid {t k:Tr} (h:Ws t) (hk:k∈t.ks):Ws k:=preT_ws t h k (preT_kid hk k (preT_self k))
theorem PS.tok {E:PEnv} {H:Heap} {t:KV} {l:List KV} (h:PS E H (t::l)): ∃st en:Nat,loadC H true 4 ⟨E.p,5,none⟩=some (.agg #[.int .i64 t.1,.int .i64 (st:Nat),.int .i64 (en:Nat),.string t.2]):=by
 obtain⟨pe,t',st,en,r,hl,hp,_⟩:=h.p
 cases hl
 exact⟨st,en,lcO hp rfl⟩
theorem PS.ne {E:PEnv} {H:Heap} {l:List KV} (h:PS E H l): ∃t r,l=t::r:=by
 obtain⟨_,t,_,_,r,hl,_⟩:=h.p
 exact⟨t,r,hl⟩
def tailT (p b2 T v:Nat) (H:Heap) (R:Value→Heap→Prop):Prop:=
 callW PP fq150 #[(.pointer (some ⟨p,0,none⟩)),(.int .i64 2)] H ⟨Bool,fun x=>(.tuple #[(.bool x),.nilIface])⟩ fun(x19:Bool) H20=>
  forkB x19
  (loadW H20 false 1 ⟨b2,1,none⟩ (pInt .i64) fun(x21:Int)=>
    callW PP fq141 #[(.pointer (some ⟨p,0,none⟩)),(.int .i64 x21)] H20 pBlk fun(x22:Nat) H23=>
    newB H23 (.cells #[(.string (bs [])),(.pointer (some ⟨x22,0,none⟩)),(.iface T (.pointer (some ⟨v,0,none⟩)))] tq299) fun b24 H25=>
    callW PP fq205 #[(.pointer (some ⟨b24,0,none⟩))] H25 pBlk fun(x26:Nat) H27=>
    retK (some [(.iface tq298 (.pointer (some ⟨x26,0,none⟩))),.nilIface]) H27 R)
  (retK (some [(.iface T (.pointer (some ⟨v,0,none⟩))),.nilIface]) H20 R)
def TokAt (H:Heap) (b:Nat):Prop:= ∃(k i e:Int) (s:ByteArray),H[b]?=some (.cells #[.int .i64 k,.int .i64 i,.int .i64 e,.string s] tq85)
theorem tail_plain {E:PEnv} {A H:Heap} {u:KV} {r:List KV} {F:Heap→Prop} {b2 T v:Nat} {X:List Nd} (c:Cx E A H (u::r) F) (hu:u.1≠2) (hF: ∀G,F G→TakeTy T v X G):
 tailT E.p b2 T v H fun w H'=> ∃x:Nat×Nat,w=N2v x∧Cx E A H' (u::r) fun G=>TakeTy x.1 x.2 X G:=by
 unfold tailT
 refine c.call1 (skip_no E u r 2 hu) false rfl fun H1 _ c1=>?_
 exact fkI (fun hh=>absurd hh (by decide)) (fun _=>rkI ⟨(T,v),rfl,c1.weak fun G hG=>hF G hG⟩)
theorem tail_bang {E:PEnv} {A H:Heap} {u:KV} {r:List KV} {F:Heap→Prop} {b2 T v:Nat} {t k:Tr} (c:Cx E A H (kBang::u::r) F) (hb:A.size≤b2) (hb2:TokAt H b2) (hF: ∀G,F G→TakeTy T v (flat k) G)
 (hf:FormedP t.n) (hk:t.n.kind=22) (hks:t.ks=[k]) (hw:Ws t):
 tailT E.p b2 T v H fun w H'=> ∃x:Nat×Nat,w=N2v x∧Cx E A H' (u::r) fun G=>TakeTy x.1 x.2 (flat t) G:=by
 obtain⟨a0,a1,a2,a3,hb2⟩:=hb2
 unfold tailT
 refine c.call1 (skip_yes E kBang u r 2 rfl) true rfl fun H1 y1 c1=>?_
 refine fkI (fun _=>?_) (fun hh=>absurd hh (by decide))
 refine⟨_,lcO (y1.get _ _ hb2 (c.nin hb)) rfl,?_⟩
 refine c1.call (loc_ok E _ _) fun lb H2 _ c2=>?_
 refine c2.node (NewNonNull_mk _ _ _) fun b H3 _ c3=>?_
 refine rkI ⟨(tq298,b),rfl,c3.weak fun G hG=>?_⟩
 obtain⟨⟨hFG,hl⟩,hbG⟩:=hG
 obtain⟨h1,h2⟩:=body_empty hf.2 (by omega)
 exact takeTy_non hl hbG (hF G hFG) hk h1 h2 (formed_alias hf (by omega)) hks hw
theorem type_core (E:PEnv) (k:Tr) (hk:k.n.kind=20∨k.n.kind=21) (hg:Good k) (hw:Ws k) (x1:KV) (X:List KV)
 (ih: ∀q∈k.ks,isTypeM q.n=true→ ∀(u:KV) (r:List KV),u.1≠2→POk E fq151 #[.pointer (some ⟨E.p,0,none⟩)] (kvs q++u::r) (u::r) N2v fun x G=>TakeTy x.1 x.2 (flat q) G)
 {R:Value→Heap→Prop} {H:Heap} (ps:PS E H (kvs k++x1::X))
 (fin: ∀(b2 T v:Nat) (H':Heap) (F:Heap→Prop),Cx E H H' (x1::X) F→H.size≤b2→TokAt H' b2→(∀G,F G→TakeTy T v (flat k) G)→tailT E.p b2 T v H' R):parseType.W E.p H R:=by
 obtain⟨hf,hs⟩:=hg.self
 unfold parseType.W
 rcases hk with hk|hk
 ·have hks:k.ks=[]:=by
   cases hs with
   |leaf _ h=>exact h
   |_=>omega
  have hkv:kvs k=[nmK k.n.name]:=by rw[kvs_eq];simp[bodyK,restK,hk]
  rw[hkv] at ps
  obtain⟨st,en,htk⟩:=ps.tok
  refine⟨(15,(st:Int),(en:Int),k.n.name),htk,?_⟩
  dsimp only
  refine(Cx.start ps).tok rfl fun H2 y2 hb2 c2=>?_
  refine⟨(15:Int),lcO hb2 rfl,?_⟩
  refine fkI (fun hh=>absurd hh (by decide)) (fun _=>fkI (fun hh=>absurd hh (by decide)) (fun _=>fkI (fun _=>?_) (fun hh=>absurd hh (by decide))))
  refine c2.call (parseNamed_ok E k.n.name x1 X) fun nb H3 y3 c3=>?_
  have hb3:=y3.get _ _ hb2 (c2.nin (Nat.le_refl _))
  refine fin H.size tq107 nb H3 _ c3 (Nat.le_refl _) ⟨_,_,_,_,hb3⟩ fun G hG=>?_
  exact takeTy_named hG.2 hk (body_notext hf.2 (by omega)) (formed_alias hf (by omega)) hks hw
 ·obtain⟨q,hks,hq⟩: ∃q,k.ks=[q]∧isTypeM q.n=true:=by
   cases hs with
   |tlist ty _ h h2=>exact⟨ty,h,h2⟩
   |_=>omega
  have hkv:kvs k=kSL::(kvs q++[kSR]):=by rw[kvs_eq];simp[bodyK,restK,hk,hks,allK_eq,kvF]
  rw[hkv,List.cons_append,List.append_assoc,List.singleton_append] at ps
  obtain⟨st,en,htk⟩:=ps.tok
  refine⟨(10,(st:Int),(en:Int),eB),htk,?_⟩
  dsimp only
  refine(Cx.start ps).tok rfl fun H2 y2 hb2 c2=>?_
  refine⟨(10:Int),lcO hb2 rfl,?_⟩
  refine fkI (fun _=>?_) (fun hh=>absurd hh (by decide))
  obtain⟨v1,v2,hv⟩: ∃v1 v2,kvs q++kSR::x1::X=v1::v2:=by
   cases hh:kvs q with
   |nil=>exact⟨_,_,rfl⟩
   |cons a b=>exact⟨_,_,rfl⟩
  have c2':=c2
  rw[hv] at c2'
  refine c2'.call1 (advance_ok E kSL v1 v2) () rfl fun H3 y3 c3=>?_
  rw[←hv] at c3
  refine c3.call (p:=N2p) (ih q (by rw[hks];simp) hq kSR (x1::X) (by decide)) fun x H4 y4 c4=>?_
  refine c4.call1 (advance_ok E kSR x1 X) () rfl fun H5 y5 c5=>?_
  have hb5:=y5.get _ _ (y4.get _ _ (y3.get _ _ hb2 (c2.nin (Nat.le_refl _))) (c2.nin (Nat.le_refl _))) (c2.nin (Nat.le_refl _))
  refine⟨_,lcO hb5 rfl,?_⟩
  refine c5.call (loc_ok E _ _) fun lb H6 y6 c6=>?_
  refine c6.node (NewList_mk _ _ _) fun b H7 y7 c7=>?_
  have hb7:=y7.get _ _ (y6.get _ _ hb5 (c2.nin (Nat.le_refl _))) (by simp)
  refine fin H.size tq295 b H7 _ c7 (Nat.le_refl _) ⟨_,_,_,_,hb7⟩ fun G hG=>?_
  obtain⟨⟨⟨_,hT⟩,hl⟩,hbG⟩:=hG
  obtain⟨h1,h2⟩:=body_empty hf.2 (by omega)
  exact takeTy_list hl hbG hT hk h1 h2 (formed_alias hf (by omega)) hks hw
theorem parseType_ok (E:PEnv) (t:Tr) (ht:isTypeM t.n=true) (hg:Good t) (hw:Ws t) (u:KV) (r:List KV) (hu:u.1≠2):
 POk E fq151 #[.pointer (some ⟨E.p,0,none⟩)] (kvs t++u::r) (u::r) N2v fun x G=>TakeTy x.1 x.2 (flat t) G:=by
 intro H ps
 obtain⟨hf,hs⟩:=hg.self
 refine parseType.enter _ H _ ?_
 have hk:t.n.kind=20∨t.n.kind=21∨t.n.kind=22:=by simp only[isTypeM,Bool.and_eq_true,decide_eq_true_eq] at ht;omega
 by_cases h22:t.n.kind=22
 ·obtain⟨k,hks,hq⟩: ∃k,t.ks=[k]∧isNullM k.n=true:=by
   cases hs with
   |tnon ty _ h h2=>exact⟨ty,h,h2⟩
   |_=>omega
  have hkm:k∈t.ks:=by rw[hks];simp
  have hkk:k.n.kind=20∨k.n.kind=21:=by
   simp only[isNullM,isTypeM,Bool.and_eq_true,decide_eq_true_eq,bne_iff_ne] at hq;omega
  have hkv:kvs t=kvs k++[kBang]:=by rw[kvs_eq];simp[bodyK,restK,h22,hks,allK_eq,kvF]
  rw[hkv,List.append_assoc,List.singleton_append] at ps
  refine type_core E k hkk (hg.kid hkm) (hw.kid hkm) kBang (u::r) (fun q hq1 hq2 u' r' hu'=>parseType_ok E q hq2 ((hg.kid hkm).kid hq1) ((hw.kid hkm).kid hq1) u' r' hu') ps ?_
  intro b2 T v H' F c hb hb2 hF
  exact tail_bang c hb hb2 hF hf h22 hks hw
 ·refine type_core E t (by omega) hg hw u r (fun q hq1 hq2 u' r' hu'=>parseType_ok E q hq2 (hg.kid hq1) (hw.kid hq1) u' r' hu') ps ?_
  intro b2 T v H' F c hb hb2 hF
  exact tail_plain c hu hF
 termination_by SizeOf.sizeOf t
 decreasing_by
 all_goals
  cases t with|node n ks=>
  simp only[Tr.ks] at*
  first
   |(have:=List.sizeOf_lt_of_mem hkm;cases k with|node n2 ks2=>simp only[] at*;have:=List.sizeOf_lt_of_mem hq1;simp at*;omega)
   |(have:=List.sizeOf_lt_of_mem hq1;simp;omega)
def ValT (T:Nat):Prop:=T=tq169∨T=tq300∨T=tq302∨T=tq102∨T=tq304∨T=tq307∨T=tq309∨T=tq313
theorem valT_as (x:Nat×Nat) (h:ValT x.1): ∀w,(Instr.typeAssert (ifV x) tq20 tq173 false).run PP w= .ok (asV (ifV x) false) w:=by
 obtain⟨T,b⟩:=x
 rcases h with rfl|rfl|rfl|rfl|rfl|rfl|rfl|rfl
 all_goals
  intro w
  kernel_rfl
def ValQ (x:Nat×Nat) (t:Tr) (G:Heap):Prop:=TakeV x.1 x.2 (flat t) G∧ValT x.1
def StrAt (b:Nat) (s:ByteArray) (G:Heap):Prop:= ∃lb,LocAt lb G∧G[b]?=some (.cells #[.string kStringValue,.pointer (some ⟨lb,0,none⟩),.string s] tq183)
theorem parseStringLiteral_ok (E:PEnv) (k:Int) (s:ByteArray) (u:KV) (r:List KV):
 POk E fq164 #[.pointer (some ⟨E.p,0,none⟩)] ((k,s)::u::r) (u::r) P1v fun b G=>StrAt b s G:=by
 intro H ps
 refine parseStringLiteral.enter _ H _ ?_
 unfold parseStringLiteral.W
 obtain⟨st,en,htk⟩:=ps.tok
 refine⟨(k,(st:Int),(en:Int),s),htk,?_⟩
 dsimp only
 refine(Cx.start ps).tok rfl fun H2 y2 hb2 c2=>?_
 refine c2.call1 (advance_ok E (k,s) u r) () rfl fun H3 y3 c3=>?_
 have hb3:=y3.get _ _ hb2 (c2.nin (Nat.le_refl _))
 refine⟨_,lcO hb3 rfl,_,lcO hb3 rfl,?_⟩
 refine c3.call (loc_ok E _ _) fun lb H4 y4 c4=>?_
 have hb4:=y4.get _ _ hb3 (c2.nin (Nat.le_refl _))
 refine⟨lcO hb4 rfl,?_⟩
 refine c4.node (NewStringValue_mk _ _) fun b H5 _ c5=>?_
 exact rkI ⟨b,rfl,c5.weak fun G hG=>⟨lb,hG.1.2,hG.2⟩⟩
def VarAt (b:Nat) (s:ByteArray) (G:Heap):Prop:= ∃lb nb,LocAt lb G∧NameAt nb s G∧G[b]?=some (.cells #[.string kVariable,.pointer (some ⟨lb,0,none⟩),.pointer (some ⟨nb,0,none⟩)] tq176)
theorem parseVariable_ok (E:PEnv) (s:ByteArray) (u:KV) (r:List KV):
 POk E fq170 #[.pointer (some ⟨E.p,0,none⟩)] (kDol::nmK s::u::r) (u::r) P1v fun b G=>VarAt b s G:=by
 intro H ps
 refine parseVariable.enter _ H _ ?_
 unfold parseVariable.W
 obtain⟨st,hst,_⟩:=ps.start
 refine⟨_,hst,?_⟩
 refine(Cx.start ps).call (expect_ok E kDol _ _ 3 rfl) fun x H1 _ c1=>?_
 refine c1.call (parseName_ok E s u r) fun nb H2 _ c2=>?_
 refine c2.call (loc_ok E _ _) fun lb H3 _ c3=>?_
 refine c3.node (NewVariable_mk _ _) fun b H4 _ c4=>?_
 exact rkI ⟨b,rfl,c4.weak fun G hG=>⟨lb,nb,hG.1.2,hG.1.1.2,hG.2⟩⟩
theorem Fixed.kid {t k:Tr} (h:Fixed t) (hk:k∈t.ks):Fixed k:=by
 intro m hm
 refine h m ?_
 rw[flat_pre,List.mem_map] at hm⊢
 obtain⟨q,hq,rfl⟩:=hm
 exact⟨q,preT_kid hk q hq,rfl⟩
theorem Fixed.self {t:Tr} (h:Fixed t):t.n.kind≠11:=h t.n (by cases t;simp[flat,Tr.n])
theorem kvs_value {t:Tr} (h:isValueM t.n=true): ∃a l,kvs t=a::l∧a.1≠11∧a.1≠14:=by
 have hk:11≤t.n.kind∧t.n.kind≤18:=by simpa [isValueM] using h
 rw[kvs_eq]
 have hcases:t.n.kind=11∨t.n.kind=12∨t.n.kind=13∨t.n.kind=14∨t.n.kind=15∨t.n.kind=16∨t.n.kind=17∨t.n.kind=18:=by omega
 rcases hcases with h|h|h|h|h|h|h|h
 ·exact⟨kDol,[nmK t.n.name],by simp[bodyK,restK,h],by decide,by decide⟩
 ·exact⟨numK t.n,[],by simp[bodyK,restK,h],by simp[numK,h],by simp[numK,h]⟩
 ·exact⟨numK t.n,[],by simp[bodyK,restK,h],by simp[numK,h],by simp[numK,h]⟩
 ·refine⟨strK t.n,[],by simp[bodyK,restK,h],?_,?_⟩<;>(unfold strK;split<;>simp)
 ·exact⟨nmK (if t.n.flag=0 then falseB else trueB),[],by simp[bodyK,restK,h],by simp,by simp⟩
 ·exact⟨nmK t.n.name,[],by simp[bodyK,restK,h],by simp,by simp⟩
 ·exact⟨kSL,_,by simp[bodyK,restK,h];rfl,by decide,by decide⟩
 ·exact⟨kBL,_,by simp[bodyK,restK,h];rfl,by decide,by decide⟩
def PVal (E:PEnv) (c:Bool) (t:Tr):Prop:= ∀(u:KV) (r:List KV),POk E fq171 #[.pointer (some ⟨E.p,0,none⟩),.bool c] (kvs t++u::r) (u::r) N2v fun x G=>ValQ x t G
theorem parseConst_ok {E:PEnv} {t:Tr} (h:PVal E true t) (u:KV) (r:List KV):POk E fq154 #[.pointer (some ⟨E.p,0,none⟩)] (kvs t++u::r) (u::r) N2v fun x G=>ValQ x t G:=by
 intro H ps
 refine parseConstValue.enter _ H _ ?_
 unfold parseConstValue.W
 refine(Cx.start ps).call (p:=N2p) (h u r) fun x H1 _ c1=>?_
 exact rkI ⟨x,rfl,c1.weak fun G hG=>hG.2⟩
theorem parseValueV_ok {E:PEnv} {t:Tr} (h:PVal E false t) (u:KV) (r:List KV):POk E fq233 #[.pointer (some ⟨E.p,0,none⟩)] (kvs t++u::r) (u::r) N2v fun x G=>ValQ x t G:=by
 intro H ps
 refine parseValueValue.enter _ H _ ?_
 unfold parseValueValue.W
 refine(Cx.start ps).call (p:=N2p) (h u r) fun x H1 _ c1=>?_
 exact rkI ⟨x,rfl,c1.weak fun G hG=>hG.2⟩
theorem plain_Value:plainT tq173:=by unfold plainT;decide
theorem kids_few {t:Tr} (h:(flat t).length≤400):t.ks.length≤400:=by
 have:=kids_len t;omega
theorem flat_kid_le {t k:Tr} (hk:k∈t.ks):(flat k).length≤(flat t).length:=by
 rw[flat_node t,List.length_cons]
 have: ∀l:List Tr,k∈l→(flat k).length≤(flatL l).length:=by
  intro l
  induction l with
  |nil=>intro h;simp at h
  |cons a r ih=>
   intro h
   rw[flatL_cons,List.length_append]
   rcases List.mem_cons.1 h with rfl|h
   ·omega
   ·have:=ih h;omega
 have:=this _ hk
 omega
theorem parseList_ok (E:PEnv) (c:Bool) (t:Tr) (hk:t.n.kind=17) (hg:Good t) (hw:Ws t) (hl:(flat t).length≤400) (hv: ∀k∈t.ks,PVal E c k) (u:KV) (r:List KV):
 POk E fq210 #[.pointer (some ⟨E.p,0,none⟩),.bool c] (kvs t++u::r) (u::r) P1v fun b G=>TakeV tq309 b (flat t) G:=by
 intro H ps
 obtain⟨hf,hs⟩:=hg.self
 have hks: ∀x∈t.ks,isValueM x.n=true:=by
  cases hs with
  |list _ h=>exact h
  |_=>omega
 have hfew:=kids_few hl
 obtain⟨hn1,hn2⟩:=body_empty hf.2 (by omega)
 have hal:=formed_alias hf (by omega)
 have hkv:kvs t++u::r=kSL::(t.ks.flatMap kvs++kSR::u::r):=by rw[kvs_eq];simp[bodyK,restK,hk,allK_eq,kvF]
 rw[hkv] at ps
 refine parseList.enter _ _ H _ ?_
 unfold parseList.W
 obtain⟨st,hst,_⟩:=ps.start
 refine⟨_,hst,?_⟩
 have hF: ∀k∈t.ks,∃h r,kvs k=h::r∧True∧h.1≠11:=fun k hkm=>by
  obtain⟨a,l,h1,h2,_⟩:=kvs_value (hks k hkm)
  exact⟨a,l,h1,trivial,h2⟩
 have fin: ∀ {A0 H3:Heap} (y:Sl) (bs:List (Nat×Nat)),Cx E A0 H3 (u::r) (fun G=>SlAt y (bs.map ifV) G∧All2 (fun b t=>ValQ b t G) bs t.ks)→
  callW PP fq141 #[(.pointer (some ⟨E.p,0,none⟩)),(.int .i64 (st:Int))] H3 pBlk fun(x15:Nat) H16=>
  newB H16 (.cells #[(.string (Go.Vx.bs [])),(.pointer (some ⟨x15,0,none⟩)),(.slice y.1 y.2.1 y.2.2)] tq312) fun b17 H18=>
  callW PP fq234 #[(.pointer (some ⟨b17,0,none⟩))] H18 pBlk fun(x19:Nat) H20=>
  retK (some [(.pointer (some ⟨x19,0,none⟩)),.nilIface]) H20 fun v H'=> ∃x,v=P1v x∧Cx E A0 H' (u::r) fun G=>TakeV tq309 x (flat t) G:=by
  intro A0 H3 y bs c3
  refine c3.call (loc_ok E _ _) fun lb H4 _ c4=>?_
  refine c4.node (NewListValue_mk _ _ _ _) fun b H5 _ c5=>?_
  refine rkI ⟨b,rfl,c5.weak fun G hG=>?_⟩
  obtain⟨⟨⟨hsl,hall⟩,hl⟩,hbG⟩:=hG
  exact takeV_list hl hbG hsl (hall.imp fun _ _ h=>h.1) hk hn1 hn2 hal hw
 cases c with
 |true=>
  refine fkI (fun _=>?_) (fun hh=>absurd hh (by decide))
  refine nbI fun H1 e1 hb1 x1 s1=>?_
  refine(reverseConst.enter _ _ _ _ _ _ (reverse_ok fq154 E 10 11 false kvs ValQ (fun _=>True) t.ks (by omega) (by simp) (fun k hkm u' r' _=>parseConst_ok (hv k hkm) u' r') hF trivial u r H1 (ps.grow x1))).mono ?_
  rintro _ H2 ⟨x,bs,rfl,c2⟩
  refine⟨x,rfl,?_⟩
  have hV:=c2.self.2.left (P:=fun b=>ValT b.1) fun _ _ h=>h.2
  have hbl:=c2.self.2.len
  have hb2:=c2.ext.get _ _ hb1 (by have:=ps.lt;simp only[PEnv.S,List.mem_cons,List.not_mem_nil,or_false,not_or];omega)
  exact conv_loopI tq173 tq173 ValT plain_Value valT_as E hV c2 (by omega) x1.of_nil ps.lt (Ext.refl _ _) hb2 (Nat.le_refl _) (.inl (by omega)) fun y H3 c3=>fin y bs c3
 |false=>
  refine fkI (fun hh=>absurd hh (by decide)) (fun _=>?_)
  refine nbI fun H1 e1 hb1 x1 s1=>?_
  refine(reverseValue.enter _ _ _ _ _ _ (reverse_ok fq233 E 10 11 false kvs ValQ (fun _=>True) t.ks (by omega) (by simp) (fun k hkm u' r' _=>parseValueV_ok (hv k hkm) u' r') hF trivial u r H1 (ps.grow x1))).mono ?_
  rintro _ H2 ⟨x,bs,rfl,c2⟩
  refine⟨x,rfl,?_⟩
  have hV:=c2.self.2.left (P:=fun b=>ValT b.1) fun _ _ h=>h.2
  have hbl:=c2.self.2.len
  have hb2:=c2.ext.get _ _ hb1 (by have:=ps.lt;simp only[PEnv.S,List.mem_cons,List.not_mem_nil,or_false,not_or];omega)
  exact conv_loopI tq173 tq173 ValT plain_Value valT_as E hV c2 (by omega) x1.of_nil ps.lt (Ext.refl _ _) hb2 (Nat.le_refl _) (.inl (by omega)) fun y H3 c3=>fin y bs c3
theorem parseObjectField_ok (E:PEnv) (c:Bool) (t v:Tr) (hk:t.n.kind=19) (hks:t.ks=[v]) (hvv:isValueM v.n=true) (hf:FormedP t.n) (hw:Ws t) (hv:PVal E c v) (u:KV) (r:List KV):
 POk E fq235 #[.pointer (some ⟨E.p,0,none⟩),.bool c] (kvs t++u::r) (u::r) P1v fun b G=>OFldAt b t G:=by
 intro H ps
 have hkv:kvs t=nmK t.n.name::kCol::kvs v:=by rw[kvs_eq];simp[bodyK,hk,hks,kvL,firstK,hvv,optK]
 rw[hkv,List.cons_append,List.cons_append] at ps
 refine parseObjectField.enter _ _ H _ ?_
 unfold parseObjectField.W
 obtain⟨st,hst,_⟩:=ps.start
 refine⟨_,hst,?_⟩
 refine(Cx.start ps).call (parseName_ok E t.n.name _ _) fun nb H1 _ c1=>?_
 obtain⟨v1,v2,hv12⟩:=c1.ps.ne
 obtain⟨w1,w2,hw12⟩: ∃w1 w2,kvs v++u::r=w1::w2:=by
  cases hh:kvs v with
  |nil=>exact⟨_,_,rfl⟩
  |cons a b=>exact⟨_,_,rfl⟩
 rw[hw12] at c1
 refine c1.call (expect_ok E kCol w1 w2 7 rfl) fun x H2 _ c2=>?_
 rw[←hw12] at c2
 refine c2.call (p:=N2p) (hv u r) fun x H3 _ c3=>?_
 refine c3.call (loc_ok E _ _) fun lb H4 _ c4=>?_
 refine c4.node (NewObjectField_mk _ _ _ _) fun b H5 _ c5=>?_
 refine rkI ⟨b,rfl,c5.weak fun G hG=>?_⟩
 obtain⟨⟨⟨⟨⟨_,hn⟩,_⟩,hV⟩,hl⟩,hbG⟩:=hG
 exact⟨lb,nb,x.1,x.2,v,hl,hn,hbG,hV.1,hks,hk,formed_alias hf (by omega),body_notext hf.2 (by omega),hw⟩
theorem parseObject_ok (E:PEnv) (c:Bool) (t:Tr) (hk:t.n.kind=18) (hg:Good t) (hw:Ws t) (hl:(flat t).length≤400)
 (hv: ∀k∈t.ks,∀(u:KV) (r:List KV),POk E fq235 #[.pointer (some ⟨E.p,0,none⟩),.bool c] (kvs k++u::r) (u::r) P1v fun b G=>OFldAt b k G) (u:KV) (r:List KV):
 POk E fq211 #[.pointer (some ⟨E.p,0,none⟩),.bool c] (kvs t++u::r) (u::r) P1v fun b G=>TakeV tq313 b (flat t) G:=by
 intro H ps
 obtain⟨hf,hs⟩:=hg.self
 have hks:InK [19] t.ks:=by
  cases hs with
  |object _ h=>exact h
  |_=>omega
 have hfew:=kids_few hl
 obtain⟨hn1,hn2⟩:=body_empty hf.2 (by omega)
 have hal:=formed_alias hf (by omega)
 have hkv:kvs t++u::r=kBL::(t.ks.flatMap kvs++kBR::u::r):=by rw[kvs_eq];simp[bodyK,restK,hk,allK_eq,kvF]
 rw[hkv] at ps
 have hhead: ∀k∈t.ks,∃l,kvs k=nmK k.n.name::l:=by
  intro k hkm
  have h19:k.n.kind=19:=by simpa using hks k hkm
  exact⟨_,by rw[kvs_eq];simp[bodyK,h19];rfl⟩
 refine parseObject.enter _ _ H _ ?_
 unfold parseObject.W
 obtain⟨st,hst,_⟩:=ps.start
 refine⟨_,hst,?_⟩
 obtain⟨v1,v2,hv12⟩: ∃v1 v2,t.ks.flatMap kvs++kBR::u::r=v1::v2:=by
  cases hh:t.ks.flatMap kvs with
  |nil=>exact⟨_,_,rfl⟩
  |cons a b=>exact⟨_,_,rfl⟩
 rw[hv12] at ps
 refine(Cx.start ps).call (expect_ok E kBL v1 v2 12 rfl) fun x1 H1 _ c1=>?_
 rw[←hv12] at c1
 refine c1.tok rfl fun H2 y2 hb2 c2=>?_
 refine Lst.row0 c2.ps tq317 ptV (fun b k G=>OFldAt b k G) fun b0 H3 l0=>?_
 refine⟨fun z H'=> ∃(done rest:List Tr) (bs:List Nat),t.ks=done++rest∧Lst E H2 H' (rest.flatMap kvs++kBR::u::r) tq317 z.1 ptV (fun b k G=>OFldAt b k G) bs done,fun z _=>t.ks.length -z.1.2.1,⟨[],t.ks,[],rfl,l0⟩,?_⟩
 rintro⟨⟨xa,xn,xc⟩,_⟩ H4 ⟨done,rest,bs,hl4,l4⟩
 dsimp only at l4⊢
 have hn:=l4.own.1
 simp only[List.length_map,Nat.mul_one] at hn
 have hbl:=l4.facts.len
 have hll:=congrArg List.length hl4
 simp only[List.length_append] at hll
 cases rest with
 |nil=>
  simp only[List.flatMap_nil,List.nil_append] at l4
  refine l4.call1 (skip_yes E kBR u r 14 rfl) true rfl fun H5 l5=>?_
  refine fkI (fun _=>?_) (fun hh=>absurd hh (by decide))
  rw[List.append_nil] at hl4
  refine(c2.trans l5.fin).call (loc_ok E _ _) fun lb H6 _ c6=>?_
  refine c6.node (NewObjectValue_mk _ _ _ _) fun b H7 _ c7=>?_
  refine rkI ⟨b,rfl,c7.weak fun G hG=>?_⟩
  obtain⟨⟨⟨_,hsl,hall⟩,hl⟩,hbG⟩:=hG
  exact takeV_obj hl hbG hsl (by rw[hl4];exact hall) hk hn1 hn2 hal hw
 |cons k rest=>
  have hkm:k∈t.ks:=by rw[hl4];simp
  obtain⟨q,hq⟩:=hhead k hkm
  have e1:(k::rest).flatMap kvs++kBR::u::r=kvs k++(rest.flatMap kvs++kBR::u::r):=by simp
  rw[e1] at l4
  have l4':=l4
  rw[hq,List.cons_append] at l4'
  refine l4'.call1 (skip_no E (nmK k.n.name) _ 14 (by simp)) false rfl fun H5 l5=>?_
  refine fkI (fun hh=>absurd hh (by decide)) (fun _=>?_)
  rw[←List.cons_append,←hq] at l5
  obtain⟨w1,w2,hw12⟩: ∃w1 w2,rest.flatMap kvs++kBR::u::r=w1::w2:=by
   cases hh:rest.flatMap kvs with
   |nil=>exact⟨_,_,rfl⟩
   |cons a b=>exact⟨_,_,rfl⟩
  rw[hw12] at l5
  refine l5.call (hv k hkm w1 w2) fun y H6 l6 f6=>?_
  refine l6.push (b:=y) (m:=k) (by unfold plainT;decide) (fun _=>rfl) 8 (by decide) (by omega) f6 fun a c H7 l7=>?_
  rw[←hw12] at l7
  refine⟨⟨done++[k],rest,bs++[y],by rw[hl4];simp,l7⟩,?_⟩
  simp only[List.length_cons] at hll
  omega
theorem parseValueLiteral_ok (E:PEnv) (c:Bool) (t:Tr) (ht:isValueM t.n=true) (hg:Good t) (hw:Ws t) (hl:(flat t).length≤400) (hfx:c=true→Fixed t):PVal E c t:=by
 intro u r H ps
 obtain⟨hf,hs⟩:=hg.self
 have hk:11≤t.n.kind∧t.n.kind≤18:=by simpa [isValueM] using ht
 have hal:=formed_alias hf (by omega)
 have hleaf:t.n.kind≤16→t.ks=[]:=by
  intro h
  cases hs with
  |leaf _ h=>exact h
  |_=>omega
 refine parseValueLiteral.enter _ _ H _ ?_
 unfold parseValueLiteral.W
 -- a token with a text, and what is made of it
 have hcases:t.n.kind=11∨t.n.kind=12∨t.n.kind=13∨t.n.kind=14∨t.n.kind=15∨t.n.kind=16∨t.n.kind=17∨t.n.kind=18:=by omega
 rcases hcases with hk|hk|hk|hk|hk|hk|hk|hk
 ·have hkv:kvs t=[kDol,nmK t.n.name]:=by rw[kvs_eq];simp[bodyK,restK,hk]
  rw[hkv,List.cons_append,List.singleton_append] at ps
  obtain⟨st,en,htk⟩:=ps.tok
  refine⟨(3,(st:Int),(en:Int),eB),htk,?_⟩
  dsimp only
  refine(Cx.start ps).tok rfl fun H2 y2 hb2 c2=>?_
  refine⟨(3:Int),lcO hb2 rfl,?_⟩
  repeat refine fkI (fun hh=>absurd hh (by decide)) (fun _=>?_)
  refine fkI (fun _=>?_) (fun hh=>absurd hh (by decide))
  refine fkI (fun _=>?_) (fun hc=>?_)
  ·refine c2.call (parseVariable_ok E t.n.name u r) fun b H3 _ c3=>?_
   refine rkI ⟨(tq169,b),rfl,c3.weak fun G hG=>?_⟩
   obtain⟨_,lb,nb,h1,h2,h3⟩:=hG
   exact⟨takeV_var h1 h2 h3 hk hal (body_notext hf.2 (by omega)) (hleaf (by omega)) hw,.inl rfl⟩
  ·exfalso
   have:c=true:=by simpa using hc
   exact(hfx this).self hk
 ·have hkv:kvs t=[(16,t.n.text)]:=by rw[kvs_eq];simp[bodyK,restK,hk,numK]
  rw[hkv,List.singleton_append] at ps
  obtain⟨st,en,htk⟩:=ps.tok
  refine⟨(16,(st:Int),(en:Int),t.n.text),htk,?_⟩
  dsimp only
  refine(Cx.start ps).tok rfl fun H2 y2 hb2 c2=>?_
  refine⟨(16:Int),lcO hb2 rfl,?_⟩
  repeat refine fkI (fun hh=>absurd hh (by decide)) (fun _=>?_)
  refine fkI (fun _=>?_) (fun hh=>absurd hh (by decide))
  refine c2.call1 (advance_ok E (16,t.n.text) u r) () rfl fun H3 y3 c3=>?_
  have hb3:=y3.get _ _ hb2 (c2.nin (Nat.le_refl _))
  refine⟨_,lcO hb3 rfl,_,lcO hb3 rfl,?_⟩
  refine c3.call (loc_ok E _ _) fun lb H4 y4 c4=>?_
  refine⟨lcO (y4.get _ _ hb3 (c2.nin (Nat.le_refl _))) rfl,?_⟩
  refine c4.node (NewIntValue_mk _ _) fun b H5 _ c5=>?_
  refine rkI ⟨(tq300,b),rfl,c5.weak fun G hG=>?_⟩
  exact⟨takeV_int hG.1.2 hG.2 hk (body_noname hf.2 (by omega)) hal (hleaf (by omega)) hw,.inr (.inl rfl)⟩
 ·have hkv:kvs t=[(17,t.n.text)]:=by rw[kvs_eq];simp[bodyK,restK,hk,numK]
  rw[hkv,List.singleton_append] at ps
  obtain⟨st,en,htk⟩:=ps.tok
  refine⟨(17,(st:Int),(en:Int),t.n.text),htk,?_⟩
  dsimp only
  refine(Cx.start ps).tok rfl fun H2 y2 hb2 c2=>?_
  refine⟨(17:Int),lcO hb2 rfl,?_⟩
  repeat refine fkI (fun hh=>absurd hh (by decide)) (fun _=>?_)
  refine fkI (fun _=>?_) (fun hh=>absurd hh (by decide))
  refine c2.call1 (advance_ok E (17,t.n.text) u r) () rfl fun H3 y3 c3=>?_
  have hb3:=y3.get _ _ hb2 (c2.nin (Nat.le_refl _))
  refine⟨_,lcO hb3 rfl,_,lcO hb3 rfl,?_⟩
  refine c3.call (loc_ok E _ _) fun lb H4 y4 c4=>?_
  refine⟨lcO (y4.get _ _ hb3 (c2.nin (Nat.le_refl _))) rfl,?_⟩
  refine c4.node (NewFloatValue_mk _ _) fun b H5 _ c5=>?_
  refine rkI ⟨(tq302,b),rfl,c5.weak fun G hG=>?_⟩
  exact⟨takeV_float hG.1.2 hG.2 hk (body_noname hf.2 (by omega)) hal (hleaf (by omega)) hw,.inr (.inr (.inl rfl))⟩
 ·obtain⟨kd,hkd,hkv⟩: ∃kd:Int,(kd=18∨kd=19)∧kvs t=[(kd,t.n.text)]:=by
   rw[kvs_eq]
   by_cases hfl:t.n.flag=1
   ·exact⟨19,.inr rfl,by simp[bodyK,restK,hk,strK,hfl]⟩
   ·exact⟨18,.inl rfl,by simp[bodyK,restK,hk,strK,hfl]⟩
  rw[hkv,List.singleton_append] at ps
  obtain⟨st,en,htk⟩:=ps.tok
  refine⟨(kd,(st:Int),(en:Int),t.n.text),htk,?_⟩
  dsimp only
  refine(Cx.start ps).tok rfl fun H2 y2 hb2 c2=>?_
  refine⟨kd,lcO hb2 rfl,?_⟩
  have fin:callW PP fq164 #[(.pointer (some ⟨E.p,0,none⟩))] H2 ⟨Nat,fun x=>(.tuple #[(.pointer (some ⟨x,0,none⟩)),.nilIface])⟩ fun(x30:Nat) H31=>
   retK (some [(.iface tq102 (.pointer (some ⟨x30,0,none⟩))),.nilIface]) H31 fun v H'=> ∃x,v=N2v x∧Cx E H H' (u::r) (ValQ x t):=by
   refine c2.call (parseStringLiteral_ok E kd t.n.text u r) fun b H3 _ c3=>?_
   refine rkI ⟨(tq102,b),rfl,c3.weak fun G hG=>?_⟩
   obtain⟨_,lb,h1,h2⟩:=hG
   exact⟨takeV_str h1 h2 hk (body_noname hf.2 (by omega)) hal (hleaf (by omega)) hw,.inr (.inr (.inr (.inl rfl)))⟩
  rcases hkd with rfl|rfl
  ·repeat refine fkI (fun hh=>absurd hh (by decide)) (fun _=>?_)
   exact fkI (fun _=>fin) (fun hh=>absurd hh (by decide))
  ·repeat refine fkI (fun hh=>absurd hh (by decide)) (fun _=>?_)
   exact fkI (fun _=>fin) (fun hh=>absurd hh (by decide))
 ·have hkv:kvs t=[nmK (if t.n.flag=0 then falseB else trueB)]:=by rw[kvs_eq];simp[bodyK,restK,hk]
  have hfl:=formed_flag hf hk
  rw[hkv,List.singleton_append] at ps
  obtain⟨st,en,htk⟩:=ps.tok
  have hx:=body_noname hf.2 (n:=t.n) (by omega)
  have htx:t.n.text=eB:=by
   cases hf.2<;>first|assumption|(exfalso;omega)
  rcases hfl with hfl|hfl
  ·rw[if_pos hfl] at ps htk
   refine⟨(15,(st:Int),(en:Int),falseB),htk,?_⟩
   dsimp only
   refine(Cx.start ps).tok rfl fun H2 y2 hb2 c2=>?_
   refine⟨(15:Int),lcO hb2 rfl,?_⟩
   repeat refine fkI (fun hh=>absurd hh (by decide)) (fun _=>?_)
   refine fkI (fun _=>?_) (fun hh=>absurd hh (by decide))
   refine⟨(true,()),⟨falseB,lcO hb2 rfl,fkI (fun hh=>(neq_bs (by decide) hh).elim) (fun _=>⟨falseB,lcO hb2 rfl,by rw[bytes_beq,decide_eq_true rfl],rfl⟩)⟩,?_⟩
   refine fkI (fun _=>?_) (fun hh=>absurd hh (by decide))
   refine c2.call1 (advance_ok E (nmK falseB) u r) () rfl fun H3 y3 c3=>?_
   have hb3:=y3.get _ _ hb2 (c2.nin (Nat.le_refl _))
   refine⟨_,lcO hb3 rfl,fkI (fun _=>?_) (fun hh=>(eq_bs hh).elim)⟩
   refine⟨_,lcO hb3 rfl,?_⟩
   refine c3.call (loc_ok E _ _) fun lb H4 y4 c4=>?_
   refine c4.node (NewBooleanValue_mk _ _) fun b H5 _ c5=>?_
   refine rkI ⟨(tq304,b),rfl,c5.weak fun G hG=>?_⟩
   exact⟨takeV_bool hG.1.2 hG.2 hk hx htx hal hfl (hleaf (by omega)) hw,.inr (.inr (.inr (.inr (.inl rfl))))⟩
  ·rw[if_neg (by omega)] at ps htk
   refine⟨(15,(st:Int),(en:Int),trueB),htk,?_⟩
   dsimp only
   refine(Cx.start ps).tok rfl fun H2 y2 hb2 c2=>?_
   refine⟨(15:Int),lcO hb2 rfl,?_⟩
   repeat refine fkI (fun hh=>absurd hh (by decide)) (fun _=>?_)
   refine fkI (fun _=>?_) (fun hh=>absurd hh (by decide))
   refine⟨(true,()),⟨trueB,lcO hb2 rfl,fkI (fun _=>⟨rfl,rfl⟩) (fun hh=>(eq_bs hh).elim)⟩,?_⟩
   refine fkI (fun _=>?_) (fun hh=>absurd hh (by decide))
   refine c2.call1 (advance_ok E (nmK trueB) u r) () rfl fun H3 y3 c3=>?_
   have hb3:=y3.get _ _ hb2 (c2.nin (Nat.le_refl _))
   refine⟨_,lcO hb3 rfl,fkI (fun hh=>(neq_bs (by decide) hh).elim) (fun _=>?_)⟩
   refine⟨_,lcO hb3 rfl,?_⟩
   refine c3.call (loc_ok E _ _) fun lb H4 y4 c4=>?_
   refine c4.node (NewBooleanValue_mk _ _) fun b H5 _ c5=>?_
   refine rkI ⟨(tq304,b),rfl,c5.weak fun G hG=>?_⟩
   exact⟨takeV_bool (v:=true) hG.1.2 hG.2 hk hx htx hal hfl (hleaf (by omega)) hw,.inr (.inr (.inr (.inr (.inl rfl))))⟩
 ·have hkv:kvs t=[nmK t.n.name]:=by rw[kvs_eq];simp[bodyK,restK,hk]
  obtain⟨n1,n2,n3⟩:t.n.name≠trueB∧t.n.name≠falseB∧t.n.name≠nullB:=by
   cases hf.2<;>first|exact⟨by assumption,by assumption,by assumption⟩|(exfalso;omega)
  rw[hkv,List.singleton_append] at ps
  obtain⟨st,en,htk⟩:=ps.tok
  refine⟨(15,(st:Int),(en:Int),t.n.name),htk,?_⟩
  dsimp only
  refine(Cx.start ps).tok rfl fun H2 y2 hb2 c2=>?_
  refine⟨(15:Int),lcO hb2 rfl,?_⟩
  repeat refine fkI (fun hh=>absurd hh (by decide)) (fun _=>?_)
  refine fkI (fun _=>?_) (fun hh=>absurd hh (by decide))
  have f1:(t.n.name.toList==(bs [116,114,117,101]).toList)=false:=by rw[bytes_beq];simpa using n1
  have f2:(t.n.name.toList==(bs [102,97,108,115,101]).toList)=false:=by rw[bytes_beq];simpa using n2
  have f3:(t.n.name.toList==(bs [110,117,108,108]).toList)=false:=by rw[bytes_beq];simpa using n3
  refine⟨(false,()),⟨_,lcO hb2 rfl,fkI (fun hh=>by rw[f1] at hh;cases hh) (fun _=>⟨_,lcO hb2 rfl,by rw[f2],rfl⟩)⟩,?_⟩
  refine fkI (fun hh=>absurd hh (by decide)) (fun _=>?_)
  refine⟨_,lcO hb2 rfl,fkI (fun _=>?_) (fun hh=>by rw[f3] at hh;cases hh)⟩
  refine c2.call1 (advance_ok E (nmK t.n.name) u r) () rfl fun H3 y3 c3=>?_
  have hb3:=y3.get _ _ hb2 (c2.nin (Nat.le_refl _))
  refine⟨_,lcO hb3 rfl,_,lcO hb3 rfl,?_⟩
  refine c3.call (loc_ok E _ _) fun lb H4 y4 c4=>?_
  refine⟨lcO (y4.get _ _ hb3 (c2.nin (Nat.le_refl _))) rfl,?_⟩
  refine c4.node (NewEnumValue_mk _ _) fun b H5 _ c5=>?_
  refine rkI ⟨(tq307,b),rfl,c5.weak fun G hG=>?_⟩
  exact⟨takeV_enum hG.1.2 hG.2 hk (body_notext hf.2 (by omega)) hal (hleaf (by omega)) hw,.inr (.inr (.inr (.inr (.inr (.inl rfl)))))⟩
 ·obtain⟨l,hkv⟩: ∃l,kvs t++u::r=kSL::l:=⟨_,by rw[kvs_eq];simp[bodyK,restK,hk];rfl⟩
  have hks: ∀x∈t.ks,isValueM x.n=true:=by
   cases hs with
   |list _ h=>exact h
   |_=>omega
  have ps':=ps
  rw[hkv] at ps'
  obtain⟨st,en,htk⟩:=ps'.tok
  refine⟨(10,(st:Int),(en:Int),eB),htk,?_⟩
  dsimp only
  refine(Cx.start ps).tok rfl fun H2 y2 hb2 c2=>?_
  refine⟨(10:Int),lcO hb2 rfl,?_⟩
  refine fkI (fun _=>?_) (fun hh=>absurd hh (by decide))
  refine c2.call (parseList_ok E c t hk hg hw hl (fun k hkm=>parseValueLiteral_ok E c k (hks k hkm) (hg.kid hkm) (hw.kid hkm) (by have:=flat_kid_le hkm;omega) (fun h=>(hfx h).kid hkm)) u r) fun b H3 _ c3=>?_
  exact rkI ⟨(tq309,b),rfl,c3.weak fun G hG=>⟨hG.2,.inr (.inr (.inr (.inr (.inr (.inr (.inl rfl))))))⟩⟩
 ·obtain⟨l,hkv⟩: ∃l,kvs t++u::r=kBL::l:=⟨_,by rw[kvs_eq];simp[bodyK,restK,hk];rfl⟩
  have hks:InK [19] t.ks:=by
   cases hs with
   |object _ h=>exact h
   |_=>omega
  have ps':=ps
  rw[hkv] at ps'
  obtain⟨st,en,htk⟩:=ps'.tok
  refine⟨(12,(st:Int),(en:Int),eB),htk,?_⟩
  dsimp only
  refine(Cx.start ps).tok rfl fun H2 y2 hb2 c2=>?_
  refine⟨(12:Int),lcO hb2 rfl,?_⟩
  refine fkI (fun hh=>absurd hh (by decide)) (fun _=>?_)
  refine fkI (fun _=>?_) (fun hh=>absurd hh (by decide))
  refine c2.call (parseObject_ok E c t hk hg hw hl (fun k hkm u' r'=>?_) u r) fun b H3 _ c3=>?_
  ·have h19:k.n.kind=19:=by simpa using hks k hkm
   obtain⟨v,hv1,hv2⟩: ∃v,k.ks=[v]∧isValueM v.n=true:=by
    cases(hg.kid hkm).self.2 with
    |argument v _ h1 h2=>exact⟨v,h1,h2⟩
    |_=>omega
   have hvm:v∈k.ks:=by rw[hv1];simp
   exact parseObjectField_ok E c k v h19 hv1 hv2 (hg.kid hkm).self.1 (hw.kid hkm) (parseValueLiteral_ok E c v hv2 ((hg.kid hkm).kid hvm) ((hw.kid hkm).kid hvm) (by have:=flat_kid_le hkm;have:=flat_kid_le hvm;omega) (fun h=>((hfx h).kid hkm).kid hvm)) u' r'
  ·exact rkI ⟨(tq313,b),rfl,c3.weak fun G hG=>⟨hG.2,.inr (.inr (.inr (.inr (.inr (.inr (.inr rfl))))))⟩⟩
 termination_by SizeOf.sizeOf t
 decreasing_by
 all_goals
  cases t with|node n ks=>
  simp only[Tr.ks] at*
  first
   |(have:=List.sizeOf_lt_of_mem hkm;cases k with|node n2 ks2=>simp only[] at*;have:=List.sizeOf_lt_of_mem hvm;simp at*;omega)
   |(have:=List.sizeOf_lt_of_mem hkm;simp;omega)
end Go.Vx
