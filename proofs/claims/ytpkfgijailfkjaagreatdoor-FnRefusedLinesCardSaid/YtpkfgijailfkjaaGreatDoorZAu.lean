/- A part of the proof of what the last text of this claim says: QP5. Conditions: none. -/
import Derived.Test.YtpkfgijailfkjaaGreatDoorZAs
import Derived.Test.YtpkfgijailfkjaaGreatDoorZAt
set_option maxRecDepth 10000
namespace Go.Vx
open Go Go.Proofs
def Fact (A H:Heap) (row:Option Nat) (P:Heap→Prop):Prop:= ∃B C:Heap,A.size≤B.size∧C.size≤H.size∧Born B C P∧(∀(k:Nat) (o:Obj),B.size≤k→C[k]?=some o→H[k]?=some o)∧ ∀r,row=some r→r<B.size∨C.size≤r
theorem Fact.born {A H:Heap} {row:Option Nat} {P:Heap→Prop} (h:Fact A H row P):Born A H P:=by
 obtain⟨B,C,h1,h2,h3,h4,h5⟩:=h
 exact fun G hG=>h3 G fun k o hk ho=>hG k o (by omega) (h4 k o hk ho)
theorem Fact.step {A H H':Heap} {row:Option Nat} {P:Heap→Prop} {S:List Nat} (h:Fact A H row P) (he:Ext S H H') (hS: ∀k∈S,k<A.size):Fact A H' row P:=by
 obtain⟨B,C,h1,h2,h3,h4,h5⟩:=h
 refine⟨B,C,h1,by have:=he.size;omega,h3,fun k o hk ho=>he.get _ _ (h4 k o hk ho) fun hm=>?_,h5⟩
 have:=hS k hm;omega
theorem Fact.grow {A H H':Heap} {row row':Option Nat} {P:Heap→Prop} (h:Fact A H row P) (he:Grow H H' row) (hr:row'=row∨row'=some H.size):Fact A H' row' P:=by
 obtain⟨B,C,h1,h2,h3,h4,h5⟩:=h
 refine⟨B,C,h1,by have:=he.size;omega,h3,fun k o hk ho=>?_,fun r hr'=>?_⟩
 ·have h6:=h4 k o hk ho
  rw[he.block k (lt_of_get h6) fun e=>?_,h6]
  have h7:=lt_of_get ho
  rcases h5 k e.symm with h8|h8<;>omega
 ·rcases hr with rfl|rfl
  ·exact h5 r hr'
  ·cases hr';exact .inr h2
theorem Fact.new {A B C:Heap} {row:Option Nat} {P:Heap→Prop} (h:Born B C P) (hA:A.size≤B.size) (hr: ∀r,row=some r→r<B.size):Fact A C row P:=
 ⟨B,C,hA,Nat.le_refl _,h,fun _ _ _ ho=>ho,fun r h=> .inl (hr r h)⟩
inductive All2 {α β:Type} (R:α→β→Prop):List α→List β→Prop
 |nil:All2 R [] []
 |cons {a:α} {b:β} {l:List α} {m:List β}:R a b→All2 R l m→All2 R (a::l) (b::m)
theorem All2.snoc {α β:Type} {R:α→β→Prop} {l:List α} {m:List β} (h:All2 R l m) {a:α} {b:β} (hr:R a b):All2 R (l++[a]) (m++[b]):=by
 induction h with
 |nil=>exact .cons hr .nil
 |cons h _ ih=>exact .cons h ih
theorem All2.imp {α β:Type} {R S:α→β→Prop} {l:List α} {m:List β} (h:All2 R l m) (hi: ∀a b,R a b→S a b):All2 S l m:=by
 induction h with
 |nil=>exact .nil
 |cons h _ ih=>exact .cons (hi _ _ h) ih
theorem All2.len {α β:Type} {R:α→β→Prop} {l:List α} {m:List β} (h:All2 R l m):l.length=m.length:=by
 induction h with
 |nil=>rfl
 |cons _ _ ih=>simp[ih]
theorem All2.map {α α' β:Type} {R:α'→β→Prop} {f:α→α'} {l:List α} {m:List β} (h:All2 (fun a b=>R (f a) b) l m):All2 R (l.map f) m:=by
 induction h with
 |nil=>exact .nil
 |cons h _ ih=>exact .cons h ih
theorem All2.born {α β:Type} {A H:Heap} {Q:α→β→Heap→Prop} {l:List α} {m:List β} (h:All2 (fun a b=>Born A H (Q a b)) l m):Born A H fun G=>All2 (fun a b=>Q a b G) l m:=
 fun G hG=>h.imp fun _ _ hb=>hb G hG
def ifV (x:Nat×Nat):Value:= .iface x.1 (.pointer (some ⟨x.2,0,none⟩))
def ptV (b:Nat):Value:= .pointer (some ⟨b,0,none⟩)
def SlAt (x:Sl) (vs:List Value) (G:Heap):Prop:=SlcAt G x.1 x.2.1 vs
theorem PS.row {E:PEnv} {H H':Heap} {l:List KV} (h:PS E H l) {r:Option Nat} (he:Grow H H' r) (hr: ∀q,r=some q→ ∃c e fr,H[q]?=some (.cells c e fr)∧e≠tq90∧e≠tq3∧e≠tq52∧e≠tq68∧e≠tq5) (hq: ∀q,r=some q→E.p≤q):PS E H' l:=by
 have key: ∀(k:Nat) (d:Array Value) (e:TypeId) (fr:Nat×Nat),H[k]?=some (.cells d e fr)→(e=tq90∨e=tq3∨e=tq52∨e=tq68∨e=tq5)→H'[k]?=some (.cells d e fr):=by
  intro k d e fr hk ho
  rw[he.block k (lt_of_get hk) fun eq=>?_,hk]
  obtain⟨c,e',fr',hc,h1,h2,h3,h4,h5⟩:=hr k eq.symm
  rw[hk] at hc;cases hc
  rcases ho with h|h|h|h|h
  ·exact h1 h
  ·exact h2 h
  ·exact h3 h
  ·exact h4 h
  ·exact h5 h
 obtain⟨pe,t,st,en,r',h1,hp,h2⟩:=h.p
 obtain⟨n,hn⟩:=h.ls.prev
 refine⟨⟨⟨n,key _ _ _ _ hn (by simp)⟩,key _ _ _ _ h.ls.srcb (by simp),h.ls.src.keep (fun k c e fr hk ho=>key _ _ _ _ hk ?_) (fun k o hk ho=>by
  rw[he.block k (lt_of_get ho) fun eq=>?_,ho]
  have:=hq k eq.symm;have:=h.ls.lo;omega),h.ls.lo⟩,pe,t,st,en,r',h1,key _ _ _ _ hp (by simp),h2⟩
 rcases ho with rfl|rfl<;>simp
def plainT (e:TypeId):Prop:=e≠tq90∧e≠tq3∧e≠tq52∧e≠tq68∧e≠tq5
section
variable {α β:Type} {E:PEnv} {A H:Heap} {l l':List KV} {e:TypeId} {x:Sl} {val:α→Value} {Q:α→β→Heap→Prop} {bs:List α} {ms:List β}
end
theorem All2.left {α β:Type} {R:α→β→Prop} {P:α→Prop} (hp: ∀a b,R a b→P a) {l:List α} {m:List β} (h:All2 R l m): ∀a∈l,P a:=by
 induction h with
 |nil=>intro a h;simp at h
 |cons h _ ih=>
  intro a ha
  rcases List.mem_cons.1 ha with rfl|ha
  ·exact hp _ _ h
  ·exact ih a ha
end Go.Vx
