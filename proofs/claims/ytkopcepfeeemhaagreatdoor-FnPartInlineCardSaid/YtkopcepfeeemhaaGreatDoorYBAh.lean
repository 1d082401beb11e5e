/- A part of the proof of what the last text of this claim says: QR1. Conditions: none. -/
import Derived.Test.YtkopcepfeeemhaaGreatDoorYBAd
import Derived.Test.YtkopcepfeeemhaaGreatDoorYBAf
import Derived.Test.YtkopcepfeeemhaaGreatDoorYBAg
set_option maxRecDepth 10000
namespace Go.Vx
open Go Go.Proofs
inductive Sames:List Nd→List Nd→Prop
 |nil:Sames [] []
 |cons {x y:Nd} {a b:List Nd}:SameNd x y→Sames a b→Sames (x::a) (y::b)
theorem Sames.append {a b c d:List Nd} (h:Sames a b) (k:Sames c d):Sames (a++c) (b++d):=by
 induction h with
 |nil=>exact k
 |cons h _ ih=>exact .cons h ih
theorem Sames.len {a b:List Nd} (h:Sames a b):a.length=b.length:=by
 induction h with
 |nil=>rfl
 |cons _ _ ih=>simp[ih]
theorem Sames.get {a b:List Nd} (h:Sames a b): ∀(i:Nat) (x y:Nd),a[i]?=some x→b[i]?=some y→SameNd x y:=by
 induction h with
 |nil=>intro i x y h;simp at h
 |cons h _ ih=>
  intro i x y hx hy
  cases i with
  |zero=>simp at hx hy;subst hx;subst hy;exact h
  |succ i=>simp at hx hy;exact ih i x y hx hy
def TakeOk (kind:Int) (T b:Nat) (X:List Nd) (Hp:Heap):Prop:= ∀(H:Heap) (tk:Nat) (D:List Nd),TkAt Hp H tk D→D.length≤1000→
 Fn PP fq38 #[.pointer (some ⟨tk,0,none⟩),.iface T (.pointer (some ⟨b,0,none⟩)),.int .i64 kind] H fun v H'=>v= .tuple #[]∧ ∃Y,Sames Y X∧TkAt Hp H' tk (D++Y)
def EndT (u:KV):Prop:=u.1=14∨u.1=1
def StepOk (nm:ByteArray) (kind:Int) (ks:List KV) (X:List Nd):Prop:= ∀(E:PEnv) (u:KV),EndT u→
 POk E fq62 #[.pointer (some ⟨E.p,0,none⟩),.string nm] (ks++[u]) [u] (fun x:Sl=> .tuple #[.slice x.1 x.2.1 x.2.2,.nilIface])
  fun x G=>x.2.1=1∧ ∃g T b:Nat,x.1=some ⟨g,0,none⟩∧G[g]?=some (.cells #[.iface T (.pointer (some ⟨b,0,none⟩))] tq20)∧TakeOk kind T b X G
theorem NodesAt.own {H:Heap} {g n c:Nat} {D:List Nd} (h:OwnS H tq41 6 (some ⟨g,0,none⟩) n c (ndCells D)):NodesAt H g 0 D:=by
 have hn:=h.1
 rw[ndCells_len] at hn
 rcases h.2 with⟨h0,_⟩|⟨g',cur,he,hg,hnc,_,hs,ht⟩
 ·cases h0
 cases he
 refine⟨cur,_,_,hg,?_,fun i nd hi k hk=>?_⟩
 ·have:=Nat.mul_le_mul_right 6 hnc;omega
 ·have h1:=ndCells_get D i nd hi k hk
  rw[←ht] at h1
  have hl:=(List.getElem?_eq_some_iff.1 hi).1
  rw[List.getElem?_take,if_pos (by omega)] at h1
  rw[←h1]
  simp
theorem PReadPart_ok (nm:ByteArray) (kind:Int) (text:ByteArray) (hsm:text.size<268435456) (ks:List KV) (u:KV) (X:List Nd) (hu:EndT u) (hk:ks≠ []) (hr: ∀S:Src,S.text=text→Rest S (ks++[u]) 0) (hst:StepOk nm kind ks X) (H:Heap) (hT:TabsAt H.size H):
 Fn PP fq37 #[.string nm,.string text] H fun v H'=> ∃(g c T b nx:Nat),v= .tuple #[.slice (some ⟨g,0,none⟩) 1 c,.int .i64 nx,.nilIface]∧Ext [] H H'∧(u.1=14→nx+1=text.size)∧
  H'[g]?=some (.cells #[.iface T (.pointer (some ⟨b,0,none⟩))] tq20)∧TakeOk kind T b X H':=by
 obtain⟨t,l,hl⟩: ∃t l,ks++[u]=t::l:=by
  cases ks with
  |nil=>exact absurd rfl hk
  |cons a r=>exact⟨a,r++[u],rfl⟩
 refine PReadPart.enter nm text H _ ?_
 unfold PReadPart.W
 refine(begin_ok text hsm t l (fun S hS=>by rw[←hl];exact hr S hS) H hT).mono ?_
 rintro _ H1 ⟨E,rfl,hE,hps,x1,h1,h2⟩
 refine⟨E.p,rfl,?_⟩
 rw[←hl] at hps
 refine(Cx.start hps).call (p:=⟨Sl,fun x=> .tuple #[.slice x.1 x.2.1 x.2.2,.nilIface]⟩) (hst E u hu) fun x H2 x2 c2=>?_
 obtain⟨xa,xn,xc⟩:=x
 obtain⟨_,hn,g,T,b,ha,hg,hTk⟩:=c2.self
 dsimp only at ha hn⊢
 subst ha;subst hn
 obtain⟨st,hst2,hfin⟩:=c2.ps.start
 refine⟨(st:Int),hst2,rkI ⟨g,xc,T,b,st,rfl,?_,fun h14=>?_,hg,hTk⟩⟩
 ·refine⟨by have:=x1.size;have:=x2.size;omega,fun k o ho _=>x2.get _ _ (x1.get _ _ ho (by simp)) ?_⟩
  have:=lt_of_get ho
  simp only[PEnv.S,List.mem_cons,List.not_mem_nil,or_false,not_or]
  omega
 ·rw[←hE];exact hfin h14 rfl
theorem readPart_ok (nm:ByteArray) (kind:Int) (text:ByteArray) (hsm:text.size<268435456) (ks:List KV) (u:KV) (X:List Nd) (hu:EndT u) (hk:ks≠ []) (hr: ∀S:Src,S.text=text→Rest S (ks++[u]) 0) (hst:StepOk nm kind ks X) (hX:X≠ []) (H:Heap) (hT:TabsAt H.size H):
 Fn PP fq30 #[.string nm,.int .i64 kind,.string text] H fun v H'=> ∃(g c nx:Nat) (Y:List Nd),v= .tuple #[.slice (some ⟨g,0,none⟩) Y.length c,.int .i64 nx,.bool true]∧Ext [] H H'∧(u.1=14→nx+1=text.size)∧
  Sames Y X∧NodesAt H' g 0 Y:=by
 refine readPart.enter nm kind text H _ ?_
 unfold readPart.W
 refine(PReadPart_ok nm kind text hsm ks u X hu hk hr hst H hT).mono ?_
 rintro _ H1 ⟨g,c,T,b,nx,rfl,x1,h14,hg,hTk⟩
 refine⟨((some ⟨g,0,none⟩,1,c),(nx:Int)),rfl,?_⟩
 dsimp only
 refine nbI fun H2 e2 hb2 x2 s2=>?_
 have t0:TkAt H1 H2 H1.size []:=⟨x2,Nat.le_refl _,none,0,0,none,0,0,[],hb2,OwnS.nil _ _ _,by simp[rowOf],OwnS.nil _ _ _,by simp[rowOf],rfl⟩
 refine⟨fun z H'=> ∃k:Nat,z.1=k∧(k=0∧TkAt H1 H' H1.size []∨k=1∧ ∃Y,Sames Y X∧TkAt H1 H' H1.size Y),fun z _=>1 -z.1.toNat,⟨0,rfl,.inl ⟨rfl,t0⟩⟩,?_⟩
 rintro⟨_,_⟩ H3 ⟨k,hk1,hk2⟩
 dsimp only at hk1⊢
 subst hk1
 rcases hk2 with⟨rfl,t3⟩|⟨rfl,Y,hY,t3⟩
 ·refine fkI (fun _=>?_) (fun hh=>by simp at hh)
  have hg3:=t3.ext.get _ _ hg (by simp)
  refine⟨ix_some (by decide) (by decide),(T,b),lcO hg3 rfl,?_⟩
  refine(hTk H3 H1.size [] t3 (by decide)).mono ?_
  rintro _ H4 ⟨rfl,Y,hY,t4⟩
  refine⟨(),rfl,⟨1,rfl,.inr ⟨rfl,Y,hY,by simpa using t4⟩⟩,?_⟩
  decide
 ·refine fkI (fun hh=>by simp at hh) (fun _=>?_)
  obtain⟨a,n,c2,sa,sn,sc,xs,q1,q2,q3,q4,q5,q6⟩:=t3.st
  refine⟨false,lcO q1 rfl,fkI (fun hh=>absurd hh (by decide)) (fun _=>?_)⟩
  have hn:=q2.1
  rw[ndCells_len] at hn
  have hYX:=hY.len
  have hX':0<X.length:=List.length_pos_iff.2 hX
  obtain rfl:n=Y.length:=by omega
  rcases q2.2 with⟨_,h0,_⟩|⟨g2,cur,rfl,_⟩
  ·omega
  refine⟨(some ⟨g2,0,none⟩,Y.length,c2),lcO q1 rfl,rkI ⟨g2,c2,nx,Y,rfl,x1.trans t3.ext,h14,hY,NodesAt.own q2⟩⟩
theorem ReadPart_ok (nm:ByteArray) (kind:Int) (hnm: ∀H,Fn PP fq33 #[.int .i64 kind] H fun v H'=>v= .string nm∧H=H') (hne:nm≠eB) (text:ByteArray) (hsm:text.size<268435456) (ks:List KV) (u:KV) (X:List Nd) (hu:EndT u) (hk:ks≠ [])
 (hr: ∀S:Src,S.text=text→Rest S (ks++[u]) 0) (hst:StepOk nm kind ks X) (hX:X≠ []) (H:Heap) (hT:TabsAt H.size H):
 Fn PP fq27 #[.int .i64 kind,.string text] H fun v H'=> ∃(g c nx:Nat) (Y:List Nd),v= .tuple #[.slice (some ⟨g,0,none⟩) Y.length c,.int .i64 nx,.bool true]∧Ext [] H H'∧(u.1=14→nx+1=text.size)∧
  Sames Y X∧NodesAt H' g 0 Y:=by
 refine ReadPart.enter kind text H _ ?_
 unfold ReadPart.W
 refine(hnm H).mono ?_
 rintro _ _ ⟨rfl,rfl⟩
 refine⟨nm,rfl,fkI (fun hh=>?_) (fun _=>?_)⟩
 ·rw[bytes_beq] at hh
  exact absurd (by simpa using hh) hne
 refine(readPart_ok nm kind text hsm ks u X hu hk hr hst hX H hT).mono ?_
 rintro _ H1 ⟨g,c,nx,Y,rfl,x1,h14,hY,hN⟩
 refine⟨((some ⟨g,0,none⟩,Y.length,c),(nx:Int),true),rfl,rkI ⟨g,c,nx,Y,rfl,x1,h14,hY,hN⟩⟩
end Go.Vx
