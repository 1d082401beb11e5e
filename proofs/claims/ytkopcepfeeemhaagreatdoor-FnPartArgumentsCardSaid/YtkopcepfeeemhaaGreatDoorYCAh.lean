/- A part of the proof of what the last text of this claim says: QR1. Conditions: none. -/
import Derived.Test.YtkopcepfeeemhaaGreatDoorYCAd
import Derived.Test.YtkopcepfeeemhaaGreatDoorYCAf
import Derived.Test.YtkopcepfeeemhaaGreatDoorYCAg
set_option maxRecDepth 10000
namespace Go.Vx
open Go Go.Proofs
inductive Sames:List Nd→List Nd→Prop
 |nil:Sames [] []
 |cons {x y:Nd} {a b:List Nd}:SameNd x y→Sames a b→Sames (x::a) (y::b)
theorem Sames.append {a b c d:List Nd} (h:Sames a b) (k:Sames c d):Sames (a++c) (b++d):=by
 induction h with
 |nil=>exact k
 |cons h _ ih=>exact .cons h ih
theorem Sames.len {a b:List Nd} (h:Sames a b):a.length=b.length:=by
 induction h with
 |nil=>rfl
 |cons _ _ ih=>simp[ih]
theorem Sames.get {a b:List Nd} (h:Sames a b): ∀(i:Nat) (x y:Nd),a[i]?=some x→b[i]?=some y→SameNd x y:=by
 induction h with
 |nil=>intro i x y h;simp at h
 |cons h _ ih=>
  intro i x y hx hy
  cases i with
  |zero=>simp at hx hy;subst hx;subst hy;exact h
  |succ i=>simp at hx hy;exact ih i x y hx hy
def TakeOk (kind:Int) (T b:Nat) (X:List Nd) (Hp:Heap):Prop:= ∀(H:Heap) (tk:Nat) (D:List Nd),TkAt Hp H tk D→D.length≤1000→
 Fn PP fq38 #[.pointer (some ⟨tk,0,none⟩),.iface T (.pointer (some ⟨b,0,none⟩)),.int .i64 kind] H fun v H'=>v= .tuple #[]∧ ∃Y,Sames Y X∧TkAt Hp H' tk (D++Y)
def EndT (u:KV):Prop:=u.1=14∨u.1=1
theorem NodesAt.own {H:Heap} {g n c:Nat} {D:List Nd} (h:OwnS H tq41 6 (some ⟨g,0,none⟩) n c (ndCells D)):NodesAt H g 0 D:=by
 have hn:=h.1
 rw[ndCells_len] at hn
 rcases h.2 with⟨h0,_⟩|⟨g',cur,he,hg,hnc,_,hs,ht⟩
 ·cases h0
 cases he
 refine⟨cur,_,_,hg,?_,fun i nd hi k hk=>?_⟩
 ·have:=Nat.mul_le_mul_right 6 hnc;omega
 ·have h1:=ndCells_get D i nd hi k hk
  rw[←ht] at h1
  have hl:=(List.getElem?_eq_some_iff.1 hi).1
  rw[List.getElem?_take,if_pos (by omega)] at h1
  rw[←h1]
  simp
end Go.Vx
