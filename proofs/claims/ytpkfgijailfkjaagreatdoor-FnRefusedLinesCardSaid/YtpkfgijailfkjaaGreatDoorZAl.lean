/- A part of the proof of what the last text of this claim says: QP2, PX0. Conditions: none. -/
import Derived.Test.YtpkfgijailfkjaaGreatDoorZAj
import Derived.Test.YtpkfgijailfkjaaGreatDoorZAk
set_option maxRecDepth 10000
namespace Go.Vx
open Go Go.Proofs
theorem ne_mem {a b:Nat} (h:a≠b):a∉ [b]:=by simpa using h
theorem PS.kind {E:PEnv} {H:Heap} {t:KV} {l:List KV} (ps:PS E H (t::l)):loadC H false 1 ⟨E.p,5,none⟩=some (.int .i64 t.1):=by
 obtain⟨pe,t',st,en,r,hl,hp,hen,h14,hr⟩:=ps.p
 cases hl
 exact lcO hp rfl
theorem PS.value {E:PEnv} {H:Heap} {t:KV} {l:List KV} (ps:PS E H (t::l)):loadC H false 1 ⟨E.p,8,none⟩=some (.string t.2):=by
 obtain⟨pe,t',st,en,r,hl,hp,hen,h14,hr⟩:=ps.p
 cases hl
 exact lcO hp rfl
theorem PS.start {E:PEnv} {H:Heap} {t:KV} {l:List KV} (ps:PS E H (t::l)): ∃st:Nat,loadC H false 1 ⟨E.p,6,none⟩=some (.int .i64 (st:Nat))∧(t.1=14→l=[]→st+1=E.text.size):=by
 obtain⟨pe,t',st,en,r,hl,hp,hen,h14,hr⟩:=ps.p
 cases hl
 exact⟨st,lcO hp rfl,fun hk h=>by subst h;have:=h14 hk;have:en=E.text.size:=hr;omega⟩
def LxX (E:Src) (at_:Nat) (k:Int) (V:ByteArray→Prop) (st en:Nat):Prop:=
 at_≤st∧en≤E.text.size∧0<en∧ ∀H,SrcAt E H→Fn PP fq68 #[.pointer (some ⟨E.src,0,none⟩),.int .i64 at_] H fun r H'=>
  ∃v,V v∧r= .tuple #[.agg #[.int .i64 k,.int .i64 st,.int .i64 en,.string v],.nilIface]∧Ext [] H H'
theorem LexI1_X {E:PEnv} {H:Heap} (ls:LS E H) (q at_:Nat) {k:Int} {V:ByteArray→Prop} {st en:Nat} (hx:LxX E.toSrc at_ k V st en) (hq:q=at_∧at_≠0∨q=0∧H[E.prev]?=some (.cells #[.int .i64 (at_:Nat)] tq3)):
 Fn PP fq67 #[.int .i64 q,.pointer (some ⟨E.prev,0,none⟩),.pointer (some ⟨E.srcb,0,none⟩)] H fun r H'=>
  ∃v,V v∧r= .tuple #[.agg #[.int .i64 k,.int .i64 st,.int .i64 en,.string v],.nilIface]∧Ext [E.prev] H H'∧ ∃n:Int,H'[E.prev]?=some (.cells #[.int .i64 n] tq3):=by
 refine LexI1.enter _ _ _ H _ ?_
 unfold LexI1.W
 refine nbI fun H1 e1 hb1 x1 s1=>?_
 obtain⟨n,hp⟩:=ls.prev
 have hpl:=lt_of_get hp
 have hp1:=x1.get _ _ hp (by simp)
 have hs1:=x1.get _ _ ls.srcb (by simp)
 have src1:=ls.src.ext x1
 have fin: ∀v,V v→ ∀H2,Ext [] H1 H2→
  newB H2 (.cells #[(.int .i64 0),(.int .i64 0),(.int .i64 0),(.string (bs []))] tq87) fun b17 H18=>
  storeW H18 ⟨b17,0,none⟩ [(.int .i64 k),(.int .i64 st),(.int .i64 en),(.string v)] fun H19=>
  loadW H19 false 1 ⟨b17,2,none⟩ (pInt .i64) fun(x20:Int)=>
  storeW H19 ⟨E.prev,0,none⟩ [(.int .i64 x20)] fun H21=>
  loadW H21 true 4 ⟨b17,0,none⟩ ⟨Int×Int×Int×ByteArray,fun x=>(.agg #[(.int .i64 x.1),(.int .i64 x.2.1),(.int .i64 x.2.2.1),(.string x.2.2.2)])⟩ fun(x22:Int×Int×Int×ByteArray)=>
  storeW H21 ⟨H.size,0,none⟩ [(.int .i64 x22.1),(.int .i64 x22.2.1),(.int .i64 x22.2.2.1),(.string x22.2.2.2)] fun H23=>
  retK (consO (loadC H23 true 4 ⟨H.size,0,none⟩) ((consO (some .nilIface) (some [])))) H23 fun r H'=>
   ∃v,V v∧r= .tuple #[.agg #[.int .i64 k,.int .i64 st,.int .i64 en,.string v],.nilIface]∧Ext [E.prev] H H'∧ ∃n:Int,H'[E.prev]?=some (.cells #[.int .i64 n] tq3):=by
  intro v hv H2 x2
  have hp2:=x2.get _ _ hp1 (by simp)
  have hb2:=x2.get _ _ hb1 (by simp)
  have z2:=x2.size
  refine nbI fun H3 e3 hb3 x3 s3=>?_
  refine swI hb3 (by simp) rfl rfl fun H4 e4 hb4 x4 s4=>?_
  have hb4':H4[H2.size]?=some (.cells #[.int .i64 k,.int .i64 st,.int .i64 en,.string v] tq87):=hb4
  have hp4:=x4.get _ _ (x3.get _ _ hp2 (by simp)) (ne_mem (by omega))
  have hb14:=x4.get _ _ (x3.get _ _ hb2 (by simp)) (ne_mem (by omega))
  refine⟨(en:Int),lcO hb4' rfl,?_⟩
  refine swI hp4 (by simp) rfl rfl fun H5 e5 hp5 x5 s5=>?_
  have hp5':H5[E.prev]?=some (.cells #[.int .i64 (en:Int)] tq3):=hp5
  have hb5:=x5.get _ _ hb4' (ne_mem (by omega))
  have hb15:=x5.get _ _ hb14 (ne_mem (by omega))
  refine⟨(k,(st:Int),(en:Int),v),lcO hb5 rfl,?_⟩
  dsimp only
  refine swI hb15 (by simp) rfl rfl fun H6 e6 hb6 x6 s6=>?_
  have hb6':H6[H.size]?=some (.cells #[.int .i64 k,.int .i64 st,.int .i64 en,.string v] tq87):=hb6
  rw[lcO hb6' rfl]
  refine rkI ⟨v,hv,rfl,?_,_,x6.get _ _ hp5' (ne_mem (by omega))⟩
  have a4:Ext [] H H4:=by
   rw[e4]
   exact((x1.trans x2).trans x3).setNew (by omega) _
  have a5:Ext [E.prev] H H5:=a4.of_nil.trans x5
  rw[e6]
  exact a5.setNew (Nat.le_refl _) _
 refine fkI (fun h0=>?_) (fun h0=>?_)
 ·have h0':q=0:=by simpa using h0
  have hat:H[E.prev]?=some (.cells #[.int .i64 (at_:Nat)] tq3):=by
   rcases hq with⟨h1,h2⟩|⟨_,h⟩
   ·omega
   ·exact h
  have hat1:=x1.get _ _ hat (by simp)
  refine⟨_,lcO hat1 rfl,_,lcO hs1 rfl,(hx.2.2.2 H1 src1).mono ?_⟩
  rintro _ H2 ⟨v,hv,rfl,x2⟩
  exact⟨(k,(st:Int),(en:Int),v),rfl,fin v hv H2 x2⟩
 ·have h0':q≠0:=by simpa using h0
  have:q=at_:=by
   rcases hq with⟨h1,h2⟩|⟨h1,_⟩
   ·exact h1
   ·omega
  subst this
  refine⟨_,lcO hs1 rfl,(hx.2.2.2 H1 src1).mono ?_⟩
  rintro _ H2 ⟨v,hv,rfl,x2⟩
  exact⟨(k,(st:Int),(en:Int),v),rfl,fin v hv H2 x2⟩
end Go.Vx
