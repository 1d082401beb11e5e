/- A part of the proof of what the last text of this claim says: QP2. Conditions: none. -/
import Derived.Test.YtkopcepfeeemhaaGreatDoorZAl
import Derived.Test.YtkopcepfeeemhaaGreatDoorYBAa
set_option maxRecDepth 10000
namespace Go.Vx
open Go Go.Proofs
theorem ne_mem {a b:Nat} (h:a≠b):a∉ [b]:=by simpa using h
theorem LexI1_any {E:PEnv} {H:Heap} (ls:LS E H) (q at_:Nat) (t:KV) (st en:Nat) (hx:Lx E.toSrc at_ t st en) (hq:q=at_∧at_≠0∨q=0∧H[E.prev]?=some (.cells #[.int .i64 (at_:Nat)] tq3)):
 Fn PP fq196 #[.int .i64 q,.pointer (some ⟨E.prev,0,none⟩),.pointer (some ⟨E.srcb,0,none⟩)] H fun r H'=>
  r= .tuple #[.agg #[.int .i64 t.1,.int .i64 st,.int .i64 en,.string t.2],.nilIface]∧Ext [E.prev] H H'∧ ∃n:Int,H'[E.prev]?=some (.cells #[.int .i64 n] tq3):=by
 refine LexI1.enter _ _ _ H _ ?_
 unfold LexI1.W
 refine nbI fun H1 e1 hb1 x1 s1=>?_
 obtain⟨n,hp⟩:=ls.prev
 have hpl:=lt_of_get hp
 have hp1:=x1.get _ _ hp (by simp)
 have hs1:=x1.get _ _ ls.srcb (by simp)
 have src1:=ls.src.ext x1
 have fin: ∀H2,Ext [] H1 H2→
  newB H2 (.cells #[(.int .i64 0),(.int .i64 0),(.int .i64 0),(.string (bs []))] tq85) fun b17 H18=>
  storeW H18 ⟨b17,0,none⟩ [(.int .i64 t.1),(.int .i64 st),(.int .i64 en),(.string t.2)] fun H19=>
  loadW H19 false 1 ⟨b17,2,none⟩ (pInt .i64) fun(x20:Int)=>
  storeW H19 ⟨E.prev,0,none⟩ [(.int .i64 x20)] fun H21=>
  loadW H21 true 4 ⟨b17,0,none⟩ ⟨Int×Int×Int×ByteArray,fun x=>(.agg #[(.int .i64 x.1),(.int .i64 x.2.1),(.int .i64 x.2.2.1),(.string x.2.2.2)])⟩ fun(x22:Int×Int×Int×ByteArray)=>
  storeW H21 ⟨H.size,0,none⟩ [(.int .i64 x22.1),(.int .i64 x22.2.1),(.int .i64 x22.2.2.1),(.string x22.2.2.2)] fun H23=>
  retK (consO (loadC H23 true 4 ⟨H.size,0,none⟩) ((consO (some .nilIface) (some [])))) H23 fun r H'=>
   r= .tuple #[.agg #[.int .i64 t.1,.int .i64 st,.int .i64 en,.string t.2],.nilIface]∧Ext [E.prev] H H'∧ ∃n:Int,H'[E.prev]?=some (.cells #[.int .i64 n] tq3):=by
  intro H2 x2
  have hp2:=x2.get _ _ hp1 (by simp)
  have hb2:=x2.get _ _ hb1 (by simp)
  have z2:=x2.size
  refine nbI fun H3 e3 hb3 x3 s3=>?_
  refine swI hb3 (by simp) rfl rfl fun H4 e4 hb4 x4 s4=>?_
  have hb4':H4[H2.size]?=some (.cells #[.int .i64 t.1,.int .i64 st,.int .i64 en,.string t.2] tq85):=hb4
  have hp4:=x4.get _ _ (x3.get _ _ hp2 (by simp)) (ne_mem (by omega))
  have hb14:=x4.get _ _ (x3.get _ _ hb2 (by simp)) (ne_mem (by omega))
  refine⟨(en:Int),lcO hb4' rfl,?_⟩
  refine swI hp4 (by simp) rfl rfl fun H5 e5 hp5 x5 s5=>?_
  have hp5':H5[E.prev]?=some (.cells #[.int .i64 (en:Int)] tq3):=hp5
  have hb5:=x5.get _ _ hb4' (ne_mem (by omega))
  have hb15:=x5.get _ _ hb14 (ne_mem (by omega))
  refine⟨(t.1,(st:Int),(en:Int),t.2),lcO hb5 rfl,?_⟩
  dsimp only
  refine swI hb15 (by simp) rfl rfl fun H6 e6 hb6 x6 s6=>?_
  have hb6':H6[H.size]?=some (.cells #[.int .i64 t.1,.int .i64 st,.int .i64 en,.string t.2] tq85):=hb6
  rw[lcO hb6' rfl]
  refine rkI ⟨rfl,?_,_,x6.get _ _ hp5' (ne_mem (by omega))⟩
  have a4:Ext [] H H4:=by
   rw[e4]
   exact((x1.trans x2).trans x3).setNew (by omega) _
  have a5:Ext [E.prev] H H5:=a4.of_nil.trans x5
  rw[e6]
  exact a5.setNew (Nat.le_refl _) _
 refine fkI (fun h0=>?_) (fun h0=>?_)
 ·have h0':q=0:=by simpa using h0
  have hat:H[E.prev]?=some (.cells #[.int .i64 (at_:Nat)] tq3):=by
   rcases hq with⟨h1,h2⟩|⟨_,h⟩
   ·omega
   ·exact h
  have hat1:=x1.get _ _ hat (by simp)
  refine⟨_,lcO hat1 rfl,_,lcO hs1 rfl,(hx.2.2.2.2 H1 src1).mono ?_⟩
  rintro _ H2 ⟨rfl,x2⟩
  exact⟨(t.1,(st:Int),(en:Int),t.2),rfl,fin H2 x2⟩
 ·have h0':q≠0:=by simpa using h0
  have:q=at_:=by
   rcases hq with⟨h1,h2⟩|⟨h1,_⟩
   ·exact h1
   ·omega
  subst this
  refine⟨_,lcO hs1 rfl,(hx.2.2.2.2 H1 src1).mono ?_⟩
  rintro _ H2 ⟨rfl,x2⟩
  exact⟨(t.1,(st:Int),(en:Int),t.2),rfl,fin H2 x2⟩
theorem advance_ok (E:PEnv) (t u:KV) (l:List KV):POk1 E fq149 #[.pointer (some ⟨E.p,0,none⟩)] (t::u::l) (u::l) .nilIface:=by
 intro H ps
 obtain⟨pe,t',st,en,r,hl,hp,hen,h14,hr⟩:=ps.p
 cases hl
 obtain⟨st',en',hx,hr'⟩:=hr
 have hlt:=ps.lt
 obtain⟨n,hprev⟩:=ps.ls.prev
 have hpp:E.prev≠E.p:=cells_ne hprev hp (by decide)
 refine advance.enter _ H _ ?_
 unfold advance.W
 refine⟨(en:Int),lcO hp rfl,?_⟩
 refine swI hp (by simp) rfl rfl fun H1 e1 hp1 x1 s1=>?_
 have hp1':H1[E.p]?=some (E.obj en t st en):=hp1
 have ls1:=ps.ls.keep x1 ⟨_,_,hp⟩
 have tail: ∀H2,Ext [E.prev] H1 H2→ ∀b o,H1.size≤b→H2[b]?=some o→ ∀(c:Array Value) (fr:Nat×Nat),o= .cells c tq85 fr→c.size=4→freeFrom fr 0 4=true→True:=fun _ _ _ _ _ _ _ _ _ _ _=>trivial
 refine⟨(E.prev,E.srcb),lcO hp1' rfl,(en:Int),lcO hp1' rfl,?_,?_⟩
 ·refine(LexI1_any ls1 en en u st' en' hx (.inl ⟨rfl,by omega⟩)).mono ?_
  rintro _ H2 ⟨rfl,x2,n2,hn2⟩
  refine⟨(u.1,(st':Int),(en':Int),u.2),rfl,?_⟩
  dsimp only
  have hp2:=x2.get _ _ hp1' (ne_mem hpp.symm)
  have z2:=x2.size
  refine nbI fun H3 e3 hb3 x3 s3=>?_
  have hp3:=x3.get _ _ hp2 (by simp)
  refine⟨lcO hp3 rfl,lcO hp3 rfl,?_⟩
  refine swI hb3 (by simp) rfl rfl fun H4 e4 hb4 x4 s4=>?_
  have hb4':H4[H2.size]?=some (.cells #[.int .i64 u.1,.int .i64 st',.int .i64 en',.string u.2] tq85):=hb4
  have hp4:=x4.get _ _ hp3 (ne_mem (by omega))
  refine⟨(u.1,(st':Int),(en':Int),u.2),lcO hb4' rfl,?_⟩
  dsimp only
  refine swI hp4 (by simp) rfl rfl fun H5 e5 hp5 x5 s5=>?_
  have hp5':H5[E.p]?=some (E.obj en u st' en'):=hp5
  have hn5:=x5.get _ _ (x4.get _ _ (x3.get _ _ hn2 (by simp)) (ne_mem (by omega))) (ne_mem hpp)
  have a4:Ext [] H2 H4:=by rw[e4];exact x3.setNew (Nat.le_refl _) _
  have hS:Ext E.S H H5:=(x1.mono (by simp[PEnv.S])).trans ((x2.mono (by simp[PEnv.S])).trans (a4.of_nil.trans (x5.mono (by simp[PEnv.S]))))
  have keep: ∀(k:Nat) (d:Array Value) (e:TypeId) (fr:Nat×Nat),H[k]?=some (.cells d e fr)→e≠tq92→e≠tq3→H5[k]?=some (.cells d e fr):=by
   intro k d e fr hk h1 h2
   refine hS.get _ _ hk ?_
   have:=cells_ne hk hp h1
   have:=cells_ne hk hprev h2
   simp only[PEnv.S,List.mem_cons,List.not_mem_nil,or_false,not_or]
   exact⟨by assumption,by assumption⟩
  refine rkI ⟨rfl,⟨⟨⟨n2,hn5⟩,keep _ _ _ _ ps.ls.srcb (by decide) (by decide),ps.ls.src.keep (fun k c e fr hk ho=>keep _ _ _ _ hk ?_ ?_) (fun k o hk ho=>hS.get _ _ ho (by have:=ps.ls.lo;simp only[PEnv.S,List.mem_cons,List.not_mem_nil,or_false,not_or];omega)),ps.ls.lo⟩,_,u,st',en',l,rfl,hp5',hx.2.2.1,hx.2.2.2.1,hr'⟩,hS,hlt,fun _ _=>trivial⟩
  ·rcases ho with rfl|rfl<;>decide
  ·rcases ho with rfl|rfl<;>decide
 ·refine nbI fun H2 e2 hb2 x2 s2=>?_
  have hp2:=x2.get _ _ hp1' (by simp)
  refine⟨lcO hp2 rfl,lcO hp2 rfl,?_⟩
  have ls2:=ls1.keep x2.of_nil ⟨_,_,hp1'⟩
  refine(LexI1_any ls2 en en u st' en' hx (.inl ⟨rfl,by omega⟩)).mono ?_
  rintro _ H3 ⟨rfl,x3,n3,hn3⟩
  refine⟨(u.1,(st':Int),(en':Int),u.2),rfl,?_⟩
  dsimp only
  have hp3:=x3.get _ _ hp2 (ne_mem hpp.symm)
  have z1:=s1
  have hb3:=x3.get _ _ hb2 (ne_mem (by omega))
  refine swI hb3 (by simp) rfl rfl fun H4 e4 hb4 x4 s4=>?_
  have hb4':H4[H1.size]?=some (.cells #[.int .i64 u.1,.int .i64 st',.int .i64 en',.string u.2] tq85):=hb4
  have hp4:=x4.get _ _ hp3 (ne_mem (by omega))
  refine⟨(u.1,(st':Int),(en':Int),u.2),lcO hb4' rfl,?_⟩
  dsimp only
  refine swI hp4 (by simp) rfl rfl fun H5 e5 hp5 x5 s5=>?_
  have hp5':H5[E.p]?=some (E.obj en u st' en'):=hp5
  have hn5:=x5.get _ _ (x4.get _ _ hn3 (ne_mem (by omega))) (ne_mem hpp)
  have a4:Ext E.S H H4:=by
   rw[e4]
   exact((x1.mono (by simp[PEnv.S])).trans (x2.of_nil.trans (x3.mono (by simp[PEnv.S])))).setNew (by omega) _
  have hS:Ext E.S H H5:=a4.trans (x5.mono (by simp[PEnv.S]))
  have keep: ∀(k:Nat) (d:Array Value) (e:TypeId) (fr:Nat×Nat),H[k]?=some (.cells d e fr)→e≠tq92→e≠tq3→H5[k]?=some (.cells d e fr):=by
   intro k d e fr hk h1 h2
   refine hS.get _ _ hk ?_
   have:=cells_ne hk hp h1
   have:=cells_ne hk hprev h2
   simp only[PEnv.S,List.mem_cons,List.not_mem_nil,or_false,not_or]
   exact⟨by assumption,by assumption⟩
  refine rkI ⟨rfl,⟨⟨⟨n3,hn5⟩,keep _ _ _ _ ps.ls.srcb (by decide) (by decide),ps.ls.src.keep (fun k c e fr hk ho=>keep _ _ _ _ hk ?_ ?_) (fun k o hk ho=>hS.get _ _ ho (by have:=ps.ls.lo;simp only[PEnv.S,List.mem_cons,List.not_mem_nil,or_false,not_or];omega)),ps.ls.lo⟩,_,u,st',en',l,rfl,hp5',hx.2.2.1,hx.2.2.2.1,hr'⟩,hS,hlt,fun _ _=>trivial⟩
  ·rcases ho with rfl|rfl<;>decide
  ·rcases ho with rfl|rfl<;>decide
theorem PS.kind {E:PEnv} {H:Heap} {t:KV} {l:List KV} (ps:PS E H (t::l)):loadC H false 1 ⟨E.p,5,none⟩=some (.int .i64 t.1):=by
 obtain⟨pe,t',st,en,r,hl,hp,hen,h14,hr⟩:=ps.p
 cases hl
 exact lcO hp rfl
theorem PS.value {E:PEnv} {H:Heap} {t:KV} {l:List KV} (ps:PS E H (t::l)):loadC H false 1 ⟨E.p,8,none⟩=some (.string t.2):=by
 obtain⟨pe,t',st,en,r,hl,hp,hen,h14,hr⟩:=ps.p
 cases hl
 exact lcO hp rfl
theorem PS.start {E:PEnv} {H:Heap} {t:KV} {l:List KV} (ps:PS E H (t::l)): ∃st:Nat,loadC H false 1 ⟨E.p,6,none⟩=some (.int .i64 (st:Nat))∧(t.1=14→l=[]→st+1=E.text.size):=by
 obtain⟨pe,t',st,en,r,hl,hp,hen,h14,hr⟩:=ps.p
 cases hl
 exact⟨st,lcO hp rfl,fun hk h=>by subst h;have:=h14 hk;have:en=E.text.size:=hr;omega⟩
theorem peek_ok (E:PEnv) (t:KV) (l:List KV) (k:Int):POk1 E fq153 #[.pointer (some ⟨E.p,0,none⟩),.int .i64 k] (t::l) (t::l) (.bool (t.1==k)):=by
 intro H ps
 refine peek.enter _ _ H _ ?_
 unfold peek.W
 exact⟨_,ps.kind,rkI ⟨rfl,Cx.start ps⟩⟩
theorem skip_yes (E:PEnv) (t u:KV) (l:List KV) (k:Int) (hk:t.1=k):POk1 E fq150 #[.pointer (some ⟨E.p,0,none⟩),.int .i64 k] (t::u::l) (u::l) (.tuple #[.bool true,.nilIface]):=by
 intro H ps
 refine skip.enter _ _ H _ ?_
 unfold skip.W
 refine⟨_,ps.kind,fkI (fun _=>?_) (fun hh=>by simp[hk] at hh)⟩
 refine(Cx.start ps).call1 (advance_ok E t u l) () rfl fun H1 _ c1=>?_
 exact rkI ⟨rfl,c1⟩
theorem skip_no (E:PEnv) (t:KV) (l:List KV) (k:Int) (hk:t.1≠k):POk1 E fq150 #[.pointer (some ⟨E.p,0,none⟩),.int .i64 k] (t::l) (t::l) (.tuple #[.bool false,.nilIface]):=by
 intro H ps
 refine skip.enter _ _ H _ ?_
 unfold skip.W
 refine⟨_,ps.kind,fkI (fun hh=>absurd (by simpa using hh) hk) (fun _=>?_)⟩
 exact rkI ⟨rfl,Cx.start ps⟩
end Go.Vx
