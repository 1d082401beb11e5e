/- A part of the proof of what the last text of this claim says: Vx7, Vx8, Vx9, Vx10. Conditions: none. -/
import Derived.Deep.LoopGhost
import Derived.Defers
import Derived.Test.YtkopcepfeeemhaaGreatDoorZAa
namespace Go.Vx
open Go
variable {D:List Deferred}
structure Slot where
 t:Nat
 α:Type
 to:α→Value
 get:Value→Option α
 ok: ∀v x,get v=some x→v=to x
def Slot.raw (t:Nat):Slot:=⟨t,Value,fun v=>v,some,fun _ _ h=>by cases h;rfl⟩
def Slot.int (k:IntKind) (t:Nat):Slot:=
 ⟨t,Int,fun n=> .int k n,fun v=>match v with| .int k' n=>if k'=k then some n else none|_=>none,fun v x h=>by
  split at h
  ·split at h
   ·rename_i e;cases h;rw[e]
   ·cases h
  ·cases h⟩
def Slot.bool (t:Nat):Slot:=
 ⟨t,Bool,fun b=> .bool b,fun v=>match v with| .bool b=>some b|_=>none,fun v x h=>by split at h<;>cases h;rfl⟩
def Slot.str (t:Nat):Slot:=
 ⟨t,ByteArray,fun s=> .string s,fun v=>match v with| .string s=>some s|_=>none,fun v x h=>by split at h<;>cases h;rfl⟩
def Slot.slc (t:Nat):Slot:=
 ⟨t,Option Addr×Nat×Nat,fun x=> .slice x.1 x.2.1 x.2.2,fun v=>match v with| .slice a n c=>some (a,n,c)|_=>none,fun v x h=>by split at h<;>cases h;rfl⟩
def Ty:List Slot→Type
 |[]=>Unit
 |s::r=>s.α×Ty r
def envOf:(l:List Slot)→Ty l→Env
 |[],_=> []
 |s::r,x=>(s.t,s.to x.1)::envOf r x.2
def getOf:(l:List Slot)→Env→Option (Ty l)
 |[],_=>some ()
 |s::r,ρ=>match look ρ s.t with
  |some v=>match s.get v with
   |some x=>match getOf r ρ with
    |some y=>some (x,y)
    |none=>none
   |none=>none
  |none=>none
def dropE (W:List Nat):Env→Env
 |[]=> []
 |(d,v)::r=>match memN d W with
  |true=>dropE W r
  |false=>(d,v)::dropE W r
structure Hints where
 pat:Pats
 loop:Nat→List Slot
 joinC:Nat→Option (List Slot)
 joinB:Nat→Option (List Slot)
 joinR:Nat→Option (List Slot×Bool)
inductive Ex where
 |normal
 |exit (id:Nat)
 |ret
def writes:Code→List Nat
 | .region _ ops _=>dstsL ops.toList
 | .seq a b=>writes a++writes b
 | .cond _ a b=>writes a++writes b
 | .block _ b=>writes b
 | .loop b=>writes b
 |_=> []
def joinW (l:List Slot) (W:List Nat) (ρ:Env) (body:(Env→Heap→Prop)→Prop) (rest:Env→Heap→Prop):Prop:=
 ∃J:Ty l→Heap→Prop,body (fun ρ' H'=>match getOf l ρ' with
  |some x=>J x H'
  |none=>False)∧ ∀x H',J x H'→rest (envOf l x++dropE W ρ) H'
def joinP (l:List Slot) (W:List Nat) (ρ:Env) (H:Heap) (body:(Env→Heap→Prop)→Prop) (rest:Env→Heap→Prop):Prop:=
 ∃x:Ty l,body (fun ρ' H'=>match getOf l ρ' with
  |some y=>y=x∧H'=H
  |none=>False)∧rest (envOf l x++dropE W ρ) H
def joinO (o:Option (List Slot)) (W:List Nat) (ρ:Env) (body:(Env→Heap→Prop)→Prop) (rest:Env→Heap→Prop):Prop:=
 match o with
 |none=>body rest
 |some l=>joinW l W ρ body rest
def regionW (P:Program) (n:Nat) (hs:Hints) (ops:Array Oper) (draw:Bool) (ρ:Env) (H:Heap) (K:Env→Heap→Prop):Prop:=
 match draw with
 |true=>drawW P n hs.pat ops ρ H K
 |false=>opsW P n hs.pat ops ops.toList ρ H K
def loopW (l:List Slot) (W:List Nat) (ρ:Env) (H:Heap) (body:Env→Heap→(Env→Heap→Prop)→Prop):Prop:=
 match getOf l ρ with
 |some x0=> ∃(I:Ty l→Heap→Prop) (μ:Ty l→Heap→Nat),I x0 H∧ ∀x H',I x H'→body (envOf l x++dropE W ρ) H' (fun ρ2 H2=>match getOf l ρ2 with
  |some y=>I y H2∧μ y H2<μ x H'
  |none=>False)
 |none=>False
def codeW (P:Program) (n:Nat) (hs:Hints):Nat→Code→Env→Heap→(Ex→Env→Heap→Prop)→Prop
 |_,.skip,ρ,H,Q=>Q .normal ρ H
 |_,.region id ops draw,ρ,H,Q=>match hs.joinR id with
  |none=>regionW P n hs ops draw ρ H (fun ρ' H'=>Q .normal ρ' H')
  |some (l,true)=>joinP l (dstsL ops.toList) ρ H (fun K=>regionW P n hs ops draw ρ H K) (fun ρ' H'=>Q .normal ρ' H')
  |some (l,false)=>joinW l (dstsL ops.toList) ρ (fun K=>regionW P n hs ops draw ρ H K) (fun ρ' H'=>Q .normal ρ' H')
 |k,.seq a b,ρ,H,Q=>codeW P n hs k a ρ H (fun e ρ' H'=>match e with
  | .normal=>codeW P n hs k b ρ' H' Q
  | .exit i=>Q (.exit i) ρ' H'
  | .ret=>Q .ret ρ' H')
 |k,.cond c a b,ρ,H,Q=>match c with
  | .tmp t=>match look ρ t with
   |some (.bool x)=>joinO (hs.joinC t) (writes a++writes b) ρ (fun K=>forkB x
    (codeW P n hs k a ((t,.bool true)::ρ) H (fun e ρ' H'=>match e with
      | .normal=>K ρ' H'
      | .exit i=>Q (.exit i) ρ' H'
      | .ret=>Q .ret ρ' H'))
    (codeW P n hs k b ((t,.bool false)::ρ) H (fun e ρ' H'=>match e with
      | .normal=>K ρ' H'
      | .exit i=>Q (.exit i) ρ' H'
      | .ret=>Q .ret ρ' H'))) (fun ρ' H'=>Q .normal ρ' H')
   |_=>False
  |_=>False
 |_,.block id b,ρ,H,Q=>joinO (hs.joinB id) (writes b) ρ (fun K=>codeW P n hs id b ρ H (fun e ρ' H'=>match e with
  | .normal=>K ρ' H'
  | .exit i=>match Nat.beq i id with
   |true=>K ρ' H'
   |false=>Q (.exit i) ρ' H'
  | .ret=>Q .ret ρ' H')) (fun ρ' H'=>Q .normal ρ' H')
 |k,.loop b,ρ,H,Q=>loopW (hs.loop k) (writes b) ρ H fun ρ' H' next=>codeW P n hs k b ρ' H' (fun e ρ2 H2=>match e with
  | .normal=>next ρ2 H2
  | .exit i=>Q (.exit i) ρ2 H2
  | .ret=>Q .ret ρ2 H2)
 |_,.exit i,ρ,H,Q=>Q (.exit i) ρ H
 |_,.ret,ρ,H,Q=>Q .ret ρ H
 |_,_,_,_,_=>False
theorem look_append_some (ρ σ:Env) (t:Nat) (v:Value) (h:look (ρ++σ) t=some v):look ρ t=some v∨(look ρ t=none∧look σ t=some v):=by
 induction ρ with
 |nil=>exact .inr ⟨rfl,h⟩
 |cons p r ih=>
  obtain⟨d,u⟩:=p
  simp only[List.cons_append,look] at h⊢
  split at h<;>simp_all
theorem look_drop (W:List Nat) (ρ:Env) (t:Nat) (v:Value) (h:look (dropE W ρ) t=some v):look ρ t=some v∧t∉W:=by
 induction ρ with
 |nil=>simp[dropE,look] at h
 |cons p r ih=>
  obtain⟨d,u⟩:=p
  simp only[dropE] at h
  split at h
  ·rename_i hm
   have hm':=(memN_iff d W).1 hm
   have:=ih h
   refine⟨?_,this.2⟩
   have hne:d≠t:=fun e=>this.2 (e▸hm')
   rw[look_cons_ne _ _ _ _ hne]
   exact this.1
  ·rename_i hm
   have hm':d∉W:=fun hin=>by rw[(memN_iff d W).2 hin] at hm;cases hm
   by_cases e:d=t
   ·subst e;rw[look_cons_self] at h;cases h;exact⟨look_cons_self _ _ _,hm'⟩
   ·rw[look_cons_ne _ _ _ _ e] at h
    have:=ih h
    exact⟨by rw[look_cons_ne _ _ _ _ e];exact this.1,this.2⟩
theorem look_envOf {n:Nat} {ρ':Env} {a:Act} (hr:Rep D n ρ' a): ∀(l:List Slot) (x:Ty l),getOf l ρ'=some x→ ∀t v,look (envOf l x) t=some v→a.tmps.getD t undef=v
 |[],_,_,t,v,h=>by simp[envOf,look] at h
 |s::r,x,hx,t,v,h=>by
  simp only[getOf] at hx
  split at hx
  ·rename_i u hu
   split at hx
   ·rename_i y hy
    split at hx
    ·rename_i z hz
     cases hx
     simp only[envOf] at h
     by_cases e:s.t=t
     ·subst e
      rw[look_cons_self] at h
      cases h
      rw[hr.get _ _ hu]
      exact s.ok _ _ hy
     ·rw[look_cons_ne _ _ _ _ e] at h
      exact look_envOf hr r z hz t v h
    ·cases hx
   ·cases hx
  ·cases hx
theorem rep_join {n:Nat} {ρ ρ':Env} {a a':Act} {W:List Nat} {l:List Slot} {x:Ty l} (hr:Rep D n ρ a) (hr':Rep D n ρ' a') (hk:Keep W a a') (hx:getOf l ρ'=some x):
 Rep D n (envOf l x++dropE W ρ) a':=by
 refine⟨hr'.defers,hr'.size,fun t v h=>?_⟩
 rcases look_append_some _ _ _ _ h with h|⟨_,h⟩
 ·exact look_envOf hr' l x hx t v h
 ·obtain⟨h1,h2⟩:=look_drop _ _ _ _ h
  rw[hk t h2]
  exact hr.get t v h1
def post (D:List Deferred) (n:Nat) (W:List Nat) (a0:Act) (w0:World) (Q:Ex→Env→Heap→Prop):Exit→Act→World→Prop
 | .normal,a,w=>(∃ρ,Rep D n ρ a∧Q .normal ρ w.heap)∧Same w0 w∧Keep W a0 a
 | .exit i,a,w=>(∃ρ,Rep D n ρ a∧Q (.exit i) ρ w.heap)∧Same w0 w∧Keep W a0 a
 | .ret,a,w=>(∃ρ,Rep D n ρ a∧Q .ret ρ w.heap)∧Same w0 w∧Keep W a0 a
 |_,_,_=>False
section
variable {P:Program} {n:Nat} {hs:Hints}
theorem region_sound (hm:P.follows .mixedOrders=true) {id:Nat} {ops:Array Oper} {draw:Bool} {ρ:Env} {a:Act} {w:World} {K:Env→Heap→Prop} {Q:Exit→Act→World→Prop}
 (hr:Rep D n ρ a) (hQ: ∀c a w,¬Q (.panic c) a w) (h:regionW P n hs ops draw ρ w.heap K)
 (hq: ∀a' w',(∃ρ',Rep D n ρ' a'∧K ρ' w'.heap)→Same w w'→Keep (dstsL ops.toList) a a'→Q .normal a' w'):(Code.region id ops draw).wp P Q a w:=by
 have hmem: ∀o∈ops.toList,∀d,o.dst=some d→d∈dstsL ops.toList:=fun o ho d hd=>mem_dstsL _ o ho d hd
 cases draw with
 |false=>exact wp_region_list (ops_sound _ _ _ _ hr h hmem hq)
 |true=>
  simp only[regionW,drawW] at h
  split at h
  ·rename_i hns
   refine wp_region_any hm (wpHeld_any _ _ _ _ (draw_sound hns hQ (fun i o d hi hd=>hmem o (by simpa using Array.mem_of_getElem? hi) d hd) _ _ [] ρ a _ (closed_start _ _) hr h ?_))
   intro a' w' hx hs' hk
   exact hq a' w' hx ⟨hs'.os,hs'.tape,hs'.output⟩ hk
  ·exact h.elim
theorem join_sound {o:Option (List Slot)} {W:List Nat} {ρ:Env} {body:(Env→Heap→Prop)→Prop} {rest:Env→Heap→Prop} (h:joinO o W ρ body rest):
 ∃K:Env→Heap→Prop,body K∧ ∀ρ' H' a a',Rep D n ρ a→Rep D n ρ' a'→Keep W a a'→K ρ' H'→ ∃ρ2,Rep D n ρ2 a'∧rest ρ2 H':=by
 cases o with
 |none=>exact⟨rest,h,fun ρ' H' a a' _ hr' _ hk=>⟨ρ',hr',hk⟩⟩
 |some l=>
  obtain⟨J,hb,hJ⟩:=h
  refine⟨_,hb,fun ρ' H' a a' hr hr' hk hx=>?_⟩
  split at hx
  ·rename_i x hgx
   exact⟨_,rep_join hr hr' hk hgx,hJ x H' hx⟩
  ·exact hx.elim
theorem code_sound (hm:P.follows .mixedOrders=true): ∀(c:Code) (k:Nat) (ρ:Env) (Q:Ex→Env→Heap→Prop) (a:Act) (w:World),Rep D n ρ a→codeW P n hs k c ρ w.heap Q→
 c.wp P (post D n (writes c) a w Q) a w:=by
 intro c
 induction c with
 |skip=>
  intro k ρ Q a w hr h
  exact wp_skip ⟨⟨ρ,hr,h⟩,Same.refl w,Keep.refl _ a⟩
 |region id ops draw=>
  intro k ρ Q a w hr h
  simp only[codeW] at h
  split at h
  ·exact region_sound hm hr (fun _ _ _ h=>h) h fun a' w' ⟨ρ',hr',hk⟩ hs' hkp=>⟨⟨ρ',hr',hk⟩,hs',hkp⟩
  ·rename_i l _
   obtain⟨x,hb,hrest⟩:=h
   refine region_sound hm hr (fun _ _ _ h=>h) hb ?_
   rintro a' w' ⟨ρ',hr',hx⟩ hs' hkp
   split at hx
   ·rename_i y hy
    obtain⟨rfl,hH⟩:=hx
    exact⟨⟨_,rep_join hr hr' hkp hy,by rw[hH];exact hrest⟩,hs',hkp⟩
   ·exact hx.elim
  ·rename_i l _
   obtain⟨J,hb,hrest⟩:=h
   refine region_sound hm hr (fun _ _ _ h=>h) hb ?_
   rintro a' w' ⟨ρ',hr',hx⟩ hs' hkp
   split at hx
   ·rename_i y hy
    exact⟨⟨_,rep_join hr hr' hkp hy,hrest y _ hx⟩,hs',hkp⟩
   ·exact hx.elim
 |seq x y ihx ihy=>
  intro k ρ Q a w hr h
  simp only[codeW] at h
  refine wp_seq (wp_mono (ihx k ρ _ a w hr h) ?_)
  intro e a1 w1 hp
  cases e with
  |normal=>
   obtain⟨⟨ρ1,hr1,hq⟩,hs1,hk1⟩:=hp
   refine wp_mono (ihy k ρ1 Q a1 w1 hr1 hq) ?_
   intro e2 a2 w2 hp2
   cases e2<;>first
    |exact hp2.elim
    |(obtain⟨h1,h2,h3⟩:=hp2
      exact⟨h1,hs1.trans h2,(hk1.mono (fun t ht=>by simp[writes,ht])).trans (h3.mono (fun t ht=>by simp[writes,ht]))⟩)
  |exit i=>obtain⟨h1,h2,h3⟩:=hp;exact⟨h1,h2,h3.mono (fun t ht=>by simp[writes,ht])⟩
  |ret=>obtain⟨h1,h2,h3⟩:=hp;exact⟨h1,h2,h3.mono (fun t ht=>by simp[writes,ht])⟩
  |goto l=>exact hp.elim
  |panic ch=>exact hp.elim
  |outgrown=>exact hp.elim
 |cond c x y ihx ihy=>
  intro k ρ Q a w hr h
  simp only[codeW] at h
  split at h
  ·rename_i t
   split at h
   ·rename_i b hb
    have hev:a.eval (.tmp t)= .bool b:=hr.get t _ hb
    obtain⟨K,hbody,hjoin⟩:=join_sound (n:=n) h
    have fin: ∀(z:Code),(∀t,t∈writes z→t∈writes (.cond (.tmp t) x y))→ ∀(e:Exit) (a':Act) (w':World),
     post D n (writes z) a w (fun e ρ' H'=>match e with
      | .normal=>K ρ' H'
      | .exit i=>Q (.exit i) ρ' H'
      | .ret=>Q .ret ρ' H') e a' w'→post D n (writes (.cond (.tmp t) x y)) a w Q e a' w':=by
     intro z hz e a' w' hp
     cases e with
     |normal=>
      obtain⟨⟨ρ1,hr1,hq⟩,hs1,hk1⟩:=hp
      have hk2:=hk1.mono (V:=writes (.cond (.tmp t) x y)) hz
      exact⟨hjoin ρ1 w'.heap a a' hr hr1 hk2 hq,hs1,hk2⟩
     |exit i=>obtain⟨h1,h2,h3⟩:=hp;exact⟨h1,h2,h3.mono hz⟩
     |ret=>obtain⟨h1,h2,h3⟩:=hp;exact⟨h1,h2,h3.mono hz⟩
     |goto l=>exact hp.elim
     |panic ch=>exact hp.elim
     |outgrown=>exact hp.elim
    rcases forkB_elim hbody with⟨rfl,hx⟩|⟨rfl,hy⟩
    ·exact wp_cond_true hev (wp_mono (ihx k _ _ a w (hr.learn hb _ rfl) hx) (fin x (fun t ht=>by simp[writes,ht])))
    ·exact wp_cond_false hev (wp_mono (ihy k _ _ a w (hr.learn hb _ rfl) hy) (fin y (fun t ht=>by simp[writes,ht])))
   ·exact h.elim
  ·exact h.elim
 |block id b ih=>
  intro k ρ Q a w hr h
  simp only[codeW] at h
  obtain⟨K,hbody,hjoin⟩:=join_sound (n:=n) h
  refine wp_block (wp_mono (ih id ρ _ a w hr hbody) ?_)
  intro e a' w' hp
  cases e with
  |normal=>
   obtain⟨⟨ρ1,hr1,hq⟩,hs1,hk1⟩:=hp
   exact⟨hjoin ρ1 w'.heap a a' hr hr1 hk1 hq,hs1,hk1⟩
  |exit i=>
   obtain⟨⟨ρ1,hr1,hq⟩,hs1,hk1⟩:=hp
   simp only[Exit.inBlock]
   simp only at hq
   cases hb:Nat.beq i id with
   |true=>
    rw[hb] at hq
    have:i=id:=Nat.eq_of_beq_eq_true hb
    rw[if_pos this]
    exact⟨hjoin ρ1 w'.heap a a' hr hr1 hk1 hq,hs1,hk1⟩
   |false=>
    rw[hb] at hq
    have:i≠id:=fun e=>by rw[e,Nat.beq_refl] at hb;cases hb
    rw[if_neg this]
    exact⟨⟨ρ1,hr1,hq⟩,hs1,hk1⟩
  |ret=>exact hp
  |goto l=>exact hp.elim
  |panic ch=>exact hp.elim
  |outgrown=>exact hp.elim
 |loop b ih=>
  intro k ρ Q a w hr h
  simp only[codeW,loopW] at h
  split at h
  ·rename_i x0 hx0
   obtain⟨I,μ,hI0,hround⟩:=h
   refine wp_loop_ghost (fun m a' w'=> ∃x,μ x w'.heap=m∧I x w'.heap∧Rep D n (envOf _ x++dropE (writes b) ρ) a'∧Same w w'∧Keep (writes b) a a') (μ x0 w.heap)
    ⟨x0,rfl,hI0,rep_join hr hr (Keep.refl _ a) hx0,Same.refl w,Keep.refl _ a⟩ ?_
   rintro m a1 w1 ⟨x,rfl,hI,hr1,hs1,hk1⟩
   refine wp_mono (ih k _ _ a1 w1 hr1 (hround x w1.heap hI)) ?_
   intro e a2 w2 hp
   cases e with
   |normal=>
    obtain⟨⟨ρ2,hr2,hq⟩,hs2,hk2⟩:=hp
    simp only at hq
    split at hq
    ·rename_i y hy
     have hk3:=hk1.trans hk2
     exact⟨_,hq.2,y,rfl,hq.1,rep_join hr hr2 hk3 hy,hs1.trans hs2,hk3⟩
    ·exact hq.elim
   |exit i=>obtain⟨h1,h2,h3⟩:=hp;exact⟨h1,hs1.trans h2,hk1.trans h3⟩
   |ret=>obtain⟨h1,h2,h3⟩:=hp;exact⟨h1,hs1.trans h2,hk1.trans h3⟩
   |goto l=>exact hp.elim
   |panic ch=>exact hp.elim
   |outgrown=>exact hp.elim
  ·exact h.elim
 |exit i=>
  intro k ρ Q a w hr h
  exact wp_exit ⟨⟨ρ,hr,h⟩,Same.refl w,Keep.refl _ a⟩
 |ret=>
  intro k ρ Q a w hr h
  exact wp_ret ⟨⟨ρ,hr,h⟩,Same.refl w,Keep.refl _ a⟩
 |_=>intro k ρ Q a w hr h;exact h.elim
end
def zipEnv:Nat→List Value→Env
 |_,[]=> []
 |i,v::r=>(i,v)::zipEnv (i+1) r
def consO (v:Option Value) (l:Option (List Value)):Option (List Value):=
 match v with
 |some x=>match l with
  |some r=>some (x::r)
  |none=>none
 |none=>none
def resL (P:Program) (ρ:Env) (H:Heap):List ResultVar→Option (List Value)
 |[]=>some []
 | .tmp t::r=>consO (look ρ t) (resL P ρ H r)
 | .cell t ty::r=>match aggOf P ty,look ρ t with
  |some (g,m),some (.pointer (some a))=>consO (loadC H g m a) (resL P ρ H r)
  |_,_=>none
def retV:List Value→Value
 |[v]=>v
 |l=> .tuple l.toArray
def retK (l:Option (List Value)) (H:Heap) (R:Value→Heap→Prop):Prop:= ∃r,l=some r∧R (retV r) H
def retW (P:Program) (fn:Func) (ρ:Env) (H:Heap) (R:Value→Heap→Prop):Prop:=retK (resL P ρ H fn.results.toList) H R
theorem consO_some {v:Option Value} {l:Option (List Value)} {r:List Value} (h:consO v l=some r): ∃x y,v=some x∧l=some y∧r=x::y:=by
 unfold consO at h
 split at h
 ·split at h
  ·cases h;exact⟨_,_,rfl,rfl,rfl⟩
  ·cases h
 ·cases h
def funW (P:Program) (fn:Func) (hs:Hints) (args:List Value) (H:Heap) (R:Value→Heap→Prop):Prop:=
 match fn.body,Nat.ble args.length fn.ntmps with
 |some c,true=>codeW P fn.ntmps hs 0 c (zipEnv 0 args) H (fun e ρ H'=>match e with
  | .normal=>retW P fn ρ H' R
  | .exit _=>False
  | .ret=>retW P fn ρ H' R)
 |_,_=>False
theorem look_zipEnv: ∀(l:List Value) (i t:Nat) (v:Value),look (zipEnv i l) t=some v→i≤t∧l[t -i]?=some v
 |[],_,_,_,h=>by simp[zipEnv,look] at h
 |u::r,i,t,v,h=>by
  simp only[zipEnv] at h
  by_cases e:i=t
  ·subst e;rw[look_cons_self] at h;cases h;simp
  ·rw[look_cons_ne _ _ _ _ e] at h
   have:=look_zipEnv r (i+1) t v h
   refine⟨by omega,?_⟩
   have h2:t -i=(t -(i+1))+1:=by omega
   rw[h2];simpa using this.2
def resOne (tmps:Array Value):ResultVar→Sem Value
 | .tmp t=>pure (tmps.getD t undef)
 | .cell x t=>do loadVar t (←asAddr (tmps.getD x undef))
theorem results_eq (fn:Func) (tmps:Array Value):results fn tmps=(do
 let vs←fn.results.mapM (resOne tmps)
 pure (if h:vs.size=1 then vs[0] else .tuple vs)):=by
 have:(resOne tmps)=(fun| .tmp t=>pure (tmps.getD t undef)| .cell a t=>do loadVar t (←asAddr (tmps.getD a undef))):=by
  funext x;cases x<;>rfl
 rw[this]
 rfl
theorem resL_run {P:Program} {n:Nat} {ρ:Env} {a:Act} {w:World} (hr:Rep D n ρ a): ∀(l:List ResultVar) (vs:List Value),resL P ρ w.heap l=some vs→
 (l.mapM (resOne a.tmps)).run P w= .ok vs w
 |[],vs,h=>by simp only[resL,Option.some.injEq] at h;subst h;simp[Sem.run_pure]
 | .tmp t::r,vs,h=>by
  simp only[resL] at h
  obtain⟨v,l,hv,hl,rfl⟩:=consO_some h
  have:=resL_run hr r l hl
  simp only[List.mapM_cons,Sem.run_bind,Sem.run_pure,Result.andThen_ok,this,resOne,hr.get _ _ hv]
 | .cell t ty::r,vs,h=>by
  simp only[resL] at h
  split at h
  ·rename_i g m ad hag hv
   obtain⟨v,l,hld,hl,rfl⟩:=consO_some h
   have:=resL_run hr r l hl
   have hrun:=run_loadVar P ty g m hag ad w v hld
   have ha:(asAddr (a.tmps.getD t undef)).run P w= .ok ad w:=by rw[hr.get _ _ hv];rfl
   simp only[List.mapM_cons,Sem.run_bind,Sem.run_pure,Result.andThen_ok,this,resOne,ha,hrun]
  ·cases h
theorem results_run {P:Program} {n:Nat} {fn:Func} {ρ:Env} {a:Act} {w:World} (hr:Rep D n ρ a) {l:List Value} (h:resL P ρ w.heap fn.results.toList=some l):
 (results fn a.tmps).run P w= .ok (retV l) w:=by
 have h1:=resL_run hr _ _ h
 rw[results_eq,←Array.toArray_toList (xs:=fn.results)]
 simp only[List.mapM_toArray,Sem.run_bind,Sem.run_map,h1]
 match l with
 |[]=>simp[Sem.run_pure,retV]
 |[v]=>simp[Sem.run_pure,retV]
 |u::v::r=>simp[Sem.run_pure,retV]
theorem fnS {P:Program} (hm:P.follows .mixedOrders=true) {f:FuncId} {fn:Func} (hf:P.funcs[f]?=some fn) (hs:Hints) (args:List Value) (H:Heap) (R:Value→Heap→Prop)
 (h:funW P fn hs args H R):Fn P f args.toArray H R:=by
 intro w hw
 subst hw
 unfold funW at h
 split at h
 ·rename_i c hb hle
  have hle':args.length≤fn.ntmps:=Nat.le_of_ble_eq_true hle
  refine calls_of_wp hf hb ?_
  have hrep:Rep [] fn.ntmps (zipEnv 0 args) {tmps:=args.toArray++Array.replicate (fn.ntmps -args.toArray.size) undef,defers:=[]}:=by
   refine⟨rfl,by simp;omega,fun t v ht=>?_⟩
   obtain⟨_,h2⟩:=look_zipEnv _ _ _ _ ht
   simp only[Nat.sub_zero] at h2
   have hlt:t<args.length:=(List.getElem?_eq_some_iff.1 h2).1
   simp only[Array.getD_eq_getD_getElem?]
   rw[Array.getElem?_append_left (by simpa using hlt)]
   simp[h2]
  refine wp_mono (code_sound hm c 0 _ _ _ w hrep h) ?_
  intro e a' w' hp
  cases e with
  |normal=>
   obtain⟨⟨ρ',hr',l,hl,hR⟩,hs',_⟩:=hp
   exact⟨hr'.defers,_,results_run hr' hl,_,rfl,hs',hR⟩
  |ret=>
   obtain⟨⟨ρ',hr',l,hl,hR⟩,hs',_⟩:=hp
   exact⟨hr'.defers,_,results_run hr' hl,_,rfl,hs',hR⟩
  |exit i=>obtain⟨⟨ρ',hr',hq⟩,_,_⟩:=hp;exact hq.elim
  |goto l=>exact hp.elim
  |panic ch=>exact hp.elim
  |outgrown=>exact hp.elim
 ·exact h.elim
end Go.Vx
namespace Go.Vx
open Go
def bs (l:List UInt8):ByteArray:=⟨l.toArray⟩
def pInt (k:IntKind):Pat:=⟨Int,fun n=> .int k n⟩
def pStr:Pat:=⟨ByteArray,fun s=> .string s⟩
def pBool:Pat:=⟨Bool,fun b=> .bool b⟩
def pPtr:Pat:=⟨Option Addr,fun p=> .pointer p⟩
def pBlk:Pat:=⟨Nat,fun b=> .pointer (some ⟨b,0,none⟩)⟩
def pMap:Pat:=⟨Nat,fun r=> .map (some r)⟩
def pSlc:Pat:=⟨Option Addr×Nat×Nat,fun x=> .slice x.1 x.2.1 x.2.2⟩
def pRaw:Pat:=⟨Value,fun v=>v⟩
def joinK (X:Type) (body:(X→Heap→Prop)→Prop) (rest:X→Heap→Prop):Prop:= ∃J:X→Heap→Prop,body J∧ ∀x H,J x H→rest x H
def joinPK (X:Type) (H:Heap) (body:(X→Heap→Prop)→Prop) (rest:X→Prop):Prop:= ∃x:X,body (fun y H'=>y=x∧H'=H)∧rest x
def loopK (X:Type) (x0:X) (H:Heap) (body:X→Heap→(X→Heap→Prop)→Prop):Prop:=
 ∃(I:X→Heap→Prop) (μ:X→Heap→Nat),I x0 H∧ ∀x H',I x H'→body x H' (fun y H2=>I y H2∧μ y H2<μ x H')
def patL:List (Nat×Pat)→Nat→PatX
 |[],_=>⟨Pat.raw,none⟩
 |(d,p)::r,t=>match Nat.beq d t with
  |true=>⟨p,none⟩
  |false=>patL r t
def loopL:List (Nat×List Slot)→Nat→List Slot
 |[],_=> []
 |(d,p)::r,t=>match Nat.beq d t with
  |true=>p
  |false=>loopL r t
def joinL:List (Nat×List Slot)→Nat→Option (List Slot)
 |[],_=>none
 |(d,p)::r,t=>match Nat.beq d t with
  |true=>some p
  |false=>joinL r t
def joinRL:List (Nat×List Slot×Bool)→Nat→Option (List Slot×Bool)
 |[],_=>none
 |(d,p)::r,t=>match Nat.beq d t with
  |true=>some p
  |false=>joinRL r t
end Go.Vx
namespace Go.Vx
open Go
theorem fkI {b:Bool} {A B:Prop} (h1:b=true→A) (h2:b=false→B):forkB b A B:=by
 cases b
 ·exact h2 rfl
 ·exact h1 rfl
theorem rkI {l:List Value} {H:Heap} {R:Value→Heap→Prop} (h:R (retV l) H):retK (some l) H R:=⟨l,rfl,h⟩
theorem i64w {n:Int} (h: -9223372036854775808≤n∧n≤9223372036854775807):IntKind.i64.wrap n=n:=by
 simp only[IntKind.wrap,IntKind.bits,IntKind.signed];simp;split<;>omega
theorem u8w {n:Int} (h:0≤n∧n≤255):IntKind.u8.wrap n=n:=by
 simp only[IntKind.wrap,IntKind.bits,IntKind.signed];simp;omega
theorem i32w {n:Int} (h: -2147483648≤n∧n≤2147483647):IntKind.i32.wrap n=n:=by
 simp only[IntKind.wrap,IntKind.bits,IntKind.signed];simp;split<;>omega
theorem bt_range (s:ByteArray) (n:Int):0≤bt s n∧bt s n≤255:=by
 unfold bt
 have:=(((s.data[n.toNat]?).getD 0:UInt8).toNat_lt)
 omega
structure Ext (S:List Nat) (H H':Heap):Prop where
 size:H.size≤H'.size
 get: ∀k o,H[k]?=some o→k∉S→H'[k]?=some o
theorem Ext.refl (S:List Nat) (H:Heap):Ext S H H:=⟨Nat.le_refl _,fun _ _ h _=>h⟩
theorem Ext.trans {S:List Nat} {A B C:Heap} (h:Ext S A B) (k:Ext S B C):Ext S A C:=
 ⟨Nat.le_trans h.size k.size,fun i o hi hn=>k.get i o (h.get i o hi hn) hn⟩
theorem Ext.mono {S T:List Nat} {A B:Heap} (h:Ext S A B) (hs: ∀k,k∈S→k∈T):Ext T A B:=
 ⟨h.size,fun i o hi hn=>h.get i o hi fun hm=>hn (hs i hm)⟩
theorem Ext.of_nil {T:List Nat} {A B:Heap} (h:Ext [] A B):Ext T A B:=h.mono fun _ hk=>by cases hk
theorem lt_of_get {H:Heap} {k:Nat} {o:Obj} (h:H[k]?=some o):k<H.size:=(Array.getElem?_eq_some_iff.1 h).1
theorem get_push_old {H:Heap} {k:Nat} {o x:Obj} (h:H[k]?=some o):(H.push x)[k]?=some o:=by
 have:=lt_of_get h
 rw[Array.getElem?_push,if_neg (by omega)];exact h
theorem get_push_new (H:Heap) (x:Obj):(H.push x)[H.size]?=some x:=by simp
theorem Ext.push (S:List Nat) (H:Heap) (x:Obj):Ext S H (H.push x):=⟨by simp,fun _ _ h _=>get_push_old h⟩
theorem get_set_ne {H:Heap} {k b:Nat} {o x:Obj} (h:H[k]?=some o) (hne:k≠b):(H.setIfInBounds b x)[k]?=some o:=by
 rw[Array.getElem?_setIfInBounds,if_neg (fun e=>hne e.symm)];exact h
theorem Ext.set {S:List Nat} {H:Heap} {b:Nat} (hb:b∈S) (x:Obj):Ext S H (H.setIfInBounds b x):=
 ⟨by simp,fun k o h hn=>get_set_ne h fun e=>hn (e▸hb)⟩
theorem Ext.setNew {S:List Nat} {A H:Heap} (h:Ext S A H) {b:Nat} (hb:A.size≤b) (x:Obj):Ext S A (H.setIfInBounds b x):=
 ⟨by have:=h.size;simpa using this,fun k o hk hn=>get_set_ne (h.get k o hk hn) (by have:=lt_of_get hk;omega)⟩
theorem nbI {H:Heap} {o:Obj} {K:Nat→Heap→Prop} (h: ∀H',H'=H.push o→H'[H.size]?=some o→Ext [] H H'→H'.size=H.size+1→K H.size H'):newB H o K:=by
 rintro b H' rfl rfl
 exact h _ rfl (get_push_new H o) (Ext.push [] H o) (by simp)
def ofCells (c:Array Value) (g:Bool) (m o:Nat):Option Value:=
 match g with
 |true=>match Nat.ble (o+m) c.size with
  |true=>some (.agg ((c.toList.drop o).take m).toArray)
  |false=>none
 |false=>c[o]?
theorem lcO {H:Heap} {b o:Nat} {g:Bool} {m:Nat} {c:Array Value} {e:TypeId} {fr:Nat×Nat} {v:Value} (h:H[b]?=some (.cells c e fr)) (hv:ofCells c g m o=some v):
 loadC H g m ⟨b,o,none⟩=some v:=by
 cases g with
 |false=>simp only[loadC,cellAt,h];exact hv
 |true=>
  simp only[ofCells] at hv
  split at hv
  ·rename_i hle
   have:=Nat.le_of_ble_eq_true hle
   simp only[loadC,cellsAt,h,this,if_true]
   exact hv
  ·cases hv
theorem loadC_ext {S:List Nat} {A H:Heap} (h:Ext S A H) {g:Bool} {m:Nat} {a:Addr} {v:Value} (hl:loadC A g m a=some v) (hn:a.block∉S):loadC H g m a=some v:=by
 have key: ∀o,A[a.block]?=some o→H[a.block]?=some o:=fun o ho=>h.get _ _ ho hn
 cases g with
 |false=>
  simp only[loadC,cellAt] at hl⊢
  cases ho:A[a.block]? with
  |none=>rw[ho] at hl;cases hl
  |some o=>rw[ho] at hl;rw[key o ho];exact hl
 |true=>
  simp only[loadC,cellsAt] at hl⊢
  cases ho:A[a.block]? with
  |none=>rw[ho] at hl;cases hl
  |some o=>rw[ho] at hl;rw[key o ho];exact hl
theorem storeC_of {H:Heap} {b o:Nat} {l:List Value} {c:Array Value} {e:TypeId} {fr:Nat×Nat} (h:H[b]?=some (.cells c e fr)) (hle:o+l.length≤c.size)
 (hf:freeFrom fr o l.length=true) (h1:oneL l=true):storeC H ⟨b,o,none⟩ l=some (H.setIfInBounds b (.cells (writeAt c o l) e fr)):=by
 simp only[storeC,h,hle,hf,h1,true_and,if_true]
theorem swI {H:Heap} {b o:Nat} {l:List Value} {c:Array Value} {e:TypeId} {fr:Nat×Nat} {K:Heap→Prop} (h:H[b]?=some (.cells c e fr)) (hle:o+l.length≤c.size)
 (hf:freeFrom fr o l.length=true) (h1:oneL l=true)
 (hk: ∀H',H'=H.setIfInBounds b (.cells (writeAt c o l) e fr)→H'[b]?=some (.cells (writeAt c o l) e fr)→Ext [b] H H'→H'.size=H.size→K H'):storeW H ⟨b,o,none⟩ l K:=
 ⟨_,storeC_of h hle hf h1,hk _ rfl (get_setIf _ _ _ _ h) (Ext.set (by simp) _) (by simp)⟩
theorem ix_some {b o:Nat} {n:Int} {len:Nat} (h0:0≤n) (h1:n<(len:Int)):IxOk (some ⟨b,o,none⟩) n len:=⟨rfl,h0,h1⟩
structure Nd where
 kind:Int
 name:ByteArray
 alias:ByteArray
 text:ByteArray
 flag:Int
 size:Int
def Nd.val (n:Nd):Array Value:= #[.int .i64 n.kind,.string n.name,.string n.alias,.string n.text,.int .i64 n.flag,.int .i64 n.size]
def NodesAt (H:Heap) (b o:Nat) (ds:List Nd):Prop:=
 ∃c e fr,H[b]?=some (.cells c e fr)∧o+ds.length*6≤c.size∧ ∀i n,ds[i]?=some n→ ∀k,k<6→c[o+i*6+k]?=n.val[k]?
theorem NodesAt.ext {S:List Nat} {A H:Heap} (h:Ext S A H) {b o:Nat} {ds:List Nd} (hn:NodesAt A b o ds) (hb:b∉S):NodesAt H b o ds:=by
 obtain⟨c,e,fr,hc,hr⟩:=hn
 exact⟨c,e,fr,h.get _ _ hc hb,hr⟩
theorem NodesAt.fld {H:Heap} {b o:Nat} {ds:List Nd} (h:NodesAt H b o ds) {i:Nat} {n:Nd} (hi:ds[i]?=some n) (k:Nat) (hk:k<6):
 loadC H false 1 ⟨b,o+i*6+k,none⟩=n.val[k]?:=by
 obtain⟨c,e,fr,hc,_,hr⟩:=h
 have:=hr i n hi k hk
 rw[←this]
 simp[loadC,cellAt,hc]
theorem NodesAt.all {H:Heap} {b o:Nat} {ds:List Nd} (h:NodesAt H b o ds) {i:Nat} {n:Nd} (hi:ds[i]?=some n):
 loadC H true 6 ⟨b,o+i*6,none⟩=some (.agg n.val):=by
 obtain⟨c,e,fr,hc,hs,hr⟩:=h
 have hlt:i<ds.length:=(List.getElem?_eq_some_iff.1 hi).1
 have hle:o+i*6+6≤c.size:=by omega
 simp only[loadC,cellsAt,hc,hle,if_true]
 congr 2
 apply Array.ext_getElem?
 intro j
 simp only[List.getElem?_toArray,List.getElem?_take,List.getElem?_drop]
 by_cases hj:j<6
 ·have:=hr i n hi j hj
  simp only[hj,if_true]
  rw[Array.getElem?_toList,this]
 ·simp only[hj,if_false]
  rw[Array.getElem?_eq_none]
  simp[Nd.val];omega
end Go.Vx
namespace Go.Vx
open Go
variable {D:List Deferred}
def FnC (P:Program) (f:FuncId) (args:Array Value) (H:Heap) (R:Value→Heap→Prop):Prop:=
 ∀(u:FrameMode) (w:World),w.heap=H→CallsD P f args u w fun e u' w'=>u'=u∧ ∃v,e= .returned v∧Same w w'∧R v w'.heap
theorem FnC.mono {P:Program} {f:FuncId} {args:Array Value} {H:Heap} {R R':Value→Heap→Prop} (h:FnC P f args H R)
 (hr: ∀v H',R v H'→R' v H'):FnC P f args H R':=
 fun u w hw=>(h u w hw).mono fun _ _ _ ⟨hu,v,he,hs,hR⟩=>⟨hu,v,he,hs,hr _ _ hR⟩
theorem funC_sound {P:Program} (hm:P.follows .mixedOrders=true) {f:FuncId} {fn:Func} (hf:P.funcs[f]?=some fn) (hs:Hints) (args:List Value) (H:Heap) (R:Value→Heap→Prop)
 (h:funW P fn hs args H R):FnC P f args.toArray H R:=by
 intro u w hw
 subst hw
 unfold funW at h
 split at h
 ·rename_i c hb hle
  have hle':args.length≤fn.ntmps:=Nat.le_of_ble_eq_true hle
  refine callsD_of_wp (R:=fun e w'=> ∃v,e= .returned v∧Same w w'∧R v w'.heap) hf hb ?_
  have hrep:Rep [] fn.ntmps (zipEnv 0 args) {tmps:=args.toArray++Array.replicate (fn.ntmps -args.toArray.size) undef,defers:=[]}:=by
   refine⟨rfl,by simp;omega,fun t v ht=>?_⟩
   obtain⟨_,h2⟩:=look_zipEnv _ _ _ _ ht
   simp only[Nat.sub_zero] at h2
   have hlt:t<args.length:=(List.getElem?_eq_some_iff.1 h2).1
   simp only[Array.getD_eq_getD_getElem?]
   rw[Array.getElem?_append_left (by simpa using hlt)]
   simp[h2]
  refine wp_mono (code_sound hm c 0 _ _ _ w hrep h) ?_
  intro e a' w' hp
  cases e with
  |normal=>
   obtain⟨⟨ρ',hr',l,hl,hR⟩,hs',_⟩:=hp
   exact⟨hr'.defers,_,results_run hr' hl,_,rfl,hs',hR⟩
  |ret=>
   obtain⟨⟨ρ',hr',l,hl,hR⟩,hs',_⟩:=hp
   exact⟨hr'.defers,_,results_run hr' hl,_,rfl,hs',hR⟩
  |exit i=>obtain⟨⟨ρ',hr',hq⟩,_,_⟩:=hp;exact hq.elim
  |goto l=>exact hp.elim
  |panic ch=>exact hp.elim
  |outgrown=>exact hp.elim
 ·exact h.elim
def leaveW (P:Program) (fn:Func) (f:FuncId) (args:Array Value) (ρ:Env) (H:Heap) (R:Value→Heap→Prop):Prop:=
 FnC P f args H fun _ H'=>retW P fn ρ H' R
def deferW (P:Program) (n:Nat) (ps:Pats) (o1:Oper) (c:Call) (_t:TypeId) (ρ:Env) (H:Heap) (K:Deferred→FuncId→Array Value→Env→Heap→Prop):Prop:=
 opW P n o1 (patOf ps o1.dst) ρ H fun ρ1 H1=>match knownL ρ1 (match c.callee with| .value x=> [x]|_=> []),c.callee,c.args.toList with
  |true,.value x,[]=>match pureV P (Deferred.ofValue (evD ρ1 x) #[]) with
   |some d=>match d.target with
    | .fn fv cap=>match pureV P (invoke (.fn fv cap) d.args) with
     |some (.enter f args)=>K ⟨.fn fv cap,d.args⟩ f args ρ1 H1
     |_=>False
    |_=>False
   |none=>False
  |_,_,_=>False
def finD (P:Program) (fn:Func) (f:FuncId) (args:Array Value) (R:Value→Heap→Prop):Ex→Env→Heap→Prop
 | .normal,ρ,H=>leaveW P fn f args ρ H R
 | .exit _,_,_=>False
 | .ret,ρ,H=>leaveW P fn f args ρ H R
def noW (o:Oper):Bool:=
 match o.guard with
 |none=>match o.dst with
  |none=>true
  |some _=>false
 |some _=>false
def noG (o:Oper):Bool:=
 match o.guard with
 |none=>true
 |some _=>false
def codeD (P:Program) (fn:Func) (hs:Hints) (R:Value→Heap→Prop):Code→Env→Heap→Prop
 | .seq (.region id ops draw) y,ρ,H=>match draw,ops.toList with
  |false,[o1,o2]=>match o2.op,noG o1&&noW o2 with
   | .defer c,true=>deferW P fn.ntmps hs.pat o1 c o2.type ρ H fun _ f args ρ1 H1=>codeW P fn.ntmps hs 0 y ρ1 H1 (finD P fn f args R)
   |_,_=>codeW P fn.ntmps hs 0 (.region id ops draw) ρ H (fun e ρ' H'=>match e with
    | .normal=>codeD P fn hs R y ρ' H'
    |_=>False)
  |_,_=>codeW P fn.ntmps hs 0 (.region id ops draw) ρ H (fun e ρ' H'=>match e with
   | .normal=>codeD P fn hs R y ρ' H'
   |_=>False)
 |_,_,_=>False
def funD (P:Program) (fn:Func) (hs:Hints) (args:List Value) (H:Heap) (R:Value→Heap→Prop):Prop:=
 match fn.body,Nat.ble args.length fn.ntmps with
 |some c,true=>codeD P fn hs R c (zipEnv 0 args) H
 |_,_=>False
section
variable {P:Program} {fn:Func} {hs:Hints} {R:Value→Heap→Prop}
def endD (R:Value→Heap→Prop) (w0:World):Ending→World→Prop:=fun e w'=> ∃v,e= .returned v∧Same w0 w'∧R v w'.heap
theorem leave_sound {f:FuncId} {fv:Go.Fn} {cap dargs args:Array Value} {ρ:Env} {a:Act} {w0 w:World} (hr:Rep [⟨.fn fv cap,dargs⟩] fn.ntmps ρ a) (hs0:Same w0 w)
 (hi:pureV P (invoke (.fn fv cap) dargs)=some (.enter f args)) (h:leaveW P fn f args ρ w.heap R):Leaves P fn a.tmps (endD R w0) a.defers .returning w:=by
 rw[hr.defers]
 refine leaves_cons (by simp) (pureV_run P _ _ hi w) ?_
 refine(h .returning w rfl).mono ?_
 rintro e u' w' ⟨rfl,v,rfl,hs',l,hl,hR⟩
 show Leaves P fn a.tmps (endD R w0) [] (settle .returning) w'
 exact⟨_,results_run hr hl,_,rfl,hs0.trans hs',hR⟩
theorem region_next (hm:P.follows .mixedOrders=true) {id:Nat} {ops:Array Oper} {draw:Bool} {y:Code} {ρ:Env} {a:Act} {w w0:World} {K:Env→Heap→Prop} {Q:Exit→Act→World→Prop}
 (hr:Rep [] fn.ntmps ρ a) (hs0:Same w0 w) (h:codeW P fn.ntmps hs 0 (.region id ops draw) ρ w.heap (fun e ρ' H'=>match e with
   | .normal=>K ρ' H'
   |_=>False))
 (hk: ∀ρ' a' w',Rep [] fn.ntmps ρ' a'→Same w0 w'→K ρ' w'.heap→y.wp P Q a' w'):(Code.seq (.region id ops draw) y).wp P Q a w:=by
 refine wp_seq (wp_mono (code_sound hm _ 0 _ _ _ w hr h) ?_)
 intro e a' w' hp
 cases e with
 |normal=>obtain⟨⟨ρ',hr',hq⟩,hs',_⟩:=hp;exact hk ρ' a' w' hr' (hs0.trans hs') hq
 |ret=>obtain⟨⟨ρ',hr',hq⟩,hs',_⟩:=hp;exact hq.elim
 |exit i=>obtain⟨⟨ρ',hr',hq⟩,_,_⟩:=hp;exact hq.elim
 |goto l=>exact hp.elim
 |panic ch=>exact hp.elim
 |outgrown=>exact hp.elim
theorem codeD_sound (hm:P.follows .mixedOrders=true): ∀(c:Code) (ρ:Env) (a:Act) (w0 w:World),Rep [] fn.ntmps ρ a→Same w0 w→codeD P fn hs R c ρ w.heap→
 c.wp P (bodyPostD P fn (endD R w0)) a w:=by
 intro c
 induction c with
 |seq x y _ ihy=>
  intro ρ a w0 w hr hs0 h
  cases x with
  |region id ops draw=>
   unfold codeD at h
   split at h
   ·rename_i o1 o2 hops _
    split at h
    ·rename_i c hop hg
     simp only[Bool.and_eq_true] at hg
     unfold deferW at h
     have g1:o1.guard=none:=by
      have:=hg.1;unfold noG at this;split at this
      ·rename_i h;exact h
      ·cases this
     have g2:o2.guard=none∧o2.dst=none:=by
      have:=hg.2;unfold noW at this;split at this
      ·split at this
       ·rename_i h1 _ h2;exact⟨h1,h2⟩
       ·cases this
      ·cases this
     refine wp_seq (wp_region_list ?_)
     rw[hops]
     unfold wpList
     rw[if_pos (by simp[Region.wanted,g1])]
     refine .inl (Oper.wp_mono ?_ (op_sound hr h))
     rintro a1 w1 ⟨⟨ρ1,hr1,hk⟩,hs1,_⟩
     split at hk
     ·rename_i x hkn hcal hargs
      split at hk
      ·rename_i d hd
       split at hk
       ·rename_i fv cap htg
        split at hk
        ·rename_i f args hi
         unfold wpList
         rw[if_pos (by simp[Region.wanted,g2.1])]
         refine .inl ?_
         unfold Oper.wp
         have hx:a1.eval x=evD ρ1 x:=hr1.evals [x] (by simpa [hcal] using hkn) x (by simp)
         have hargs':c.args= #[]:=by rw[←Array.toArray_toList (xs:=c.args),hargs]
         have hrun:(execOp a1.eval o2).run P w1= .ok (.defer ⟨.fn fv cap,d.args⟩) w1:=by
          have hd':=pureV_run P _ _ hd w1
          have e:d=⟨.fn fv cap,d.args⟩:=by cases d;simp at htg⊢;exact htg
          simp only[execOp,hop,resolve,hcal,hargs',Sem.run_bind,hx]
          simp only[List.map_toArray,List.map_nil]
          rw[hd',←e]
          simp
         rw[hrun,Oper.upon_defer]
         unfold wpList
         rw[g2.2]
         have hr2:Rep [⟨.fn fv cap,d.args⟩] fn.ntmps ρ1 ({a1 with defers:=⟨.fn fv cap,d.args⟩::a1.defers}.put none undef):=
          ⟨by simp[Act.put,hr1.defers],hr1.size,hr1.get⟩
         refine wp_mono (code_sound hm y 0 _ _ _ w1 hr2 hk) ?_
         intro e a' w' hp
         cases e with
         |normal=>obtain⟨⟨ρ',hr',hq⟩,hs',_⟩:=hp;exact leave_sound hr' ((hs0.trans hs1).trans hs') hi hq
         |ret=>obtain⟨⟨ρ',hr',hq⟩,hs',_⟩:=hp;exact leave_sound hr' ((hs0.trans hs1).trans hs') hi hq
         |exit i=>obtain⟨⟨ρ',hr',hq⟩,_,_⟩:=hp;exact hq.elim
         |goto l=>exact hp.elim
         |panic ch=>exact hp.elim
         |outgrown=>exact hp.elim
        ·exact hk.elim
       ·exact hk.elim
      ·exact hk.elim
     ·exact hk.elim
    ·exact region_next hm hr hs0 h fun ρ' a' w' hr' hs' hk=>ihy ρ' a' w0 w' hr' hs' hk
   ·exact region_next hm hr hs0 h fun ρ' a' w' hr' hs' hk=>ihy ρ' a' w0 w' hr' hs' hk
  |_=>unfold codeD at h;exact h.elim
 |_=>intro ρ a w0 w hr hs0 h;unfold codeD at h;exact h.elim
theorem funD_sound (hm:P.follows .mixedOrders=true) {f:FuncId} (hf:P.funcs[f]?=some fn) (hs:Hints) (args:List Value) (H:Heap) (R:Value→Heap→Prop)
 (h:funD P fn hs args H R):Fn P f args.toArray H R:=by
 intro w hw
 subst hw
 unfold funD at h
 split at h
 ·rename_i c hb hle
  have hle':args.length≤fn.ntmps:=Nat.le_of_ble_eq_true hle
  have hrep:Rep [] fn.ntmps (zipEnv 0 args) {tmps:=args.toArray++Array.replicate (fn.ntmps -args.toArray.size) undef,defers:=[]}:=by
   refine⟨rfl,by simp;omega,fun t v ht=>?_⟩
   obtain⟨_,h2⟩:=look_zipEnv _ _ _ _ ht
   simp only[Nat.sub_zero] at h2
   have hlt:t<args.length:=(List.getElem?_eq_some_iff.1 h2).1
   simp only[Array.getD_eq_getD_getElem?]
   rw[Array.getElem?_append_left (by simpa using hlt)]
   simp[h2]
  exact calls_of_wp_defers hf hb (codeD_sound hm c _ _ w w hrep (Same.refl w) h)
 ·exact h.elim
end
end Go.Vx
