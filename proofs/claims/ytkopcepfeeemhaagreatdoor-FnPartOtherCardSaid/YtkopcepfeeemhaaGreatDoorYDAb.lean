/- A part of the proof of what the last text of this claim says: Vx10. Conditions: none. -/
import Derived.Defers
import Derived.Test.YtkopcepfeeemhaaGreatDoorYDAa
namespace Go.Vx
open Go
variable {D:List Deferred}
def FnC (P:Program) (f:FuncId) (args:Array Value) (H:Heap) (R:Value→Heap→Prop):Prop:=
 ∀(u:FrameMode) (w:World),w.heap=H→CallsD P f args u w fun e u' w'=>u'=u∧ ∃v,e= .returned v∧Same w w'∧R v w'.heap
theorem FnC.mono {P:Program} {f:FuncId} {args:Array Value} {H:Heap} {R R':Value→Heap→Prop} (h:FnC P f args H R)
 (hr: ∀v H',R v H'→R' v H'):FnC P f args H R':=
 fun u w hw=>(h u w hw).mono fun _ _ _ ⟨hu,v,he,hs,hR⟩=>⟨hu,v,he,hs,hr _ _ hR⟩
theorem kgp {P:Program} (hm:P.follows .mixedOrders=true) {f:FuncId} {fn:Func} (hf:P.funcs[f]?=some fn) (hs:Hints) (args:List Value) (H:Heap) (R:Value→Heap→Prop)
 (h:funW P fn hs args H R):FnC P f args.toArray H R:=by
 intro u w hw
 subst hw
 unfold funW at h
 split at h
 ·rename_i c hb hle
  have hle':args.length≤fn.ntmps:=Nat.le_of_ble_eq_true hle
  refine callsD_of_wp (R:=fun e w'=> ∃v,e= .returned v∧Same w w'∧R v w'.heap) hf hb ?_
  have hrep:Rep [] fn.ntmps (k3w 0 args) {tmps:=args.toArray++Array.replicate (fn.ntmps -args.toArray.size) undef,defers:=[]}:=by
   refine⟨rfl,by simp;omega,fun t v ht=>?_⟩
   obtain⟨_,h2⟩:=k82 _ _ _ _ ht
   simp only[Nat.sub_zero] at h2
   have hlt:t<args.length:=(List.getElem?_eq_some_iff.1 h2).1
   simp only[Array.getD_eq_getD_getElem?]
   rw[Array.getElem?_append_left (by simpa using hlt)]
   simp[h2]
  refine wp_mono (k7Q hm c 0 _ _ _ w hrep h) ?_
  intro e a' w' hp
  cases e with
  |normal=>
   obtain⟨⟨ρ',hr',l,hl,hR⟩,hs',_⟩:=hp
   exact⟨hr'.defers,_,k6G hr' hl,_,rfl,hs',hR⟩
  |ret=>
   obtain⟨⟨ρ',hr',l,hl,hR⟩,hs',_⟩:=hp
   exact⟨hr'.defers,_,k6G hr' hl,_,rfl,hs',hR⟩
  |exit i=>obtain⟨⟨ρ',hr',hq⟩,_,_⟩:=hp;exact hq.elim
  |goto l=>exact hp.elim
  |panic ch=>exact hp.elim
  |outgrown=>exact hp.elim
 ·exact h.elim
def k9Y (P:Program) (fn:Func) (f:FuncId) (args:Array Value) (ρ:Env) (H:Heap) (R:Value→Heap→Prop):Prop:=
 FnC P f args H fun _ H'=>retW P fn ρ H' R
def kbP (P:Program) (n:Nat) (ps:Pats) (o1:Oper) (c:Call) (_t:TypeId) (ρ:Env) (H:Heap) (K:Deferred→FuncId→Array Value→Env→Heap→Prop):Prop:=
 opW P n o1 (k4m ps o1.dst) ρ H fun ρ1 H1=>match k3K ρ1 (match c.callee with| .value x=> [x]|_=> []),c.callee,c.args.toList with
  |true,.value x,[]=>match k2z P (Deferred.ofValue (evD ρ1 x) #[]) with
   |some d=>match d.target with
    | .fn fv cap=>match k2z P (invoke (.fn fv cap) d.args) with
     |some (.enter f args)=>K ⟨.fn fv cap,d.args⟩ f args ρ1 H1
     |_=>False
    |_=>False
   |none=>False
  |_,_,_=>False
def finD (P:Program) (fn:Func) (f:FuncId) (args:Array Value) (R:Value→Heap→Prop):Ex→Env→Heap→Prop
 | .normal,ρ,H=>k9Y P fn f args ρ H R
 | .exit _,_,_=>False
 | .ret,ρ,H=>k9Y P fn f args ρ H R
def noW (o:Oper):Bool:=
 match o.guard with
 |none=>match o.dst with
  |none=>true
  |some _=>false
 |some _=>false
def noG (o:Oper):Bool:=
 match o.guard with
 |none=>true
 |some _=>false
def k46 (P:Program) (fn:Func) (hs:Hints) (R:Value→Heap→Prop):Code→Env→Heap→Prop
 | .seq (.region id ops draw) y,ρ,H=>match draw,ops.toList with
  |false,[o1,o2]=>match o2.op,noG o1&&noW o2 with
   | .defer c,true=>kbP P fn.ntmps hs.pat o1 c o2.type ρ H fun _ f args ρ1 H1=>k1Q P fn.ntmps hs 0 y ρ1 H1 (finD P fn f args R)
   |_,_=>k1Q P fn.ntmps hs 0 (.region id ops draw) ρ H (fun e ρ' H'=>match e with
    | .normal=>k46 P fn hs R y ρ' H'
    |_=>False)
  |_,_=>k1Q P fn.ntmps hs 0 (.region id ops draw) ρ H (fun e ρ' H'=>match e with
   | .normal=>k46 P fn hs R y ρ' H'
   |_=>False)
 |_,_,_=>False
def funD (P:Program) (fn:Func) (hs:Hints) (args:List Value) (H:Heap) (R:Value→Heap→Prop):Prop:=
 match fn.body,Nat.ble args.length fn.ntmps with
 |some c,true=>k46 P fn hs R c (k3w 0 args) H
 |_,_=>False
section
variable {P:Program} {fn:Func} {hs:Hints} {R:Value→Heap→Prop}
def endD (R:Value→Heap→Prop) (w0:World):Ending→World→Prop:=fun e w'=> ∃v,e= .returned v∧Same w0 w'∧R v w'.heap
theorem kcM {f:FuncId} {fv:Go.Fn} {cap dargs args:Array Value} {ρ:Env} {a:Act} {w0 w:World} (hr:Rep [⟨.fn fv cap,dargs⟩] fn.ntmps ρ a) (hs0:Same w0 w)
 (hi:k2z P (invoke (.fn fv cap) dargs)=some (.enter f args)) (h:k9Y P fn f args ρ w.heap R):Leaves P fn a.tmps (endD R w0) a.defers .returning w:=by
 rw[hr.defers]
 refine leaves_cons (by simp) (k3P P _ _ hi w) ?_
 refine(h .returning w rfl).mono ?_
 rintro e u' w' ⟨rfl,v,rfl,hs',l,hl,hR⟩
 show Leaves P fn a.tmps (endD R w0) [] (settle .returning) w'
 exact⟨_,k6G hr hl,_,rfl,hs0.trans hs',hR⟩
theorem kdN (hm:P.follows .mixedOrders=true) {id:Nat} {ops:Array Oper} {draw:Bool} {y:Code} {ρ:Env} {a:Act} {w w0:World} {K:Env→Heap→Prop} {Q:Exit→Act→World→Prop}
 (hr:Rep [] fn.ntmps ρ a) (hs0:Same w0 w) (h:k1Q P fn.ntmps hs 0 (.region id ops draw) ρ w.heap (fun e ρ' H'=>match e with
   | .normal=>K ρ' H'
   |_=>False))
 (hk: ∀ρ' a' w',Rep [] fn.ntmps ρ' a'→Same w0 w'→K ρ' w'.heap→y.wp P Q a' w'):(Code.seq (.region id ops draw) y).wp P Q a w:=by
 refine wp_seq (wp_mono (k7Q hm _ 0 _ _ _ w hr h) ?_)
 intro e a' w' hp
 cases e with
 |normal=>obtain⟨⟨ρ',hr',hq⟩,hs',_⟩:=hp;exact hk ρ' a' w' hr' (hs0.trans hs') hq
 |ret=>obtain⟨⟨ρ',hr',hq⟩,hs',_⟩:=hp;exact hq.elim
 |exit i=>obtain⟨⟨ρ',hr',hq⟩,_,_⟩:=hp;exact hq.elim
 |goto l=>exact hp.elim
 |panic ch=>exact hp.elim
 |outgrown=>exact hp.elim
theorem kfZ (hm:P.follows .mixedOrders=true): ∀(c:Code) (ρ:Env) (a:Act) (w0 w:World),Rep [] fn.ntmps ρ a→Same w0 w→k46 P fn hs R c ρ w.heap→
 c.wp P (bodyPostD P fn (endD R w0)) a w:=by
 intro c
 induction c with
 |seq x y _ ihy=>
  intro ρ a w0 w hr hs0 h
  cases x with
  |region id ops draw=>
   unfold k46 at h
   split at h
   ·rename_i o1 o2 hops _
    split at h
    ·rename_i c hop hg
     simp only[Bool.and_eq_true] at hg
     unfold kbP at h
     have g1:o1.guard=none:=by
      have:=hg.1;unfold noG at this;split at this
      ·rename_i h;exact h
      ·cases this
     have g2:o2.guard=none∧o2.dst=none:=by
      have:=hg.2;unfold noW at this;split at this
      ·split at this
       ·rename_i h1 _ h2;exact⟨h1,h2⟩
       ·cases this
      ·cases this
     refine wp_seq (wp_region_list ?_)
     rw[hops]
     unfold wpList
     rw[if_pos (by simp[Region.wanted,g1])]
     refine .inl (Oper.wp_mono ?_ (kd7 hr h))
     rintro a1 w1 ⟨⟨ρ1,hr1,hk⟩,hs1,_⟩
     split at hk
     ·rename_i x hkn hcal hargs
      split at hk
      ·rename_i d hd
       split at hk
       ·rename_i fv cap htg
        split at hk
        ·rename_i f args hi
         unfold wpList
         rw[if_pos (by simp[Region.wanted,g2.1])]
         refine .inl ?_
         unfold Oper.wp
         have hx:a1.eval x=evD ρ1 x:=hr1.evals [x] (by simpa [hcal] using hkn) x (by simp)
         have hargs':c.args= #[]:=by rw[←Array.toArray_toList (xs:=c.args),hargs]
         have hrun:(execOp a1.eval o2).run P w1= .ok (.defer ⟨.fn fv cap,d.args⟩) w1:=by
          have hd':=k3P P _ _ hd w1
          have e:d=⟨.fn fv cap,d.args⟩:=by cases d;simp at htg⊢;exact htg
          simp only[execOp,hop,resolve,hcal,hargs',Sem.run_bind,hx]
          simp only[List.map_toArray,List.map_nil]
          rw[hd',←e]
          simp
         rw[hrun,Oper.upon_defer]
         unfold wpList
         rw[g2.2]
         have hr2:Rep [⟨.fn fv cap,d.args⟩] fn.ntmps ρ1 ({a1 with defers:=⟨.fn fv cap,d.args⟩::a1.defers}.put none undef):=
          ⟨by simp[Act.put,hr1.defers],hr1.size,hr1.get⟩
         refine wp_mono (k7Q hm y 0 _ _ _ w1 hr2 hk) ?_
         intro e a' w' hp
         cases e with
         |normal=>obtain⟨⟨ρ',hr',hq⟩,hs',_⟩:=hp;exact kcM hr' ((hs0.trans hs1).trans hs') hi hq
         |ret=>obtain⟨⟨ρ',hr',hq⟩,hs',_⟩:=hp;exact kcM hr' ((hs0.trans hs1).trans hs') hi hq
         |exit i=>obtain⟨⟨ρ',hr',hq⟩,_,_⟩:=hp;exact hq.elim
         |goto l=>exact hp.elim
         |panic ch=>exact hp.elim
         |outgrown=>exact hp.elim
        ·exact hk.elim
       ·exact hk.elim
      ·exact hk.elim
     ·exact hk.elim
    ·exact kdN hm hr hs0 h fun ρ' a' w' hr' hs' hk=>ihy ρ' a' w0 w' hr' hs' hk
   ·exact kdN hm hr hs0 h fun ρ' a' w' hr' hs' hk=>ihy ρ' a' w0 w' hr' hs' hk
  |_=>unfold k46 at h;exact h.elim
 |_=>intro ρ a w0 w hr hs0 h;unfold k46 at h;exact h.elim
theorem kgq (hm:P.follows .mixedOrders=true) {f:FuncId} (hf:P.funcs[f]?=some fn) (hs:Hints) (args:List Value) (H:Heap) (R:Value→Heap→Prop)
 (h:funD P fn hs args H R):Fn P f args.toArray H R:=by
 intro w hw
 subst hw
 unfold funD at h
 split at h
 ·rename_i c hb hle
  have hle':args.length≤fn.ntmps:=Nat.le_of_ble_eq_true hle
  have hrep:Rep [] fn.ntmps (k3w 0 args) {tmps:=args.toArray++Array.replicate (fn.ntmps -args.toArray.size) undef,defers:=[]}:=by
   refine⟨rfl,by simp;omega,fun t v ht=>?_⟩
   obtain⟨_,h2⟩:=k82 _ _ _ _ ht
   simp only[Nat.sub_zero] at h2
   have hlt:t<args.length:=(List.getElem?_eq_some_iff.1 h2).1
   simp only[Array.getD_eq_getD_getElem?]
   rw[Array.getElem?_append_left (by simpa using hlt)]
   simp[h2]
  exact calls_of_wp_defers hf hb (kfZ hm c _ _ w w hrep (Same.refl w) h)
 ·exact h.elim
end
end Go.Vx
