/- A part of the proof of what the last text of this claim says: Vx1, Vx2, Vx3, Vx4, Vx5, Vx6, Vx7, Vx8, Vx9, Vx10. Conditions: none. -/
import Derived.Calls
import Derived.Orders
import Derived.OrdersHeld
import Derived.Laws.Sem
import Derived.Maps.AppendAt
import Derived.Laws.AppendOwn
import Derived.MapFrom
import Derived.Laws.IdiomStrings
import Derived.Tactics
import Derived.Deep.LoopGhost
import Derived.Defers
namespace Go.Vx
open Go
abbrev Heap:=Array Obj
structure Same (w w':World):Prop where
 os:w'.os=w.os
 tape:w'.tape=w.tape
 output:w'.output=w.output
theorem Same.refl (w:World):Same w w:=⟨rfl,rfl,rfl⟩
theorem Same.trans {a b c:World} (h:Same a b) (k:Same b c):Same a c:=
 ⟨k.os.trans h.os,k.tape.trans h.tape,k.output.trans h.output⟩
def cellAt (H:Heap) (a:Addr):Option Value:=
 match H[a.block]? with
 |some (.cells c _ _)=>if a.spot.isSome then none else c[a.off]?
 |_=>none
def shapeAt (H:Heap) (r:Nat):Option (TypeId×Nat):=
 match H[r]? with
 |some (.cells c elem _)=>some (elem,c.size)
 |_=>none
def frozenAt (H:Heap) (a:Addr):Bool:=
 match H[a.block]? with
 |some (.cells _ _ (lo,hi))=>lo≤a.off&&a.off<hi
 |_=>false
def setCellH (H:Heap) (a:Addr) (v:Value):Heap:=
 H.modify a.block fun
  | .cells c elem frozen=> .cells (if a.spot.isSome then c else c.setIfInBounds a.off v) elem frozen
  |o=>o
def freezeH (H:Heap) (a:Addr) (n:Nat):Heap:=
 if n=0 then H else
 H.modify a.block fun
  | .cells c elem (lo,hi)=> .cells c elem (if lo==hi then(a.off,a.off+n) else(min lo a.off,max hi (a.off+n)))
  |o=>o
def isCells:Obj→Bool
 | .cells .. =>true
 |_=>false
def one:Value→Bool
 | .agg _=>false
 | .tuple _=>false
 |_=>true
def hwp (P:Program) {α:Type}:Sem α→(α→Heap→Prop)→Heap→Prop
 | .pure a,Q,H=>Q a H
 | .load _ a k,Q,H=> ∃v,cellAt H a=some v∧hwp P (k v) Q H
 | .store _ a v k,Q,H=>one v=true∧(∃u,cellAt H a=some u)∧frozenAt H a=false∧hwp P k Q (setCellH H a v)
 | .new o k,Q,H=>hwp P (k H.size) Q (H.push o)
 | .shape r k,Q,H=>hwp P (k (shapeAt H r)) Q H
 | .freeze a n k,Q,H=>hwp P k Q (freezeH H a n)
 | .frozen a k,Q,H=>hwp P (k (frozenAt H a)) Q H
 | .getObj r k,Q,H=> ∃o,H[r]?=some o∧isCells o=false∧hwp P (k o) Q H
 | .setObj r o k,Q,H=>(∃u,H[r]?=some u∧isCells u=false)∧hwp P k Q (H.setIfInBounds r o)
 | .choose q k,Q,H=>(q.forced=true→hwp P (k 0) Q H)∧(q.forced=false→ ∀t,hwp P (k (q.cut t)) Q H)
 | .sys _ _,_,_=>False
 | .program k,Q,H=>hwp P (k P) Q H
 | .mark _ k,Q,H=>hwp P k Q H
 | .halt _,_,_=>False
theorem hwp_run (P:Program) {α:Type} (s:Sem α): ∀(Q:α→Heap→Prop) (H:Heap),hwp P s Q H→ ∀w:World,w.heap=H→
 ∃v w',s.run P w= .ok v w'∧Same w w'∧Q v w'.heap:=by
 induction s with
 |pure a=>intro Q H h w hw;subst hw;exact⟨a,w,rfl,Same.refl w,h⟩
 |load m a k ih=>
  rintro Q H ⟨v,hv,h⟩ w hw
  subst hw
  have hv':w.cell? a=some v:=hv
  simp only[Sem.run,hv']
  exact ih v Q _ h w rfl
 |store m a v k ih=>
  rintro Q H ⟨h1,⟨u,hu⟩,hf,h⟩ w hw
  subst hw
  have hu':w.cell? a=some u:=hu
  have hf':w.frozen? a=false:=hf
  obtain⟨x,w',hr,hs,hq⟩:=ih Q _ h (w.setCell a v) rfl
  refine⟨x,w',?_,⟨hs.os,hs.tape,hs.output⟩,hq⟩
  cases v<;>first|(simp[one] at h1;done)|(simp only[Sem.run,hu',hf',Bool.false_eq_true,if_false];exact hr)
 |new o k ih=>
  intro Q H h w hw
  subst hw
  obtain⟨x,w',hr,hs,hq⟩:=ih w.heap.size Q _ h {w with heap:=w.heap.push o} rfl
  exact⟨x,w',by simp only[Sem.run];exact hr,⟨hs.os,hs.tape,hs.output⟩,hq⟩
 |shape r k ih=>intro Q H h w hw;subst hw;exact ih _ Q _ h w rfl
 |freeze a n k ih=>
  intro Q H h w hw
  subst hw
  have he:(w.freeze a n).heap=freezeH w.heap a n:=by unfold World.freeze freezeH;split<;>rfl
  have hsame:Same w (w.freeze a n):=by unfold World.freeze;split<;>exact⟨rfl,rfl,rfl⟩
  obtain⟨x,w',hr,hs,hq⟩:=ih Q _ h (w.freeze a n) he
  exact⟨x,w',by simp only[Sem.run];exact hr,hsame.trans hs,hq⟩
 |frozen a k ih=>intro Q H h w hw;subst hw;exact ih _ Q _ h w rfl
 |getObj r k ih=>
  rintro Q H ⟨o,ho,hc,h⟩ w hw
  subst hw
  obtain⟨x,w',hr,hs,hq⟩:=ih o Q _ h w rfl
  refine⟨x,w',?_,hs,hq⟩
  cases o<;>simp_all [Sem.run,isCells]
 |setObj r o k ih=>
  rintro Q H ⟨⟨u,hu,hc⟩,h⟩ w hw
  subst hw
  obtain⟨x,w',hr,hs,hq⟩:=ih Q _ h {w with heap:=w.heap.setIfInBounds r o} rfl
  refine⟨x,w',?_,⟨hs.os,hs.tape,hs.output⟩,hq⟩
  cases u<;>simp_all [Sem.run,isCells]
 |choose q k ih=>
  rintro Q H ⟨hf,ht⟩ w hw
  subst hw
  cases hq:q.forced with
  |true=>
   obtain⟨x,w',hr,hs,hqq⟩:=ih 0 Q _ (hf hq) w rfl
   exact⟨x,w',by simp only[Sem.run,hq,if_true];exact hr,hs,hqq⟩
  |false=>
   obtain⟨x,w',hr,hs,hqq⟩:=ih _ Q _ (ht hq (w.tape w.drawn q)) {w with drawn:=w.drawn+1} rfl
   exact⟨x,w',by simp only[Sem.run,hq,Bool.false_eq_true,if_false];exact hr,⟨hs.os,hs.tape,hs.output⟩,hqq⟩
 |sys c k ih=>intro Q H h;exact h.elim
 |program k ih=>
  intro Q H h w hw
  obtain⟨x,w',hr,hs,hq⟩:=ih P Q _ h w hw
  exact⟨x,w',by simp only[Sem.run];exact hr,hs,hq⟩
 |mark m k ih=>
  intro Q H h w hw
  obtain⟨x,w',hr,hs,hq⟩:=ih Q _ h w hw
  exact⟨x,w',by simp only[Sem.run];exact hr,hs,hq⟩
 |halt x=>intro Q H h;exact h.elim
def Fn (P:Program) (f:FuncId) (args:Array Value) (H:Heap) (R:Value→Heap→Prop):Prop:=
 ∀w:World,w.heap=H→Calls P f args w fun e w'=> ∃v,e= .returned v∧Same w w'∧R v w'.heap
theorem Fn.mono {P:Program} {f:FuncId} {args:Array Value} {H:Heap} {R R':Value→Heap→Prop} (h:Fn P f args H R)
 (hr: ∀v H',R v H'→R' v H'):Fn P f args H R':=
 fun w hw=>(h w hw).mono fun _ _ ⟨v,he,hs,hR⟩=>⟨v,he,hs,hr _ _ hR⟩
end Go.Vx
namespace Go.Vx
open Go
variable {D:List Deferred}
abbrev Env:=List (Nat×Value)
def look:Env→Nat→Option Value
 |[],_=>none
 |(d,v)::r,t=>match Nat.beq d t with
  |true=>some v
  |false=>look r t
def ev (ρ:Env):Operand→Option Value
 | .tmp t=>look ρ t
 | .const v=>some v
 | .global g=>some (.pointer (some ⟨g,0,none⟩))
 | .func f=>some (.func (.func f) #[] #[])
def evD (ρ:Env) (x:Operand):Value:=
 match ev ρ x with
 |some v=>v
 |none=>undef
def knownL (ρ:Env):List Operand→Bool
 |[]=>true
 |x::r=>match ev ρ x with
  |some _=>knownL ρ r
  |none=>false
structure Rep (D:List Deferred) (n:Nat) (ρ:Env) (a:Act):Prop where
 defers:a.defers=D
 size:a.tmps.size=n
 get: ∀t v,look ρ t=some v→a.tmps.getD t undef=v
theorem look_cons_self (ρ:Env) (d:Nat) (v:Value):look ((d,v)::ρ) d=some v:=by
 simp[look]
theorem look_cons_ne (ρ:Env) (d t:Nat) (v:Value) (h:d≠t):look ((d,v)::ρ) t=look ρ t:=by
 have:Nat.beq d t=false:=by cases hb:Nat.beq d t with
  |false=>rfl
  |true=>exact absurd (Nat.eq_of_beq_eq_true hb) h
 simp[look,this]
theorem getD_put (a:Act) (d t:Nat) (v:Value) (hd:d<a.tmps.size):
 (a.put (some d) v).tmps.getD t undef=if d=t then v else a.tmps.getD t undef:=by
 simp only[Act.put,Array.getD_eq_getD_getElem?,Array.getElem?_setIfInBounds]
 by_cases h:d=t
 ·subst h;simp[hd]
 ·simp[h]
theorem Rep.put {n:Nat} {ρ:Env} {a:Act} (h:Rep D n ρ a) {d:Nat} (hd:d<n) (v:Value):Rep D n ((d,v)::ρ) (a.put (some d) v):=by
 refine⟨h.defers,by simp[Act.put,h.size],fun t u hu=>?_⟩
 rw[getD_put a d t v (by rw[h.size];exact hd)]
 by_cases e:d=t
 ·subst e;rw[look_cons_self] at hu;cases hu;simp
 ·rw[look_cons_ne _ _ _ _ e] at hu;simp[e];simpa using h.get t u hu
theorem Rep.eval {n:Nat} {ρ:Env} {a:Act} (h:Rep D n ρ a) {x:Operand} {v:Value} (hx:ev ρ x=some v):a.eval x=v:=by
 cases x with
 |tmp t=>exact h.get t v hx
 |const u=>simpa [ev,Act.eval] using hx
 |global g=>simpa [ev,Act.eval] using hx
 |func f=>simpa [ev,Act.eval] using hx
theorem Rep.evals {n:Nat} {ρ:Env} {a:Act} (h:Rep D n ρ a): ∀(l:List Operand),knownL ρ l=true→ ∀x∈l,a.eval x=evD ρ x
 |[],_,_,hx=>by cases hx
 |y::r,hk,x,hx=>by
  simp only[knownL] at hk
  cases hy:ev ρ y with
  |none=>rw[hy] at hk;cases hk
  |some v=>
   rw[hy] at hk
   rcases List.mem_cons.1 hx with rfl|hx
   ·rw[h.eval hy];simp[evD,hy]
   ·exact h.evals r hk x hx
theorem Rep.learn {n:Nat} {ρ:Env} {a:Act} (h:Rep D n ρ a) {t:Nat} {v:Value} (ht:look ρ t=some v) (u:Value) (e:v=u):Rep D n ((t,u)::ρ) a:=by
 refine⟨h.defers,h.size,fun s x hs=>?_⟩
 by_cases hts:t=s
 ·subst hts;rw[look_cons_self] at hs;cases hs;rw[h.get _ _ ht,e]
 ·rw[look_cons_ne _ _ _ _ hts] at hs;exact h.get s x hs
def pureV (P:Program) {α:Type}:Sem α→Option α
 | .pure a=>some a
 | .program k=>pureV P (k P)
 | .mark _ k=>pureV P k
 |_=>none
theorem pureV_run (P:Program) {α:Type} (s:Sem α): ∀v,pureV P s=some v→ ∀w,s.run P w= .ok v w:=by
 induction s with
 |pure a=>intro v h w;simp only[pureV,Option.some.injEq] at h;subst h;rfl
 |program k ih=>intro v h w;simp only[Sem.run];exact ih P v h w
 |mark m k ih=>intro v h w;simp only[Sem.run];exact ih v h w
 |_=>intro v h;simp[pureV] at h
def newV (P:Program):Sem Next→Option (Obj×(Nat→Option Next))
 | .new o k=>some (o,fun r=>pureV P (k r))
 | .program k=>newV P (k P)
 | .mark _ k=>newV P k
 |_=>none
theorem newV_run (P:Program) (s:Sem Next): ∀o f,newV P s=some (o,f)→ ∀(w:World) v,f w.heap.size=some v→
 s.run P w= .ok v {w with heap:=w.heap.push o}:=by
 induction s with
 |new o' k ih=>
  intro o f h w v hv
  simp only[newV,Option.some.injEq,Prod.mk.injEq] at h
  obtain⟨rfl,rfl⟩:=h
  simp only[Sem.run]
  exact pureV_run P _ _ hv _
 |program k ih=>intro o f h w v hv;simp only[Sem.run];exact ih P o f h w v hv
 |mark m k ih=>intro o f h w v hv;simp only[Sem.run];exact ih o f h w v hv
 |_=>intro o f h;simp[newV] at h
def cellsAt (H:Heap) (a:Addr) (n:Nat):Option (List Value):=
 match H[a.block]? with
 |some (.cells c _ _)=>
  match a.spot with
  |none=>if a.off+n≤c.size then some ((c.toList.drop a.off).take n) else none
  |some _=>none
 |_=>none
def loadC (H:Heap) (agg:Bool) (n:Nat) (a:Addr):Option Value:=
 match agg with
 |true=>match cellsAt H a n with
  |some l=>some (.agg l.toArray)
  |none=>none
 |false=>cellAt H a
def writeAt (c:Array Value) (off:Nat):List Value→Array Value
 |[]=>c
 |v::r=>writeAt (c.setIfInBounds off v) (off+1) r
def oneL:List Value→Bool
 |[]=>true
 |v::r=>one v&&oneL r
def freeFrom (fr:Nat×Nat) (off n:Nat):Bool:=n==0||fr.2≤fr.1||off+n≤fr.1||fr.2≤off
def storeC (H:Heap) (a:Addr) (l:List Value):Option Heap:=
 match H[a.block]? with
 |some (.cells c e fr)=>
  match a.spot with
  |none=>if a.off+l.length≤c.size∧freeFrom fr a.off l.length=true∧oneL l=true then some (H.setIfInBounds a.block (.cells (writeAt c a.off l) e fr)) else none
  |some _=>none
 |_=>none
theorem run_loadCellsFrom (P:Program) (H:Heap) (b o:Nat) (c:Array Value) (e:TypeId) (fr:Nat×Nat) (hb:H[b]?=some (.cells c e fr)):
 ∀(n i:Nat) (acc:Array Value) (w:World),w.heap=H→o+i+n≤c.size→
  (loadCellsFrom ⟨b,o,none⟩ i n acc).run P w= .ok (acc++((c.toList.drop (o+i)).take n).toArray) w:=by
 intro n
 induction n with
 |zero=>intro i acc w hw hs;simp[loadCellsFrom]
 |succ n ih=>
  intro i acc w hw hs
  subst hw
  have hlt:o+i<c.size:=by omega
  have hadd:(⟨b,o,none⟩:Addr).add i=⟨b,o+i,none⟩:=by unfold Addr.add;split<;>simp_all
  have hc:w.cell? ⟨b,o+i,none⟩=some c[o+i]:=by simp[World.cell?,hb,hlt]
  have:=ih (i+1) (acc.push c[o+i]) w rfl (by omega)
  simp only[loadCellsFrom,load,Sem.run_bind,hadd,Sem.run,hc,Result.andThen_ok]
  have e2:c.toList.drop (o+i)=c[o+i]::c.toList.drop (o+(i+1)):=by
   rw[List.drop_eq_getElem_cons (by simpa using hlt)];rfl
  rw[this,e2]
  simp
end Go.Vx
namespace Go.Vx
open Go
theorem modify_eq {α:Type} (A:Array α) (b:Nat) (f:α→α) (x:α) (h:A[b]?=some x):A.modify b f=A.setIfInBounds b (f x):=by
 obtain⟨hlt,hx⟩:=Array.getElem?_eq_some_iff.1 h
 apply Array.ext_getElem?
 intro i
 rw[Array.getElem?_modify,Array.getElem?_setIfInBounds]
 by_cases e:b=i
 ·subst e;simp[hlt,hx]
 ·simp[e]
theorem setCell_eq (w:World) (b o:Nat) (v:Value) (c:Array Value) (e:TypeId) (fr:Nat×Nat) (h:w.heap[b]?=some (.cells c e fr)):
 w.setCell ⟨b,o,none⟩ v= {w with heap:=w.heap.setIfInBounds b (.cells (c.setIfInBounds o v) e fr)}:=by
 simp only[World.setCell]
 rw[modify_eq _ _ _ _ h]
 simp
theorem setIf_same {α:Type} (A:Array α) (b:Nat) (x y:α):(A.setIfInBounds b x).setIfInBounds b y=A.setIfInBounds b y:=by
 apply Array.ext_getElem?
 intro i
 simp only[Array.getElem?_setIfInBounds,Array.size_setIfInBounds]
 split<;>simp_all
theorem setIf_refl {α:Type} (A:Array α) (b:Nat) (x:α) (h:A[b]?=some x):A.setIfInBounds b x=A:=by
 obtain⟨hlt,hx⟩:=Array.getElem?_eq_some_iff.1 h
 apply Array.ext_getElem?
 intro i
 rw[Array.getElem?_setIfInBounds]
 split
 ·rename_i e;subst e;simp[hlt,hx]
 ·rfl
theorem get_setIf {α:Type} (A:Array α) (b:Nat) (x y:α) (h:A[b]?=some x):(A.setIfInBounds b y)[b]?=some y:=by
 obtain⟨hlt,hx⟩:=Array.getElem?_eq_some_iff.1 h
 simp[hlt]
theorem run_storeCells (P:Program) (b o:Nat) (e:TypeId) (fr:Nat×Nat): ∀(l:List Value) (i:Nat) (c:Array Value) (w:World),w.heap[b]?=some (.cells c e fr)→
 o+i+l.length≤c.size→freeFrom fr (o+i) l.length=true→oneL l=true→
 (storeCells ⟨b,o,none⟩ l i).run P w= .ok () {w with heap:=w.heap.setIfInBounds b (.cells (writeAt c (o+i) l) e fr)}:=by
 intro l
 induction l with
 |nil=>
  intro i c w hw _ _ _
  simp only[storeCells,writeAt,setIf_refl _ _ _ hw];rfl
 |cons v r ih=>
  intro i c w hw hs hf h1
  have hlt:o+i<c.size:=by simp only[List.length_cons] at hs;omega
  have hadd:(⟨b,o,none⟩:Addr).add i=⟨b,o+i,none⟩:=by unfold Addr.add;split<;>simp_all
  have hc:w.cell? ⟨b,o+i,none⟩=some c[o+i]:=by simp[World.cell?,hw,hlt]
  have hfr:w.frozen? ⟨b,o+i,none⟩=false:=by
   simp only[World.frozen?,hw]
   simp only[freeFrom,List.length_cons,Bool.or_eq_true,decide_eq_true_eq,beq_iff_eq] at hf
   simp only[Bool.and_eq_false_iff,decide_eq_false_iff_not]
   omega
  have hone:one v=true:=by simp only[oneL,Bool.and_eq_true] at h1;exact h1.1
  have h1':oneL r=true:=by simp only[oneL,Bool.and_eq_true] at h1;exact h1.2
  have hf':freeFrom fr (o+(i+1)) r.length=true:=by
   simp only[freeFrom,List.length_cons,Bool.or_eq_true,decide_eq_true_eq,beq_iff_eq] at hf⊢
   omega
  have hst:=setCell_eq w b (o+i) v c e fr hw
  have hw':(w.setCell ⟨b,o+i,none⟩ v).heap[b]?=some (.cells (c.setIfInBounds (o+i) v) e fr):=by rw[hst];exact get_setIf _ _ _ _ hw
  have:=ih (i+1) (c.setIfInBounds (o+i) v) (w.setCell ⟨b,o+i,none⟩ v) hw' (by simp only[List.length_cons,Array.size_setIfInBounds] at hs⊢;omega) hf' h1'
  have hrun:(store ⟨b,o+i,none⟩ v).run P w= .ok () (w.setCell ⟨b,o+i,none⟩ v):=by
   cases v<;>first|(simp[one] at hone;done)|simp only[store,Sem.run,hc,hfr,Bool.false_eq_true,if_false]
  simp only[storeCells,Sem.run_bind,hadd,hrun,Result.andThen_ok,this]
  rw[hst]
  simp only[setIf_same,writeAt,Nat.add_assoc]
def aggOf (P:Program) (t:TypeId):Option (Bool×Nat):=
 match P.underlying t,P.info? t with
 |some (.struct _),some i=>some (true,i.size)
 |some (.array _ _),some i=>some (true,i.size)
 |some _,some i=>some (false,i.size)
 |_,_=>none
theorem run_loadVar (P:Program) (t:TypeId) (agg:Bool) (n:Nat) (ht:aggOf P t=some (agg,n)) (a:Addr) (w:World) (v:Value)
 (h:loadC w.heap agg n a=some v):(loadVar t a).run P w= .ok v w:=by
 unfold aggOf at ht
 have key: ∀(d:TypeDesc) (i:TypeInfo),P.underlying t=some d→P.info? t=some i→
  ((match d with| .struct _| .array _ _=>true|_=>false)=agg)→i.size=n→(loadVar t a).run P w= .ok v w:=by
  intro d i hd hi hag hn
  have hisagg:(isAgg t).run P w= .ok agg w:=by
   simp only[isAgg,underlying,program,Sem.run_bind,Sem.run,Result.andThen_ok,hd,Sem.run_pure]
   cases d<;>simp_all [Sem.run_pure]
  have hsz:(sizeOf t).run P w= .ok n w:=by
   simp[sizeOf,typeInfo,program,Sem.run_bind,Sem.run,hi,Sem.run_pure,hn]
  simp only[loadVar,Sem.run_bind,hisagg,Result.andThen_ok]
  cases agg with
  |false=>
   simp only[Bool.false_eq_true,if_false]
   have hc:w.cell? a=some v:=h
   simp[load,Sem.run,hc]
  |true=>
   simp only[if_true,Sem.run_bind,hsz,Result.andThen_ok,loadCells,Sem.run_pure]
   simp only[loadC,cellsAt] at h
   cases hb:w.heap[a.block]? with
   |none=>simp[hb] at h
   |some ob=>
    cases ob<;>simp only[hb] at h<;>try (cases h;done)
    rename_i c e fr
    obtain⟨b,o,sp⟩:=a
    cases sp with
    |some s=>simp at h
    |none=>
     simp only at h
     split at h
     ·rename_i l hl
      split at hl
      ·rename_i hle
       simp only[Option.some.injEq] at hl h
       subst hl h
       have:=run_loadCellsFrom P w.heap b o c e fr hb n 0 #[] w rfl (by simpa using hle)
       simp only[Nat.add_zero,Array.empty_append] at this
       simp[this]
      ·cases hl
     ·cases h
 split at ht
 ·rename_i f i h1 h2;simp only[Option.some.injEq,Prod.mk.injEq] at ht;exact key _ i h1 h2 ht.1 ht.2
 ·rename_i f e i h1 h2;simp only[Option.some.injEq,Prod.mk.injEq] at ht;exact key _ i h1 h2 ht.1 ht.2
 ·rename_i d i hns hna h1 h2
  simp only[Option.some.injEq,Prod.mk.injEq] at ht
  refine key d i (by assumption) (by assumption) ?_ ht.2
  rw[←ht.1]
  split
  ·exact(hns _ rfl).elim
  ·exact(hna _ _ rfl).elim
  ·rfl
 ·cases ht
theorem run_storeVar (P:Program) (t:TypeId) (agg:Bool) (n:Nat) (ht:aggOf P t=some (agg,n)) (a:Addr) (w:World) (v:Value) (H':Heap)
 (hn:v.cells.size=n) (h:storeC w.heap a v.cells.toList=some H'):(storeVar t a v).run P w= .ok () {w with heap:=H'}:=by
 have hi: ∃i,P.info? t=some i∧i.size=n:=by
  unfold aggOf at ht
  split at ht<;>first|(cases ht;done)|(simp only[Option.some.injEq,Prod.mk.injEq] at ht;exact⟨_,by assumption,ht.2⟩)
 obtain⟨i,hi,hin⟩:=hi
 have hsz:(sizeOf t).run P w= .ok n w:=by
  simp[sizeOf,typeInfo,program,Sem.run_bind,Sem.run,hi,Sem.run_pure,hin]
 simp only[storeC] at h
 cases hb:w.heap[a.block]? with
 |none=>simp[hb] at h
 |some ob=>
  cases ob<;>simp only[hb] at h<;>try (cases h;done)
  rename_i c e fr
  obtain⟨b,o,sp⟩:=a
  cases sp with
  |some s=>simp at h
  |none=>
   simp only at h
   split at h
   ·rename_i hh
    simp only[Option.some.injEq] at h
    subst h
    have:=run_storeCells P b o e fr v.cells.toList 0 c w hb (by simpa using hh.1) (by simpa using hh.2.1) hh.2.2
    simp only[Nat.add_zero] at this
    simp[storeVar,Sem.run_bind,hsz,hn,this]
   ·cases h
end Go.Vx
namespace Go.Vx
open Go
structure Pat where
 α:Type
 to:α→Value
def Pat.raw:Pat:=⟨Value,fun v=>v⟩
structure PatX where
 a:Pat
 b:Option Pat
structure QV where
 side:Option Prop
 val:Value
def bt (s:ByteArray) (n:Int):Int:=(((s.data[n.toNat]?).getD 0:UInt8).toNat:Int)
def slcO (o cap l size:Nat):Nat:=if cap=l then o else o+l*size
def okA:Option Addr→Bool
 |some ⟨_,_,none⟩=>true
 |_=>false
def blkOf:Option Addr→Nat
 |some a=>a.block
 |none=>0
def offOf:Option Addr→Nat
 |some a=>a.off
 |none=>0
def IxOk (a:Option Addr) (n:Int) (len:Nat):Prop:=okA a=true∧0≤n∧n<(len:Int)
def idxV (P:Program) (t:TypeId):Value→Value→Option QV
 | .slice a len _,.int _ n=>
  match P.underlying t with
  |some (.slice e)=>match P.info? e with
   |some i=>some ⟨some (IxOk a n len),.pointer (some ⟨blkOf a,offOf a+n.toNat*i.size,none⟩)⟩
   |none=>none
  |_=>none
 |_,_=>none
def strIdxV (P:Program) (t:TypeId):Value→Value→Option QV
 | .string s,.int _ n=>
  match P.underlying t with
  |some .string=>some ⟨some (0≤n∧n<(s.size:Int)),.int .u8 (bt s n)⟩
  |_=>none
 |_,_=>none
def slcS (P:Program) (t:TypeId) (s:ByteArray) (lo hi:Option Value):Option QV:=
 match P.underlying t with
 |some .string=>
  match lo,hi with
  |some (.int _ l),none=>some ⟨some (0≤l∧l≤((s.size:Nat):Int)),.string (s.extract l.toNat s.size)⟩
  |none,some (.int _ h)=>some ⟨some (0≤h∧h≤((s.size:Nat):Int)),.string (s.extract 0 h.toNat)⟩
  |some (.int _ l),some (.int _ h)=>some ⟨some ((0≤h∧h≤((s.size:Nat):Int))∧(0≤l∧l≤((h.toNat:Nat):Int))),.string (s.extract l.toNat h.toNat)⟩
  |_,_=>none
 |_=>none
def slcA (a:Option Addr) (cap l size:Nat):Option Addr:=
 match a with
 |some ⟨b,o,none⟩=>some ⟨b,slcO o cap l size,none⟩
 |some x=>some (if cap=l then x else x.add (l*size))
 |none=>none
def slcL (P:Program) (t:TypeId) (a:Option Addr) (len cap:Nat) (lo hi:Option Value):Option QV:=
 match P.underlying t with
 |some (.slice e)=>match P.info? e with
  |some i=>
   match lo,hi with
   |some (.int _ l),none=>some ⟨some (0≤l∧l≤((len:Nat):Int)),.slice (slcA a cap l.toNat i.size) (len -l.toNat) (cap -l.toNat)⟩
   |none,some (.int _ h)=>some ⟨some (0≤h∧h≤((cap:Nat):Int)),.slice (slcA a cap 0 i.size) h.toNat cap⟩
   |some (.int _ l),some (.int _ h)=>some ⟨some ((0≤h∧h≤((cap:Nat):Int))∧(0≤l∧l≤((h.toNat:Nat):Int))),.slice (slcA a cap l.toNat i.size) (h.toNat -l.toNat) (cap -l.toNat)⟩
   |_,_=>none
  |none=>none
 |_=>none
def slcV (P:Program) (t:TypeId) (lo hi:Option Value):Value→Option QV
 | .string s=>slcS P t s lo hi
 | .slice a len cap=>slcL P t a len cap lo hi
 |_=>none
def catV:BinOp→Value→Value→Option QV
 | .add,.string x,.string y=>some ⟨some (((x.size+y.size:Nat):Int)≤9223372036854775807),.string (x++y)⟩
 | .rem,.int .i64 x,.int .i64 y=>some ⟨some (y≠0),.int .i64 (x.tmod y)⟩
 |_,_,_=>none
def quietOp:Op→Bool
 | .move _| .assign _| .pick .. | .build .. | .fieldAddr .. | .field .. | .extract .. | .nilCheck _| .binOp .. | .unOp .. | .convert .. | .makeInterface .. | .makeFunc ..
 | .typeAssert .. | .indexAddr .. | .index .. | .slice .. =>true
 | .call {callee:= .builtin .len,.. }| .call {callee:= .builtin .cap,.. }| .call {callee:= .builtin .min,.. }| .call {callee:= .builtin .max,.. }=>true
 |_=>false
def specialV (P:Program) (ρ:Operand→Value):Op→Option QV
 | .indexAddr t x i=>idxV P t (ρ x) (ρ i)
 | .index t x i=>strIdxV P t (ρ x) (ρ i)
 | .slice t x lo hi none=>slcV P t (lo.map ρ) (hi.map ρ) (ρ x)
 | .binOp op _ x y _=>catV op (ρ x) (ρ y)
 |_=>none
def quietV (P:Program) (ρ:Operand→Value) (o:Oper):Option QV:=
 match quietOp o.op with
 |true=>match specialV P ρ o.op with
  |some q=>some q
  |none=>match pureV P (execOp ρ o) with
   |some (.value v)=>some ⟨none,v⟩
   |_=>none
 |false=>none
def QV.ok (q:QV):Prop:= ∀p,q.side=some p→p
theorem addr_add (b o m:Nat):(⟨b,o,none⟩:Addr).add m=⟨b,o+m,none⟩:=by
 unfold Addr.add;split<;>simp_all
theorem run_und {P:Program} {t:TypeId} {d:TypeDesc} (h:P.underlying t=some d) (w:World):(underlying t).run P w= .ok d w:=by
 simp[underlying,program,Sem.run_bind,Sem.run,h,Sem.run_pure]
theorem run_size {P:Program} {t:TypeId} {i:TypeInfo} (h:P.info? t=some i) (w:World):(sizeOf t).run P w= .ok i.size w:=by
 simp[sizeOf,typeInfo,program,Sem.run_bind,Sem.run,h,Sem.run_pure]
theorem idxV_run (P:Program) (t:TypeId) (x i:Value) (q:QV) (h:idxV P t x i=some q) (hq:q.ok) (w:World):
 (Instr.indexAt t x i).run P w= .ok q.val w:=by
 unfold idxV at h
 split at h
 ·rename_i a len cap k n
  split at h
  ·rename_i e he
   split at h
   ·rename_i inf hi
    simp only[Option.some.injEq] at h
    subst h
    obtain⟨hok,hs⟩:=hq _ rfl
    unfold okA at hok
    split at hok
    ·rename_i b o
     simp only[Instr.indexAt,asIntOf,Sem.run_bind,Sem.run_pure,Result.andThen_ok,run_und he]
     simp[hs.1,hs.2,run_size hi,addr_add,blkOf,offOf]
    ·cases hok
   ·cases h
  ·cases h
 ·cases h
theorem strIdxV_run (P:Program) (t:TypeId) (x i:Value) (q:QV) (h:strIdxV P t x i=some q) (hq:q.ok) (w:World):
 (Instr.index t x i).run P w= .ok q.val w:=by
 unfold strIdxV at h
 split at h
 ·rename_i s k n
  split at h
  ·rename_i he
   simp only[Option.some.injEq] at h
   subst h
   have hs:=hq _ rfl
   have hlt:n.toNat<s.size:=by omega
   have hget:s[n.toNat]?=some s[n.toNat]:=by simp[hlt]
   simp only[Instr.index,asIntOf,Sem.run_bind,Sem.run_pure,Result.andThen_ok,run_und he]
   simp only[hs.1,if_true,hget,Sem.run_pure,bt]
   congr 3
   have:s.data[n.toNat]?=some s[n.toNat]:=by
    have:s.data.size=s.size:=rfl
    simp[ByteArray.getElem_eq_getElem_data,hlt,this]
   simp[this]
  ·cases h
 ·cases h
theorem run_sliceBound (P:Program) (k:IntKind) (n:Int) (y:Nat) (c:BoundsCode) (w:World) (h:0≤n∧n≤(y:Int)):
 (Instr.sliceBound (.int k n) y c).run P w= .ok n.toNat w:=by
 simp[Instr.sliceBound,asIntOf,Sem.run_pure,h]
theorem slcS_run (P:Program) (t:TypeId) (s:ByteArray) (lo hi:Option Value) (q:QV) (h:slcS P t s lo hi=some q) (hq:q.ok) (w:World):
 (Instr.sliceAt t (.string s) lo hi none).run P w= .ok q.val w:=by
 unfold slcS at h
 cases hu:P.underlying t with
 |none=>simp[hu] at h
 |some d=>
  cases d<;>simp only[hu] at h<;>try (cases h;done)
  simp only[Instr.sliceAt,Instr.slice,Instr.sliceBounds,Sem.run_bind,run_und hu,Result.andThen_ok,Option.isSome_none,Bool.false_eq_true,if_false,Sem.run_pure]
  (repeat' split at h)<;>first|(cases h;done)|skip
  all_goals
   rw[Option.some.injEq] at h
   subst h
   have hs:=hq _ rfl
  ·simp[run_sliceBound P _ _ _ _ w hs]
  ·simp[run_sliceBound P _ _ _ _ w hs]
  ·simp[Sem.run_bind,run_sliceBound P _ _ _ _ w hs.1,run_sliceBound P _ _ _ _ w hs.2]
theorem slcA_eq (a:Option Addr) (cap l size:Nat):(if cap=l then a else a.map (·.add (l*size)))=slcA a cap l size:=by
 cases a with
 |none=>simp[slcA]
 |some x=>
  obtain⟨b,o,s⟩:=x
  cases s with
  |none=>by_cases h:cap=l<;>simp[slcA,slcO,addr_add,h]
  |some s=>by_cases h:cap=l<;>simp[slcA,h]
theorem slcL_run (P:Program) (t:TypeId) (a:Option Addr) (len cap:Nat) (lo hi:Option Value) (q:QV) (h:slcL P t a len cap lo hi=some q) (hq:q.ok) (w:World):
 (Instr.sliceAt t (.slice a len cap) lo hi none).run P w= .ok q.val w:=by
 unfold slcL at h
 cases hu:P.underlying t with
 |none=>simp[hu] at h
 |some d=>
  cases d<;>simp only[hu] at h<;>try (cases h;done)
  rename_i e
  cases hi':P.info? e with
  |none=>simp[hi'] at h
  |some inf=>
   simp only[hi'] at h
   simp only[Instr.sliceAt,Instr.slice,Instr.sliceBounds,Sem.run_bind,run_und hu,Result.andThen_ok,Sem.run_pure]
   (repeat' split at h)<;>first|(cases h;done)|skip
   all_goals
    rw[Option.some.injEq] at h
    subst h
    have hs:=hq _ rfl
   ·simp only[Sem.run_pure,Sem.run_bind,Result.andThen_ok,run_sliceBound P _ _ _ _ w hs,run_size hi',slcA_eq]
   ·simp only[Sem.run_pure,Sem.run_bind,Result.andThen_ok,run_sliceBound P _ _ _ _ w hs,run_size hi',slcA_eq];rfl
   ·simp only[Sem.run_pure,Sem.run_bind,Result.andThen_ok,run_sliceBound P _ _ _ _ w hs.1,run_sliceBound P _ _ _ _ w hs.2,run_size hi',slcA_eq]
theorem catV_run (P:Program) (op:BinOp) (t:TypeId) (x y:Operand) (a b:Value) (q:QV) (h:catV op a b=some q) (hq:q.ok) (w:World):
 (do eqGuard op t x y a b;binOp op t a b:Sem Value).run P w= .ok q.val w:=by
 unfold catV at h
 split at h
 ·rename_i s u
  simp only[Option.some.injEq] at h
  subst h
  have hs:=hq _ rfl
  have hmax:IntKind.i64.max=9223372036854775807:=by decide
  have: ¬((s.size+u.size:Nat):Int)>IntKind.i64.max:=by rw[hmax];omega
  simp only[eqGuard,binOp,Op.stringOp,Sem.run_bind,this,if_false]
  simp[Sem.run_pure]
 ·rename_i x' y'
  simp only[Option.some.injEq] at h
  subst h
  have hs:=hq _ rfl
  simp only[eqGuard,binOp,Op.intDiv,Sem.run_bind,hs,if_false]
  simp[Sem.run_pure]
 ·cases h
theorem quietV_run (P:Program) (ρ:Operand→Value) (o:Oper) (q:QV) (h:quietV P ρ o=some q) (hq:q.ok) (w:World):
 (execOp ρ o).run P w= .ok (.value q.val) w:=by
 unfold quietV at h
 split at h
 ·split at h
  ·rename_i q' hsp
   simp only[Option.some.injEq] at h
   subst h
   unfold specialV at hsp
   split at hsp
   ·rename_i t x i hop
    have:=idxV_run P _ _ _ _ hsp hq w
    simp[execOp,hop,this]
   ·rename_i t x i hop
    have:=strIdxV_run P _ _ _ _ hsp hq w
    simp[execOp,hop,this]
   ·rename_i t x lo hi hop
    unfold slcV at hsp
    split at hsp
    ·rename_i s hs
     have:=slcS_run P t s _ _ _ hsp hq w
     simp[execOp,hop,hs,this]
    ·rename_i a' len cap hs
     have:=slcL_run P t a' len cap _ _ _ hsp hq w
     simp[execOp,hop,hs,this]
    ·cases hsp
   ·rename_i op t x y t2 hop
    have:=catV_run P op t x y _ _ _ hsp hq w
    simp only[execOp,hop]
    rw[Sem.run_bind,this];rfl
   ·cases hsp
  ·split at h
   ·rename_i v hv
    simp only[Option.some.injEq] at h
    subst h
    exact pureV_run P _ _ hv w
   ·cases h
 ·cases h
def OwnS (H:Heap) (e size:Nat) (a:Option Addr) (n c:Nat) (xs:List Value):Prop:=
 xs.length=n*size∧
 ((a=none∧n=0∧c=0)∨
  ∃g cur,a=some ⟨g,0,none⟩∧H[g]?=some (.cells cur e (0,0))∧n≤c∧c≤maxLen∧cur.size=c*size∧cur.toList.take (n*size)=xs)
theorem ownS_iff (w:World) (e size:Nat) (a:Option Addr) (n c:Nat) (xs:List Value):
 OwnS w.heap e size a n c xs↔w.ownsRow 0 e size (.slice a n c) n xs:=by
 unfold OwnS World.ownsRow
 refine and_congr_right fun _=>or_congr ?_ ?_
 ·constructor
  ·rintro⟨rfl,rfl,rfl⟩;exact⟨rfl,rfl⟩
  ·rintro⟨h,rfl⟩;cases h;exact⟨rfl,rfl,rfl⟩
 ·constructor
  ·rintro⟨g,cur,rfl,h⟩;exact⟨g,c,cur,rfl,Nat.zero_le _,h⟩
  ·rintro⟨g,cap,cur,h,_,h2⟩;cases h;exact⟨g,cur,rfl,h2⟩
def rowOf:Option Addr→Option Nat
 |some a=>some a.block
 |none=>none
structure Grow (H H':Heap) (row:Option Nat):Prop where
 size:H.size≤H'.size
 block: ∀k,k<H.size→some k≠row→H'[k]?=H[k]?
def NewsS (H:Heap) (size:Nat) (a:Option Addr) (m:Nat) (news:List Value):Prop:=
 news.length=m*size∧(a=none→m=0)∧ ∀ad,a=some ad→ ∀j u,news[j]?=some u→cellAt H (ad.add j)=some u
def appK (H:Heap) (e size bytes:Nat) (a:Option Addr) (n c:Nat) (ax:Option Addr) (m:Nat) (K:Option Addr→Nat→Heap→Prop):Prop:=
 (m=0∧n≤c∧K a c H)∨ ∃xs news,OwnS H e size a n c xs∧NewsS H size ax m news∧(∀u∈news,u.oneCell'=true)∧n+m≤maxLen∧(n+m)*bytes≤140737488355328∧
   ∀a' c' H',OwnS H' e size a' (n+m) c' (xs++news)→Grow H H' (rowOf a)→(a'=none↔a=none∧m=0)→(rowOf a'=rowOf a∨rowOf a'=some H.size)→K a' c' H'
def appW (P:Program) (t:TypeId) (a:Option Addr) (n c:Nat) (ax:Option Addr) (m:Nat) (H:Heap) (K:Option Addr→Nat→Heap→Prop):Prop:=
 match P.underlying t with
 |some (.slice e)=>match P.info? e with
  |some i=>match i.zero with
   |some z=>match Nat.beq z.cells.size i.size&&Nat.blt 0 i.size with
    |true=>appK H e i.size i.bytes a n c ax m K
    |false=>False
   |none=>False
  |none=>False
 |_=>False
theorem appW_run (P:Program) (t ty:TypeId) (a:Option Addr) (n c:Nat) (ax:Option Addr) (m cx:Nat) (H:Heap) (K:Option Addr→Nat→Heap→Prop)
 (h:appW P t a n c ax m H K) (w:World) (hw:w.heap=H):
 ∃a' c' w',(Builtin.append_ #[t,t] ty #[.slice a n c,.slice ax m cx]).run P w= .ok (.slice a' (n+m) c') w'∧Same w w'∧K a' c' w'.heap:=by
 subst hw
 unfold appW at h
 split at h
 ·rename_i e he
  split at h
  ·rename_i i hi
   split at h
   ·rename_i z hz
    split at h
    case h_2=>exact h.elim
    rename_i hchk
    simp only[Bool.and_eq_true,Nat.blt_eq] at hchk
    have hzs:z.cells.size=i.size:=Nat.eq_of_beq_eq_true hchk.1
    have hsz:=hchk.2
    rcases h with⟨rfl,hnc,hK⟩|⟨xs,news,hown,⟨hl,hnn,hnews⟩,h1,h63,hby,hK⟩
    ·refine⟨a,c,w,?_,Same.refl w,hK⟩
     cases a<;>cases ax<;>simp[Builtin.append_,run_und he,run_size hi,Builtin.lenOf,Builtin.firstCells,storeCells,loadCells,loadCellsFrom,hnc]
    cases hax:ax with
    |some ad=>
     obtain⟨v',w',hr,hown',hg,hnil,hat⟩:=run_append_own_at (P:=P) w 0 t ty e i z i.size i.bytes he hi hz rfl rfl hzs hsz (.slice a n c) n xs
      ((ownS_iff w e i.size a n c xs).1 hown) ad m cx news hl (hnews ad hax) h1 h63 hby (Nat.zero_le _)
     have hv: ∃a' c',v'= .slice a' (n+m) c'∧OwnS w'.heap e i.size a' (n+m) c' (xs++news):=by
      rcases hown'.2 with⟨rfl,h0⟩|⟨g,cap,cur,rfl,h2⟩
      ·exact⟨none,0,by rw[h0],(ownS_iff w' e i.size none (n+m) 0 _).2 (by rw[h0] at hown'⊢;exact hown')⟩
      ·exact⟨_,_,rfl,(ownS_iff w' e i.size _ (n+m) _ _).2 hown'⟩
     obtain⟨a',c',rfl,ho⟩:=hv
     have hrow:(Value.slice a n c).ownBlock=rowOf a:=by cases a<;>rfl
     refine⟨a',c',w',hr,⟨hg.os,hg.tape,hg.output⟩,hK a' c' w'.heap ho ⟨hg.size,fun k hk hne=>hg.block k hk (by rw[hrow];exact hne)⟩ ?_ (by
      have hrow':(Value.slice a' (n+m) c').ownBlock=rowOf a':=by cases a'<;>rfl
      rw[hrow,hrow'] at hat;exact hat)⟩
     constructor
     ·intro e'
      subst e'
      rcases ho.2 with⟨_,hn0,hc0⟩|⟨g,cur,hh,_⟩
      ·have:=hnil.1 (by rw[hn0,hc0])
       obtain⟨h3,h4⟩:=this
       injection h3 with h5
       exact⟨h5,h4⟩
      ·cases hh
     ·rintro⟨rfl,h4⟩
      have hn0:n=0∧c=0:=by
       rcases hown.2 with⟨_,hn0,hc0⟩|⟨g,cur,hh,_⟩
       ·exact⟨hn0,hc0⟩
       ·cases hh
      have:=hnil.2 ⟨by rw[hn0.1,hn0.2],h4⟩
      injection this
    |none=>
     have hm:=hnn hax
     subst hm
     have hx0:news=[]:=List.eq_nil_of_length_eq_zero (by simpa using hl)
     subst hx0
     have hnc:n≤c:=by
      rcases hown.2 with⟨_,h2,h3⟩|⟨g,cur,_,_,h2,_⟩
      ·omega
      ·exact h2
     refine⟨a,c,w,?_,Same.refl w,hK a c w.heap (by simpa using hown) ⟨Nat.le_refl _,fun _ _ _=>rfl⟩ (by simp) (.inl rfl)⟩
     cases a<;>simp[Builtin.append_,run_und he,run_size hi,Builtin.lenOf,Builtin.firstCells,storeCells,hnc]
   ·exact h.elim
  ·exact h.elim
 ·exact h.elim
end Go.Vx
namespace Go.Vx
open Go
variable {D:List Deferred}
def putK (n:Nat) (dst:Option Nat) (v:Value) (ρ:Env) (H:Heap) (K:Env→Heap→Prop):Prop:=
 match dst with
 |none=>K ρ H
 |some d=>match Nat.blt d n with
  |true=>K ((d,v)::ρ) H
  |false=>False
def sideW (s:Option Prop) (A:Prop):Prop:=
 match s with
 |none=>A
 |some p=>p∧A
def newB (H:Heap) (o:Obj) (K:Nat→Heap→Prop):Prop:= ∀b H',b=H.size→H'=H.push o→K b H'
def loadW (H:Heap) (agg:Bool) (m:Nat) (a:Addr) (p:Pat) (K:p.α→Prop):Prop:= ∃x:p.α,loadC H agg m a=some (p.to x)∧K x
def storeW (H:Heap) (a:Addr) (l:List Value) (K:Heap→Prop):Prop:= ∃H',storeC H a l=some H'∧K H'
def callW (P:Program) (f:FuncId) (args:Array Value) (H:Heap) (p:Pat) (K:p.α→Heap→Prop):Prop:=
 Fn P f args H fun v H'=> ∃x:p.α,v=p.to x∧K x H'
def call2W (P:Program) (f:FuncId) (args:Array Value) (H:Heap) (p q:Pat) (K:p.α→Heap→Prop) (L:q.α→Heap→Prop):Prop:=
 Fn P f args H fun v H'=>(∃x:p.α,v=p.to x∧K x H')∨(∃y:q.α,v=q.to y∧L y H')
def callX (P:Program) (f:FuncId) (args:Array Value) (H:Heap) (p:PatX) (K:Value→Heap→Prop):Prop:=
 match p.b with
 |none=>callW P f args H p.a fun x H'=>K (p.a.to x) H'
 |some q=>call2W P f args H p.a q (fun x H'=>K (p.a.to x) H') (fun y H'=>K (q.to y) H')
def bytesW (e:TypeId) (s:ByteArray) (H:Heap) (K:Nat→Nat→Heap→Prop):Prop:=
 ∀cap b H',s.size≤cap→b=H.size→H'=H.push (.cells (bytesRow s cap) e ((bytesRow s cap).size,(bytesRow s cap).size+1))→K cap b H'
def stringW (H:Heap) (a:Addr) (len:Nat) (K:ByteArray→Prop):Prop:=
 ∃l:List UInt8,l.length=len∧(∀j (hj:j<l.length),cellAt H (a.add j)=some (.int .u8 (l[j].toNat:Int)))∧K ⟨l.toArray⟩
def runeW (H:Heap) (a:Addr) (K:Int→Prop):Prop:= ∃n:Int,loadC H false 1 a=some (.int .i32 n)∧K n
def iterW (H:Heap) (r:Nat) (A:Nat→Int→Heap→Prop) (B:Prop):Prop:=
 ∃s pos,H[r]?=some (.stringIter s pos)∧(pos<s.size→A pos (Utf8.decode s pos).1 (H.setIfInBounds r (.stringIter s (pos+(Utf8.decode s pos).2))))∧(¬pos<s.size→B)
def asV (x:Value):Bool→Value
 |true=> .tuple #[x,.bool true]
 |false=>x
def asW (P:Program) (x:Value) (xt t:TypeId) (ok:Bool) (K:Prop):Prop:=(∀w,(Instr.typeAssert x xt t ok).run P w= .ok (asV x ok) w)∧K
def IntKeys (es:Array MapEntry) (k:IntKind):Prop:= ∀x∈es.toList,∃n,x.key= .int k n
def mapSetW (H:Heap) (r:Nat) (k:IntKind) (K:Heap→Prop):Prop:=
 ∃es clock,H[r]?=some (.map es clock)∧IntKeys es k∧ ∀es' clock',IntKeys es' k→K (H.setIfInBounds r (.map es' clock'))
theorem mapSet_run {P:Program} {w:World} {mty kt et:TypeId} {k:IntKind} {r:Nat} {n:Int} {value:Value} {K:Heap→Prop} (hm:P.underlying mty=some (.map kt et)) (hd:P.underlying kt=some (.int k))
 (h:mapSetW w.heap r k K): ∃w',(Instr.mapUpdate mty (.map (some r)) (.int k n) value).run P w= .ok () w'∧Same w w'∧K w'.heap:=by
 obtain⟨es,clock,hb,hks,hK⟩:=h
 have hks': ∀x∈es.toList,MapKept.IsKey (.int k) x.key:=fun x hx=>by
  obtain⟨m,e⟩:=hks x hx;rw[e];rfl
 have hk:MapKept.IsKey (.int k) (.int k n):=rfl
 rcases MapKept.findNow_spec hk es.toList 0 hks' with⟨h1,_⟩|⟨j,e,h1,h2,h3⟩
 ·refine⟨{w with heap:=w.heap.setIfInBounds r (.map (es.push {key:= .int k n,val:=value,born:=clock}) (clock+1))},?_,⟨rfl,rfl,rfl⟩,hK _ _ ?_⟩
  ·simp[Instr.mapUpdate,run_und hm,MapKept.run_getObj_map hb,MapKept.run_checkKey hd hk,MapKept.run_findKey hd h1,MapKept.run_setObj_map _ hb,Result.andThen]
  ·intro x hx
   simp at hx
   rcases hx with hx|rfl
   ·exact hks x (by simpa using hx)
   ·exact⟨n,rfl⟩
 ·have hj:es[j]?=some e:=by simpa using h2
  refine⟨{w with heap:=w.heap.setIfInBounds r (.map (es.modify j fun e=> {e with key:= .int k n,val:=value}) clock)},?_,⟨rfl,rfl,rfl⟩,hK _ _ ?_⟩
  ·simp[Instr.mapUpdate,run_und hm,MapKept.run_getObj_map hb,MapKept.run_checkKey hd hk,MapKept.run_findKey hd h1,hj,h3,MapKept.run_keyThatStays hk,MapKept.run_setObj_map _ hb,Result.andThen]
  ·intro x hx
   rcases MapFrom.mem_modify hx with hx|⟨e',_,rfl⟩
   ·exact hks x hx
   ·exact⟨n,rfl⟩
def genW (P:Program) (n:Nat) (o:Oper) (ρ:Env) (H:Heap) (K:Env→Heap→Prop):Prop:=
 match newV P (execOp (evD ρ) o) with
 |some (ob,f)=>newB H ob fun b H'=>match f b with
  |some (.value v)=>putK n o.dst v ρ H' K
  |_=>False
 |none=>hwp P (execOp (evD ρ) o) (fun nx H'=>match nx with
  | .value v=>putK n o.dst v ρ H' K
  | .skip=>putK n o.dst undef ρ H' K
  |_=>False) H
def nextW (P:Program) (n:Nat) (o:Oper) (p:PatX) (ρ:Env) (H:Heap) (K:Env→Heap→Prop):Prop:=
 match pureV P (execOp (evD ρ) o) with
 |some (.enter f args)=>callX P f args H p fun v H'=>putK n o.dst v ρ H' K
 |some (.value v)=>putK n o.dst v ρ H K
 |_=>genW P n o ρ H K
def effW (P:Program) (n:Nat) (o:Oper) (p:PatX) (ρ:Env) (H:Heap) (K:Env→Heap→Prop):Prop:=
 match o.op with
 | .store t x v=>match aggOf P t,evD ρ x with
  |some (_,m),.pointer (some a)=>match Nat.beq (evD ρ v).cells.size m with
   |true=>storeW H a (evD ρ v).cells.toList fun H'=>putK n o.dst undef ρ H' K
   |false=>False
  |_,_=>False
 | .call {callee:= .builtin .append,args:=xs,argTypes:=ts}=>match xs.toList,ts.toList with
  |[s,x],[t,u]=>match Nat.beq t u,evD ρ s,evD ρ x with
   |true,.slice a k c,.slice ax m _=>appW P t a k c ax m H fun a' c' H'=>putK n o.dst (.slice a' (k+m) c') ρ H' K
   |_,_,_=>False
  |_,_=>False
 | .convert s d x=>match P.underlying s,P.underlying d,evD ρ x with
  |some .string,some (.slice e),.string b=>match P.underlying e with
   |some (.int .u8)=>bytesW e b H fun cap r H'=>putK n o.dst (.slice (some ⟨r,0,none⟩) b.size cap) ρ H' K
   |_=>False
  |some (.slice e),some .string,.slice (some a) len _=>match P.underlying e with
   |some (.int .u8)=>stringW H a len fun b=>putK n o.dst (.string b) ρ H K
   |some (.int .i32)=>match Nat.beq len 1 with
    |true=>runeW H a fun c=>putK n o.dst (.string (Utf8.encode c)) ρ H K
    |false=>genW P n o ρ H K
   |_=>genW P n o ρ H K
  |some (.slice _),some (.slice _),.slice (some _) _ _=>False
  |_,_,_=>genW P n o ρ H K
 | .mapUpdate t m x _=>match P.underlying t,evD ρ m,evD ρ x with
  |some (.map kt _),.map (some r),.int k _=>match P.underlying kt with
   |some (.int k')=>k=k'∧mapSetW H r k fun H'=>putK n o.dst undef ρ H' K
   |_=>False
  |_,_,_=>False
 | .next x true=>match evD ρ x with
  | .pointer (some ⟨r,0,_⟩)=>iterW H r (fun pos c H'=>putK n o.dst (.tuple #[.bool true,.int .i64 pos,.int .i32 c]) ρ H' K) (putK n o.dst (.tuple #[.bool false]) ρ H K)
  |_=>False
 |_=>nextW P n o p ρ H K
def notSelect:Op→Bool
 | .select .. =>false
 |_=>true
def loadQ (P:Program) (ρ:Env):Op→Option (Bool×Nat×Addr)
 | .load t x=>match aggOf P t,evD ρ x with
  |some (g,m),.pointer (some a)=>some (g,m,a)
  |_,_=>none
 |_=>none
def aggEq (ρ:Operand→Value):Op→Option (BinOp×TypeId×Value×Value)
 | .binOp op t a b _=>match ρ a,ρ b with
  | .agg x,.agg y=>some (op,t,.agg x,.agg y)
  |_,_=>none
 |_=>none
def eqS (op:BinOp) (t:TypeId) (X Y:Operand) (x y:Value):Sem Value:=do eqGuard op t X Y x y;binOp op t x y
def eqW (P:Program) (op:BinOp) (t:TypeId) (x y:Value) (K:Bool→Prop):Prop:=
 ∃b:Bool,(∀X Y w,(eqS op t X Y x y).run P w= .ok (.bool b) w)∧K b
def asI (P:Program) (ρ:Operand→Value):Op→Option (Value×TypeId×TypeId×Bool)
 | .typeAssert x xt t ok=>match P.underlying t,ρ x with
  |some (.interface _),.iface a v=>some (.iface a v,xt,t,ok)
  |_,_=>none
 |_=>none
def strConv (P:Program):Op→Bool
 | .convert s d _=>match P.underlying s,P.underlying d with
  |some (.slice _),some .string=>true
  |_,_=>false
 |_=>false
def opW (P:Program) (n:Nat) (o:Oper) (p:PatX) (ρ:Env) (H:Heap) (K:Env→Heap→Prop):Prop:=
 match notSelect o.op&&knownL ρ o.op.operands.toList with
 |true=>match aggEq (evD ρ) o.op with
  |some (op,t,x,y)=>eqW P op t x y fun b=>putK n o.dst (.bool b) ρ H K
  |none=>match asI P (evD ρ) o.op with
   |some (x,xt,t,ok)=>asW P x xt t ok (putK n o.dst (asV x ok) ρ H K)
   |none=>match strConv P o.op with
    |true=>effW P n o p ρ H K
    |false=>match quietV P (evD ρ) o with
     |some q=>sideW q.side (putK n o.dst q.val ρ H K)
     |none=>match loadQ P ρ o.op with
      |some (g,m,a)=>loadW H g m a p.a fun x=>putK n o.dst (p.a.to x) ρ H K
      |none=>effW P n o p ρ H K
 |false=>False
def Keep1 (dst:Option Nat) (a a':Act):Prop:= ∀t,dst≠some t→a'.tmps.getD t undef=a.tmps.getD t undef
theorem put_sound {n:Nat} {dst:Option Nat} {v:Value} {ρ:Env} {H:Heap} {K:Env→Heap→Prop} {a:Act} (hr:Rep D n ρ a) (h:putK n dst v ρ H K):
 (∃ρ',Rep D n ρ' (a.put dst v)∧K ρ' H)∧Keep1 dst a (a.put dst v):=by
 cases dst with
 |none=>exact⟨⟨ρ,hr,h⟩,fun t _=>rfl⟩
 |some d=>
  simp only[putK] at h
  cases hb:Nat.blt d n with
  |false=>rw[hb] at h;exact h.elim
  |true=>
   rw[hb] at h
   have hd:d<n:=by simpa [Nat.blt_eq] using hb
   refine⟨⟨_,hr.put hd v,h⟩,fun t ht=>?_⟩
   rw[getD_put a d t v (by rw[hr.size];exact hd),if_neg (fun e=>ht (by rw[e]))]
def Step (D:List Deferred) (n:Nat) (dst:Option Nat) (a:Act) (w:World) (K:Env→Heap→Prop) (a':Act) (w':World):Prop:=
 (∃ρ',Rep D n ρ' a'∧K ρ' w'.heap)∧Same w w'∧Keep1 dst a a'
theorem step_put {n:Nat} {o:Oper} {v:Value} {ρ:Env} {K:Env→Heap→Prop} {a:Act} {w w':World} (hr:Rep D n ρ a) (hs:Same w w') (h:putK n o.dst v ρ w'.heap K):
 Step D n o.dst a w K (a.put o.dst v) w':=⟨(put_sound hr h).1,hs,(put_sound hr h).2⟩
section
variable {P:Program} {n:Nat} {o:Oper} {p:PatX} {ρ:Env} {K:Env→Heap→Prop} {a:Act} {w:World} {Q:Exit→Act→World→Prop}
theorem gen_sound (hr:Rep D n ρ a) (he:execOp a.eval o=execOp (evD ρ) o) (h:genW P n o ρ w.heap K):o.wp P a w (Step D n o.dst a w K) Q:=by
 unfold Oper.wp
 rw[he]
 unfold genW at h
 split at h
 ·rename_i ob f hn
  have h1:=h w.heap.size _ rfl rfl
  dsimp only at h1
  split at h1
  ·rename_i v hv
   rw[newV_run P _ _ _ hn w _ hv]
   exact step_put (w':= {w with heap:=w.heap.push ob}) hr ⟨rfl,rfl,rfl⟩ h1
  ·exact h1.elim
 ·obtain⟨v,w',hrun,hs,hq⟩:=hwp_run P _ _ _ h w rfl
  rw[hrun]
  cases v<;>first|exact hq.elim|exact step_put hr hs hq
theorem next_sound (hr:Rep D n ρ a) (he:execOp a.eval o=execOp (evD ρ) o) (h:nextW P n o p ρ w.heap K):o.wp P a w (Step D n o.dst a w K) Q:=by
 unfold nextW at h
 split at h
 ·rename_i f args hp
  unfold Oper.wp
  rw[he,pureV_run P _ _ hp]
  simp only[Oper.upon]
  unfold callX at h
  split at h
  ·refine(h w rfl).mono ?_
   rintro e w' ⟨v,rfl,hs,x,rfl,hx⟩
   exact step_put hr hs hx
  ·refine(h w rfl).mono ?_
   rintro e w' ⟨v,rfl,hs,⟨x,rfl,hx⟩|⟨x,rfl,hx⟩⟩
   ·exact step_put hr hs hx
   ·exact step_put hr hs hx
 ·rename_i v hp
  unfold Oper.wp
  rw[he,pureV_run P _ _ hp]
  exact step_put hr (Same.refl w) h
 ·exact gen_sound hr he h
theorem eff_sound (hr:Rep D n ρ a) (he:execOp a.eval o=execOp (evD ρ) o) (h:effW P n o p ρ w.heap K):o.wp P a w (Step D n o.dst a w K) Q:=by
 unfold effW at h
 split at h
 ·rename_i t x v hop
  split at h
  ·rename_i g m ad hag hx
   split at h
   ·rename_i hm
    obtain⟨H',hst,hk⟩:=h
    have hm':(evD ρ v).cells.size=m:=Nat.eq_of_beq_eq_true hm
    unfold Oper.wp
    rw[he]
    have hrun:=run_storeVar P t g m hag ad w (evD ρ v) H' hm' hst
    have:(execOp (evD ρ) o).run P w= .ok .skip {w with heap:=H'}:=by
     simp only[execOp,hop,Sem.run_bind,Instr.storeAt,hx,Instr.sureAddr,Sem.run_pure,Result.andThen_ok,hrun]
    rw[this]
    exact step_put (w':= {w with heap:=H'}) hr ⟨rfl,rfl,rfl⟩ hk
   ·exact h.elim
  ·exact h.elim
 ·rename_i xs ts hop
  split at h
  ·rename_i s x t u hxs hts
   split at h
   ·rename_i a1 k c ax m cx htu hs hx
    have htu':t=u:=Nat.eq_of_beq_eq_true htu
    subst htu'
    obtain⟨a',c',w',hrun,hsame,hk⟩:=appW_run P t o.type a1 k c ax m cx w.heap _ h w rfl
    unfold Oper.wp
    rw[he]
    have exs:xs= #[s,x]:=by rw[←Array.toArray_toList (xs:=xs),hxs]
    have ets:ts= #[t,t]:=by rw[←Array.toArray_toList (xs:=ts),hts]
    have:(execOp (evD ρ) o).run P w= .ok (.value (.slice a' (k+m) c')) w':=by
     simp only[execOp,hop,resolve,invoke,builtin,Sem.run_bind,Sem.run_pure,Result.andThen_ok,exs,ets]
     simp only[List.map_toArray,List.map_cons,List.map_nil,hs,hx,hrun,Result.andThen_ok]
    rw[this]
    exact step_put hr hsame hk
   ·exact h.elim
  ·exact h.elim
 ·rename_i s d x hop
  split at h
  ·rename_i e b hs hd hx
   split at h
   ·rename_i hu
    have hrun:=run_bytes_of_string w s d e b hs hd hu
    unfold Oper.wp
    rw[he]
    have:(execOp (evD ρ) o).run P w= .ok (.value (.slice (some ⟨w.heap.size,0,none⟩) b.size (grownCap w b.size 0 e)))
     (w.drew.alloc (.cells (bytesRow b (grownCap w b.size 0 e)) e ((bytesRow b (grownCap w b.size 0 e)).size,(bytesRow b (grownCap w b.size 0 e)).size+1))):=by
     simp only[execOp,hop,Sem.run_bind,hx,hrun,Result.andThen_ok,Sem.run_pure]
    rw[this]
    have h1:=h (grownCap w b.size 0 e) w.heap.size _ (grownCap_ge w b.size 0 e) rfl rfl
    exact step_put (w':=w.drew.alloc _) hr ⟨rfl,rfl,rfl⟩ h1
   ·exact h.elim
  ·rename_i e ad len cx hs hd hx
   split at h
   ·rename_i hu
    obtain⟨l,hl,hc,hk⟩:=h
    subst hl
    have hrun:=run_convert_bytes_back w s d e ad cx l hs hu hd hc
    unfold Oper.wp
    rw[he]
    have:(execOp (evD ρ) o).run P w= .ok (.value (.string ⟨l.toArray⟩)) w:=by
     simp only[execOp,hop,Sem.run_bind,hx,hrun,Result.andThen_ok,Sem.run_pure]
    rw[this]
    exact step_put hr (Same.refl w) hk
   ·rename_i hu
    split at h
    ·rename_i hl
     have hl':len=1:=Nat.eq_of_beq_eq_true hl
     subst hl'
     obtain⟨c,hc,hk⟩:=h
     unfold Oper.wp
     rw[he]
     have:(execOp (evD ρ) o).run P w= .ok (.value (.string (Utf8.encode c))) w:=by
      have hc':w.cell? (ad.add 0)=some (.int .i32 c):=by
       have:ad.add 0=ad:=by cases ad with|mk b o s=>cases s<;>simp[Addr.add]
       rw[this]
       simp only[loadC] at hc
       exact hc
      simp only[execOp,hop,Sem.run_bind,hx]
      simp[convert,run_und hs,run_und hd,run_und hu,Conv.runesToString,loadCells,loadCellsFrom,load,Sem.run,hc',Sem.run_bind]
     rw[this]
     exact step_put hr (Same.refl w) hk
    ·exact gen_sound hr he h
   ·exact gen_sound hr he h
  ·exact h.elim
  ·exact gen_sound hr he h
 ·rename_i t m x v hop
  split at h
  ·rename_i kt et r k kn ht hm hx
   split at h
   ·rename_i k' hkt
    obtain⟨rfl,h⟩:=h
    obtain⟨w',hrun,hsame,hk⟩:=mapSet_run (P:=P) (w:=w) (n:=kn) (value:=evD ρ v) ht hkt h
    unfold Oper.wp
    rw[he]
    have:(execOp (evD ρ) o).run P w= .ok .skip w':=by
     simp only[execOp,hop,Sem.run_bind,hm,hx,hrun,Result.andThen_ok,Sem.run_pure]
    rw[this]
    exact step_put (w':=w') hr hsame hk
   ·exact h.elim
  ·exact h.elim
 ·rename_i x hop
  split at h
  ·rename_i r sp hx
   obtain⟨s,pos,hg,hA,hB⟩:=h
   unfold Oper.wp
   rw[he]
   by_cases hlt:pos<s.size
   ·have:(execOp (evD ρ) o).run P w= .ok (.value (.tuple #[.bool true,.int .i64 pos,.int .i32 (Utf8.decode s pos).1])) {w with heap:=w.heap.setIfInBounds r (.stringIter s (pos+(Utf8.decode s pos).2))}:=by
     simp[execOp,hop,hx,Sem.run_bind,Instr.next,getObj,setObj,Sem.run,hg,hlt,Result.andThen,goInt]
    rw[this]
    exact step_put (w':= {w with heap:=w.heap.setIfInBounds r (.stringIter s (pos+(Utf8.decode s pos).2))}) hr ⟨rfl,rfl,rfl⟩ (hA hlt)
   ·have:(execOp (evD ρ) o).run P w= .ok (.value (.tuple #[.bool false])) w:=by
     simp[execOp,hop,hx,Sem.run_bind,Instr.next,getObj,Sem.run,hg,hlt,Result.andThen]
    rw[this]
    exact step_put hr (Same.refl w) (hB hlt)
  ·exact h.elim
 ·exact next_sound hr he h
theorem exec_known (hr:Rep D n ρ a) (hk:(notSelect o.op&&knownL ρ o.op.operands.toList)=true):execOp a.eval o=execOp (evD ρ) o:=by
 simp only[Bool.and_eq_true] at hk
 refine execOp_congr o (fun cs b e=>by rw[e] at hk;exact absurd hk.1 (by simp[notSelect])) fun x hx=>hr.evals _ hk.2 x (by simpa using hx)
theorem load_run {g:Bool} {m:Nat} {ad:Addr} (hq:loadQ P ρ o.op=some (g,m,ad)) (v:Value) (h:loadC w.heap g m ad=some v):
 (execOp (evD ρ) o).run P w= .ok (.value v) w:=by
 unfold loadQ at hq
 split at hq
 ·rename_i t x hop
  split at hq
  ·rename_i g' m' a' hag hx
   simp only[Option.some.injEq,Prod.mk.injEq] at hq
   obtain⟨rfl,rfl,rfl⟩:=hq
   have hrun:=run_loadVar P t _ _ hag _ w v h
   simp only[execOp,hop,Sem.run_bind,Instr.loadAt,hx,Instr.sureAddr,Sem.run_pure,Result.andThen_ok,hrun]
  ·cases hq
 ·cases hq
theorem op_sound (hr:Rep D n ρ a) (h:opW P n o p ρ w.heap K):o.wp P a w (Step D n o.dst a w K) Q:=by
 unfold opW at h
 split at h
 ·rename_i hk
  have he:=exec_known (o:=o) hr hk
  split at h
  ·rename_i op t x y ha
   obtain⟨b,hb,hk2⟩:=h
   unfold aggEq at ha
   split at ha
   ·rename_i op' t' a' b' yt hop
    split at ha
    ·rename_i xs ys hxa hya
     cases ha
     unfold Oper.wp
     rw[he]
     have:(execOp (evD ρ) o).run P w= .ok (.value (.bool b)) w:=by
      have:=hb a' b' w
      unfold eqS at this
      simp only[execOp,hop,hxa,hya]
      rw[Sem.run_bind,this]
      rfl
     rw[this]
     exact step_put hr (Same.refl w) hk2
    ·cases ha
   ·cases ha
  split at h
  ·rename_i x xt t ok ha
   obtain⟨hb,hk2⟩:=h
   unfold asI at ha
   split at ha
   ·rename_i x' xt' t' ok' hop
    split at ha
    ·rename_i ms a' v' hu hx
     cases ha
     unfold Oper.wp
     rw[he]
     have:(execOp (evD ρ) o).run P w= .ok (.value (asV (.iface a' v') ok)) w:=by
      have:=hb w
      simp only[execOp,hop,hx]
      rw[Sem.run_bind,this]
      rfl
     rw[this]
     exact step_put hr (Same.refl w) hk2
    ·cases ha
   ·cases ha
  split at h
  ·exact eff_sound hr he h
  split at h
  ·rename_i q hq
   have hside:q.ok∧putK n o.dst q.val ρ w.heap K:=by
    unfold sideW at h
    split at h
    ·rename_i hs;exact⟨fun p hp=>(by rw[hs] at hp;cases hp),h⟩
    ·rename_i p hs;exact⟨fun p' hp=>(by rw[hs] at hp;cases hp;exact h.1),h.2⟩
   unfold Oper.wp
   rw[he,quietV_run P _ o q hq hside.1 w]
   exact step_put hr (Same.refl w) hside.2
  ·split at h
   ·rename_i g m ad hl
    obtain⟨x,hx,hk2⟩:=h
    unfold Oper.wp
    rw[he,load_run hl _ hx]
    exact step_put hr (Same.refl w) hk2
   ·exact eff_sound hr he h
 ·exact h.elim
end
end Go.Vx
namespace Go.Vx
open Go
variable {D:List Deferred}
def forkB (b:Bool) (A B:Prop):Prop:=
 match b with
 |true=>A
 |false=>B
theorem forkB_elim {b:Bool} {A B:Prop} (h:forkB b A B):(b=true∧A)∨(b=false∧B):=by
 cases b
 ·exact .inr ⟨rfl,h⟩
 ·exact .inl ⟨rfl,h⟩
def guardSlot (ops:Array Oper) (j:Nat):Option Nat:=
 match ops[j]? with
 |some o=>o.dst
 |none=>none
def guardW (ops:Array Oper) (g:Option (Nat×Bool)) (ρ:Env) (yes no:Env→Prop):Prop:=
 match g with
 |none=>yes ρ
 |some (j,want)=>match guardSlot ops j with
  |some t=>match look ρ t with
   |some (.bool b)=>match want with
    |true=>forkB b (yes ((t,.bool true)::ρ)) (no ((t,.bool false)::ρ))
    |false=>forkB b (no ((t,.bool true)::ρ)) (yes ((t,.bool false)::ρ))
   |some (.tuple _)=>no ρ
   |_=>False
  |none=>False
abbrev Pats:=Nat→PatX
def patOf (ps:Pats) (dst:Option Nat):PatX:=
 match dst with
 |some d=>ps d
 |none=>⟨Pat.raw,none⟩
def opsW (P:Program) (n:Nat) (ps:Pats) (ops:Array Oper):List Oper→Env→Heap→(Env→Heap→Prop)→Prop
 |[],ρ,H,K=>K ρ H
 |o::r,ρ,H,K=>guardW ops o.guard ρ
  (fun ρ=>opW P n o (patOf ps o.dst) ρ H fun ρ' H'=>opsW P n ps ops r ρ' H' K)
  (fun ρ=>putK n o.dst undef ρ H fun ρ' H'=>opsW P n ps ops r ρ' H' K)
def memN (t:Nat):List Nat→Bool
 |[]=>false
 |d::r=>Nat.beq d t||memN t r
theorem memN_iff (t:Nat): ∀l:List Nat,memN t l=true↔t∈l
 |[]=>by simp[memN]
 |d::r=>by simp[memN,memN_iff t r,Nat.beq_eq];exact or_congr_left eq_comm
def dstsL:List Oper→List Nat
 |[]=> []
 |o::r=>match o.dst with
  |some d=>d::dstsL r
  |none=>dstsL r
theorem mem_dstsL: ∀(l:List Oper) (o:Oper),o∈l→ ∀d,o.dst=some d→d∈dstsL l
 |[],_,h,_,_=>by cases h
 |x::r,o,h,d,hd=>by
  rcases List.mem_cons.1 h with rfl|h
  ·simp[dstsL,hd]
  ·have:=mem_dstsL r o h d hd
   simp only[dstsL]
   split
   ·exact List.mem_cons_of_mem _ this
   ·exact this
def Keep (W:List Nat) (a a':Act):Prop:= ∀t,t∉W→a'.tmps.getD t undef=a.tmps.getD t undef
theorem Keep.refl (W:List Nat) (a:Act):Keep W a a:=fun _ _=>rfl
theorem Keep.trans {W:List Nat} {a b c:Act} (h:Keep W a b) (k:Keep W b c):Keep W a c:=fun t ht=>(k t ht).trans (h t ht)
theorem Keep.mono {W V:List Nat} {a b:Act} (h:Keep W a b) (hs: ∀t,t∈W→t∈V):Keep V a b:=fun t ht=>h t fun hm=>ht (hs t hm)
theorem Keep1.keep {dst:Option Nat} {a b:Act} (h:Keep1 dst a b) (W:List Nat) (hW: ∀d,dst=some d→d∈W):Keep W a b:=
 fun t ht=>h t fun e=>ht (hW t e)
section
variable {P:Program} {n:Nat}
theorem yielded_of {ops:Array Oper} {ρ:Env} {a:Act} (hr:Rep D n ρ a) {j t:Nat} (hj:guardSlot ops j=some t) {b:Bool} (hb:look ρ t=some (.bool b)):
 yielded ops a.tmps j=some b:=by
 have h1:a.tmps.getD t undef= .bool b:=hr.get t _ hb
 have h2:((ops[j]?).bind (·.dst))=some t:=by
  unfold guardSlot at hj
  split at hj
  ·rename_i o ho;simp[ho,hj]
  ·cases hj
 unfold yielded
 rw[h2]
 simp only[Option.bind_some]
 simp only[Array.getD_eq_getD_getElem?] at h1
 cases hc:a.tmps[t]? with
 |none=>rw[hc] at h1;simp[undef] at h1
 |some v=>rw[hc] at h1;simp only[Option.getD_some] at h1;subst h1;rfl
theorem yielded_none {ops:Array Oper} {ρ:Env} {a:Act} (hr:Rep D n ρ a) {j t:Nat} (hj:guardSlot ops j=some t) {vs:Array Value} (hb:look ρ t=some (.tuple vs)):
 yielded ops a.tmps j=none:=by
 have h1:a.tmps.getD t undef= .tuple vs:=hr.get t _ hb
 have h2:((ops[j]?).bind (·.dst))=some t:=by
  unfold guardSlot at hj
  split at hj
  ·rename_i o ho;simp[ho,hj]
  ·cases hj
 unfold yielded
 rw[h2]
 simp only[Option.bind_some]
 simp only[Array.getD_eq_getD_getElem?] at h1
 cases hc:a.tmps[t]? with
 |none=>rfl
 |some v=>rw[hc] at h1;simp only[Option.getD_some] at h1;subst h1;rfl
theorem guard_sound {ops:Array Oper} {o:Oper} {ρ:Env} {a:Act} (hr:Rep D n ρ a) {yes no:Env→Prop} (h:guardW ops o.guard ρ yes no):
 (Region.wanted o (yielded ops a.tmps)=true∧ ∃ρ',Rep D n ρ' a∧yes ρ')∨(Region.wanted o (yielded ops a.tmps)=false∧ ∃ρ',Rep D n ρ' a∧no ρ'):=by
 unfold guardW at h
 split at h
 ·rename_i hg
  exact .inl ⟨by simp[Region.wanted,hg],ρ,hr,h⟩
 ·rename_i j want hg
  split at h
  ·rename_i t ht
   split at h
   ·rename_i b hb
    have hy:=yielded_of hr ht hb
    cases want
    ·rcases forkB_elim h with⟨rfl,h⟩|⟨rfl,h⟩
     ·exact .inr ⟨by simp[Region.wanted,hg,hy],_,hr.learn hb _ rfl,h⟩
     ·exact .inl ⟨by simp[Region.wanted,hg,hy],_,hr.learn hb _ rfl,h⟩
    ·rcases forkB_elim h with⟨rfl,h⟩|⟨rfl,h⟩
     ·exact .inl ⟨by simp[Region.wanted,hg,hy],_,hr.learn hb _ rfl,h⟩
     ·exact .inr ⟨by simp[Region.wanted,hg,hy],_,hr.learn hb _ rfl,h⟩
   ·rename_i vs hb
    have hy:=yielded_none hr ht hb
    exact .inr ⟨by simp[Region.wanted,hg,hy],_,hr,h⟩
   ·exact h.elim
  ·exact h.elim
theorem ops_sound {ps:Pats} {ops:Array Oper} {Q:Exit→Act→World→Prop} {W:List Nat} {K:Env→Heap→Prop}: ∀(l:List Oper) (ρ:Env) (a:Act) (w:World),Rep D n ρ a→
 opsW P n ps ops l ρ w.heap K→(∀o∈l,∀d,o.dst=some d→d∈W)→
 (∀a' w',(∃ρ',Rep D n ρ' a'∧K ρ' w'.heap)→Same w w'→Keep W a a'→Q .normal a' w')→wpList P ops Q l a w
 |[],ρ,a,w,hr,h,_,hq=>hq a w ⟨ρ,hr,h⟩ (Same.refl w) (Keep.refl W a)
 |o::r,ρ,a,w,hr,h,hW,hq=>by
  have hWo:=hW o (by simp)
  have hWr: ∀o∈r,∀d,o.dst=some d→d∈W:=fun o ho=>hW o (by simp[ho])
  unfold wpList
  rcases guard_sound hr h with⟨hw,ρ',hr',h⟩|⟨hw,ρ',hr',h⟩
  ·rw[if_pos hw]
   refine .inl (Oper.wp_mono ?_ (op_sound hr' h))
   rintro a' w' ⟨⟨ρ2,hr2,hk⟩,hs,hkeep⟩
   have hk1:=hkeep.keep W hWo
   exact ops_sound r ρ2 a' w' hr2 hk hWr fun a2 w2 hx hs2 hk2=>hq a2 w2 hx (hs.trans hs2) (hk1.trans hk2)
  ·rw[if_neg (by simp[hw])]
   obtain⟨⟨ρ2,hr2,hk⟩,hkeep⟩:=put_sound hr' h
   have hk1:=hkeep.keep W hWo
   exact ops_sound r ρ2 _ w hr2 hk hWr fun a2 w2 hx hs2 hk2=>hq a2 w2 hx hs2 (hk1.trans hk2)
end
structure HeldL where
 i:Nat
 g:Bool
 m:Nat
 a:Addr
 v:Value
def depOn (ops:Array Oper):Nat→Oper→Nat→Bool
 |0,_,_=>false
 |f+1,o,i=>o.after.any fun e=>Region.binds .any e&&(Nat.beq e.on i||match ops[e.on]? with
  |some o'=>depOn ops f o' i
  |none=>false)
def Closed (ops:Array Oper) (listed:Array Bool):Prop:= ∀k ok,ops[k]?=some ok→listed.getD k false=true→ ∀e∈ok.after,Region.binds .any e=true→listed.getD e.on false=true
theorem depOn_listed {ops:Array Oper} {listed:Array Bool} (hc:Closed ops listed): ∀(f:Nat) (o:Oper) (i:Nat),depOn ops f o i=true→
 (∀e∈o.after,Region.binds .any e=true→listed.getD e.on false=true)→listed.getD i false=true:=by
 intro f
 induction f with
 |zero=>intro o i h;cases h
 |succ f ih=>
  intro o i h hall
  unfold depOn at h
  rw[Array.any_eq_true] at h
  obtain⟨k,hk,hh⟩:=h
  simp only[Bool.and_eq_true,Bool.or_eq_true] at hh
  have hl:=hall _ (Array.getElem_mem hk) hh.1
  rcases hh.2 with h2|h2
  ·rw[←Nat.eq_of_beq_eq_true h2];exact hl
  ·split at h2
   ·rename_i o' ho'
    exact ih o' i h2 fun e he hb=>hc _ o' ho' hl e he hb
   ·cases h2
theorem Closed.set {ops:Array Oper} {listed:Array Bool} (hc:Closed ops listed) {j:Nat} (hj:j∈Region.ready .any ops listed):Closed ops (listed.setIfInBounds j true):=by
 obtain⟨_,oj,hoj,hall⟩:=mem_ready.1 hj
 intro k ok hk hl e he hb
 by_cases hjk:j=k
 ·subst hjk
  rw[hoj] at hk;cases hk
  exact getD_set_true (hall e he hb)
 ·rw[getD_set_ne false hjk] at hl
  exact getD_set_true (hc k ok hk hl e he hb)
theorem closed_start (ops:Array Oper) (n:Nat):Closed ops (Array.replicate n false):=by
 intro k ok _ h
 exfalso
 simp only[Array.getD_eq_getD_getElem?] at h
 rcases Nat.lt_or_ge k n with h'|h'
 ·rw[Array.getElem?_replicate] at h;simp[h'] at h
 ·rw[Array.getElem?_replicate,if_neg (by omega)] at h;cases h
def heldW (ops:Array Oper) (o:Oper) (H:Heap):List HeldL→Prop→Prop
 |[],A=>A
 |h::r,A=>match depOn ops 4 o h.i with
  |true=>heldW ops o H r A
  |false=>loadC H h.g h.m h.a=some h.v∧heldW ops o H r A
theorem heldW_elim {ops:Array Oper} {o:Oper} {H:Heap} {A:Prop}: ∀ {l:List HeldL},heldW ops o H l A→A∧ ∀h∈l,depOn ops 4 o h.i=false→loadC H h.g h.m h.a=some h.v
 |[],h=>⟨h,fun _ hm=>by cases hm⟩
 |x::r,h=>by
  unfold heldW at h
  split at h
  ·rename_i hd
   have:=heldW_elim h
   refine⟨this.1,fun y hy hdy=>?_⟩
   rcases List.mem_cons.1 hy with rfl|hy
   ·rw[hd] at hdy;cases hdy
   ·exact this.2 y hy hdy
  ·have:=heldW_elim h.2
   refine⟨this.1,fun y hy hdy=>?_⟩
   rcases List.mem_cons.1 hy with rfl|hy
   ·exact h.1
   ·exact this.2 y hy hdy
def takeable (P:Program):Op→Bool
 | .load .. =>true
 | .convert _ d _=>match P.underlying d with
  |some (.int _)=>true
  |_=>false
 |op=>quietOp op
def firstTake (P:Program) (ops:Array Oper) (listed:Array Bool):List Nat→Option Nat
 |[]=>none
 |i::r=>match(match ops[i]? with
  |some o=>takeable P o.op&&Region.free .any ops listed i
  |none=>false) with
  |true=>some i
  |false=>firstTake P ops listed r
def allW (A:Nat→Prop):List Nat→Prop
 |[]=>True
 |[i]=>A i
 |i::r=>A i∧allW A r
theorem allW_mem {A:Nat→Prop}: ∀ {l:List Nat},allW A l→ ∀i∈l,A i
 |[],_,_,h=>by cases h
 |[x],h,i,hi=>by simp at hi;subst hi;exact h
 |x::y::r,h,i,hi=>by
  rcases List.mem_cons.1 hi with rfl|hi
  ·exact h.1
  ·exact allW_mem h.2 i hi
def takeW (P:Program) (n:Nat) (i:Nat) (o:Oper) (p:PatX) (ρ:Env) (H:Heap) (K:List HeldL→Env→Heap→Prop):Prop:=
 match notSelect o.op&&knownL ρ o.op.operands.toList with
 |true=>match quietV P (evD ρ) o with
  |some q=>sideW q.side (putK n o.dst q.val ρ H (K []))
  |none=>match loadQ P ρ o.op with
   |some (g,m,a)=>loadW H g m a p.a fun x=>putK n o.dst (p.a.to x) ρ H (K [⟨i,g,m,a,p.a.to x⟩])
   |none=>False
 |false=>False
def effK (P:Program) (n:Nat) (o:Oper) (p:PatX) (ρ:Env) (H:Heap) (K:Env→Heap→Prop):Prop:=
 match notSelect o.op&&knownL ρ o.op.operands.toList with
 |true=>effW P n o p ρ H K
 |false=>False
def drawGo (P:Program) (n:Nat) (ps:Pats) (ops:Array Oper) (K:Env→Heap→Prop):Nat→Array Bool→List HeldL→Env→Heap→Prop
 |0,listed,_,ρ,H=>match Region.ready .any ops listed with
  |[]=>K ρ H
  |_::_=>False
 |f+1,listed,held,ρ,H=>match Region.ready .any ops listed with
  |[]=>K ρ H
  |r0::rs=>match firstTake P ops listed (r0::rs) with
   |some i=>match ops[i]? with
    |some o=>guardW ops o.guard ρ
     (fun ρ=>takeW P n i o (patOf ps o.dst) ρ H fun more ρ' H'=>drawGo P n ps ops K f (listed.setIfInBounds i true) (more++held) ρ' H')
     (fun ρ=>putK n o.dst undef ρ H fun ρ' H'=>drawGo P n ps ops K f (listed.setIfInBounds i true) held ρ' H')
    |none=>False
   |none=>allW (fun i=>match ops[i]? with
    |some o=>guardW ops o.guard ρ
     (fun ρ=>effK P n o (patOf ps o.dst) ρ H fun ρ' H'=>heldW ops o H' held (drawGo P n ps ops K f (listed.setIfInBounds i true) held ρ' H'))
     (fun ρ=>putK n o.dst undef ρ H fun ρ' H'=>drawGo P n ps ops K f (listed.setIfInBounds i true) held ρ' H')
    |none=>False) (r0::rs)
def drawW (P:Program) (n:Nat) (ps:Pats) (ops:Array Oper) (ρ:Env) (H:Heap) (K:Env→Heap→Prop):Prop:=
 match Region.noSelect ops with
 |true=>drawGo P n ps ops K ops.size (Array.replicate ops.size false) [] ρ H
 |false=>False
section
variable {P:Program} {n:Nat} {ops:Array Oper} {Q:Exit→Act→World→Prop}
def HD (ops:Array Oper) (held:List HeldL) (i:Nat) (w w':World):Prop:=
 w'=w∨ ∀h∈held,(∀o,ops[i]?=some o→depOn ops 4 o h.i=false)→loadC w'.heap h.g h.m h.a=some h.v
def wpHeld (P:Program) (ops:Array Oper) (Q:Exit→Act→World→Prop) (held:List HeldL):Nat→Array Bool→Act→World→Prop
 |0,listed,a,w=>Region.ready .any ops listed=[]∧Q .normal a w
 |f+1,listed,a,w=>(Region.ready .any ops listed=[]→Q .normal a w)∧
  ∀i∈Region.ready .any ops listed,wpOp P ops Q i (fun a' w'=>HD ops held i w w'∧wpHeld P ops Q held f (listed.setIfInBounds i true) a' w') a w
theorem wpHeld_any {held:List HeldL}: ∀(f:Nat) (listed:Array Bool) (a:Act) (w:World),wpHeld P ops Q held f listed a w→wpAny P .any ops Q f listed a w
 |0,_,_,_,h=>h
 |f+1,_,_,_,h=>⟨h.1,fun i hi=>wpOp_mono (fun a' w' h'=>wpHeld_any f _ a' w' h'.2) (h.2 i hi)⟩
theorem wpHeld_less {held more:List HeldL}: ∀(f:Nat) (listed:Array Bool) (a:Act) (w:World),wpHeld P ops Q (more++held) f listed a w→wpHeld P ops Q held f listed a w
 |0,_,_,_,h=>h
 |f+1,_,_,_,h=>⟨h.1,fun i hi=>wpOp_mono (fun a' w' h'=>⟨h'.1.imp id fun g x hx=>g x (by simp[hx]),wpHeld_less f _ a' w' h'.2⟩) (h.2 i hi)⟩
theorem held_first {held more:List HeldL} {S:World→Prop} {i:Nat} {oi:Oper} {v:Value} (hi:ops[i]?=some oi)
 (hsel: ∀(j:Nat) (o:Oper) cs b,ops[j]?=some o→o.op≠ .select cs b)
 (hQ: ∀c a w,¬Q (.panic c) a w)
 (hS: ∀j w w',HD ops (more++held) j w w'→(∀o,ops[j]?=some o→depOn ops 4 o i=false)→S w→S w'):
 ∀(f:Nat) (listed:Array Bool) (a:Act) (w:World),Closed ops listed→
  (∀j oj,ops[j]?=some oj→j≠i→listed.getD j true=false→(∀e∈oj.after,Region.binds .any e=true→e.on≠i)→oi.apart ops oj=true)→
  i∈Region.ready .any ops listed→YieldsIf P ops S oi v a→S w→
  wpHeld P ops Q (more++held) f (listed.setIfInBounds i true) (a.put oi.dst v) w→wpHeld P ops Q held (f+1) listed a w:=by
 intro f
 induction f with
 |zero=>
  intro listed a w _ _ hr hy hSw H
  refine⟨fun h=>(by rw[h] at hr;cases hr),fun j hj=>?_⟩
  by_cases hji:j=i
  ·subst hji;exact hy.wpOp hi hSw ⟨.inl rfl,H⟩
  ·have:=ready_mono hj hji
   rw[H.1] at this
   cases this
 |succ f ih=>
  intro listed a w hcl hfree hr hy hSw H
  refine⟨fun h=>(by rw[h] at hr;cases hr),fun j hj=>?_⟩
  by_cases hji:j=i
  ·subst hji;exact hy.wpOp hi hSw ⟨.inl rfl,wpHeld_less _ _ _ _ H⟩
  ·have h1:=H.2 j (ready_mono hj hji)
   obtain⟨hjun,oj,hoj,hall⟩:=mem_ready.1 hj
   have hnot: ∀e∈oj.after,Region.binds .any e=true→e.on≠i:=fun e he hb heq=>by
    have h1:=hall e he hb
    have h0:=(mem_ready.1 hr).1
    rw[heq] at h1
    rcases Nat.lt_or_ge i listed.size with h'|h'
    ·simp[h'] at h0 h1;rw[h0] at h1;cases h1
    ·simp[Array.getElem?_eq_none h'] at h1
   have hdep: ∀o,ops[j]?=some o→depOn ops 4 o i=false:=fun o ho=>by
    rw[hoj] at ho
    cases ho
    cases hd:depOn ops 4 oj i with
    |false=>rfl
    |true=>
     have h1:=depOn_listed hcl 4 oj i hd hall
     have h0:=(mem_ready.1 hr).1
     rcases Nat.lt_or_ge i listed.size with h'|h'
     ·simp[h'] at h0 h1;rw[h0] at h1;cases h1
     ·simp[Array.getElem?_eq_none h'] at h1
   have h2:=wpOp_putIf hoj (hfree j oj hoj hji hjun hnot) (fun cs b=>hsel i oi cs b hi) (fun cs b=>hsel j oj cs b hoj) (fun c a w h=>(hQ c _ w h).elim) hy h1
   have hfree': ∀k ok,ops[k]?=some ok→k≠i→(listed.setIfInBounds j true).getD k true=false→
    (∀e∈ok.after,Region.binds .any e=true→e.on≠i)→oi.apart ops ok=true:=fun k ok hk hki hun hno=>by
    refine hfree k ok hk hki ?_ hno
    by_cases hjk:j=k
    ·subst hjk;exact hjun
    ·rw[getD_set_ne true hjk] at hun;exact hun
   refine wpOp_mono (fun a' w' h3=>⟨h3.2.1.imp id fun g x hx=>g x (by simp[hx]),
    ih (listed.setIfInBounds j true) a' w' (hcl.set hj) hfree' (ready_mono hr (Ne.symm hji)) h3.1 (hS j w w' h3.2.1 hdep hSw) ?_⟩) h2
   rw[Array.setIfInBounds_comm _ _ hji]
   exact h3.2.2
theorem firstTake_some {listed:Array Bool} {i:Nat}: ∀ {l:List Nat},firstTake P ops listed l=some i→i∈l∧Region.free .any ops listed i=true
 |[],h=>by cases h
 |x::r,h=>by
  unfold firstTake at h
  split at h
  ·rename_i hx
   cases h
   split at hx
   ·simp only[Bool.and_eq_true] at hx;exact⟨by simp,hx.2⟩
   ·cases hx
  ·have:=firstTake_some h
   exact⟨by simp[this.1],this.2⟩
theorem draw_sound {ps:Pats} {W:List Nat} {K:Env→Heap→Prop} (hns:Region.noSelect ops=true) (hQ: ∀c a w,¬Q (.panic c) a w)
 (hW: ∀(i:Nat) (o:Oper) (d:Nat),ops[i]?=some o→o.dst=some d→d∈W): ∀(f:Nat) (listed:Array Bool) (held:List HeldL) (ρ:Env) (a:Act) (w:World),Closed ops listed→Rep D n ρ a→
 drawGo P n ps ops K f listed held ρ w.heap→
 (∀a' w',(∃ρ',Rep D n ρ' a'∧K ρ' w'.heap)→Same w w'→Keep W a a'→Q .normal a' w')→wpHeld P ops Q held f listed a w:=by
 intro f
 induction f with
 |zero=>
  intro listed held ρ a w hcl hr h hq
  unfold drawGo at h
  split at h
  ·rename_i hrd;exact⟨hrd,hq a w ⟨ρ,hr,h⟩ (Same.refl w) (Keep.refl W a)⟩
  ·exact h.elim
 |succ f ih=>
  intro listed held ρ a w hcl hr h hq
  unfold drawGo at h
  split at h
  ·rename_i hrd
   exact⟨fun _=>hq a w ⟨ρ,hr,h⟩ (Same.refl w) (Keep.refl W a),fun i hi=>(by rw[hrd] at hi;cases hi)⟩
  ·rename_i r0 rs hrd
   split at h
   ·rename_i i hft
    obtain⟨him,hfree⟩:=firstTake_some hft
    split at h
    ·rename_i o ho
     have him':i∈Region.ready .any ops listed:=by rw[hrd];exact him
     have hsel:=Region.noSelect_spec hns
     have hf:=Region.free_spec ho hfree
     have hWo: ∀d,o.dst=some d→d∈W:=fun d hd=>hW i o d ho hd
     rcases guard_sound hr h with⟨hw,ρ',hr',h⟩|⟨hw,ρ',hr',h⟩
     ·unfold takeW at h
      split at h
      ·rename_i hk
       have he:=exec_known (o:=o) hr' hk
       split at h
       ·rename_i q hqv
        have hside:q.ok∧putK n o.dst q.val ρ' w.heap (fun ρ2 H2=>drawGo P n ps ops K f (listed.setIfInBounds i true) ([]++held) ρ2 H2):=by
         unfold sideW at h
         split at h
         ·rename_i hs;exact⟨fun p hp=>(by rw[hs] at hp;cases hp),h⟩
         ·rename_i p hs;exact⟨fun p' hp=>(by rw[hs] at hp;cases hp;exact h.1),h.2⟩
        obtain⟨⟨ρ2,hr2,hk2⟩,hkeep⟩:=put_sound hr' hside.2
        have hk1:=hkeep.keep W hWo
        refine held_first (more:=[]) (S:=fun _=>True) ho hsel hQ (fun _ _ _ _ _ _=>trivial) f listed a w hcl hf him'
         (.inl ⟨hw,fun w _=>by rw[he];exact quietV_run P _ o q hqv hside.1 w⟩) trivial ?_
        exact ih _ _ ρ2 _ w (hcl.set him') hr2 hk2 fun a2 w2 hx hs2 hkp=>hq a2 w2 hx hs2 (hk1.trans hkp)
       ·split at h
        ·rename_i g m ad hl
         obtain⟨x,hx,hput⟩:=h
         obtain⟨⟨ρ2,hr2,hk2⟩,hkeep⟩:=put_sound hr' hput
         have hk1:=hkeep.keep W hWo
         refine held_first (more:=[⟨i,g,m,ad,(patOf ps o.dst).a.to x⟩]) (S:=fun w=>loadC w.heap g m ad=some ((patOf ps o.dst).a.to x)) ho hsel hQ ?_ f listed a w hcl hf him'
          (.inl ⟨hw,fun w hSw=>by rw[he];exact load_run hl _ hSw⟩) hx ?_
         ·intro j w1 w2 hd hdep hS1
          rcases hd with rfl|hd
          ·exact hS1
          ·exact hd ⟨i,g,m,ad,(patOf ps o.dst).a.to x⟩ (by simp) hdep
         ·exact ih _ _ ρ2 _ w (hcl.set him') hr2 hk2 fun a2 w2 hx2 hs2 hkp=>hq a2 w2 hx2 hs2 (hk1.trans hkp)
        ·exact h.elim
      ·exact h.elim
     ·obtain⟨⟨ρ2,hr2,hk2⟩,hkeep⟩:=put_sound hr' h
      have hk1:=hkeep.keep W hWo
      refine held_first (more:=[]) (S:=fun _=>True) ho hsel hQ (fun _ _ _ _ _ _=>trivial) f listed a w hcl hf him' (.inr ⟨hw,rfl⟩) trivial ?_
      exact ih _ _ ρ2 _ w (hcl.set him') hr2 hk2 fun a2 w2 hx hs2 hkp=>hq a2 w2 hx hs2 (hk1.trans hkp)
    ·exact h.elim
   ·refine⟨fun h0=>(by rw[hrd] at h0;cases h0),fun i hi=>?_⟩
    rw[hrd] at hi
    have hA:=allW_mem h i hi
    split at hA
    ·rename_i o ho
     have hWo: ∀d,o.dst=some d→d∈W:=fun d hd=>hW i o d ho hd
     unfold wpOp
     simp only[ho]
     rcases guard_sound hr hA with⟨hw,ρ',hr',hA⟩|⟨hw,ρ',hr',hA⟩
     ·rw[if_pos hw]
      unfold effK at hA
      split at hA
      ·rename_i hk
       refine .inl (Oper.wp_mono ?_ (eff_sound hr' (exec_known hr' hk) hA))
       rintro a' w' ⟨⟨ρ2,hr2,hk2⟩,hs,hkeep⟩
       have hk1:=hkeep.keep W hWo
       obtain⟨hgo,hheld⟩:=heldW_elim hk2
       refine⟨.inr fun x hx hdep=>hheld x hx (hdep o ho),ih _ _ ρ2 a' w' (hcl.set (by rw[hrd];exact hi)) hr2 hgo fun a2 w2 hx hs2 hkp=>hq a2 w2 hx (hs.trans hs2) (hk1.trans hkp)⟩
      ·exact hA.elim
     ·rw[if_neg (by simp[hw])]
      obtain⟨⟨ρ2,hr2,hk2⟩,hkeep⟩:=put_sound hr' hA
      have hk1:=hkeep.keep W hWo
      exact⟨.inl rfl,ih _ _ ρ2 _ w (hcl.set (by rw[hrd];exact hi)) hr2 hk2 fun a2 w2 hx hs2 hkp=>hq a2 w2 hx hs2 (hk1.trans hkp)⟩
    ·exact hA.elim
end
end Go.Vx
namespace Go.Vx
open Go
variable {D:List Deferred}
structure Slot where
 t:Nat
 α:Type
 to:α→Value
 get:Value→Option α
 ok: ∀v x,get v=some x→v=to x
def Slot.raw (t:Nat):Slot:=⟨t,Value,fun v=>v,some,fun _ _ h=>by cases h;rfl⟩
def Slot.int (k:IntKind) (t:Nat):Slot:=
 ⟨t,Int,fun n=> .int k n,fun v=>match v with| .int k' n=>if k'=k then some n else none|_=>none,fun v x h=>by
  split at h
  ·split at h
   ·rename_i e;cases h;rw[e]
   ·cases h
  ·cases h⟩
def Slot.bool (t:Nat):Slot:=
 ⟨t,Bool,fun b=> .bool b,fun v=>match v with| .bool b=>some b|_=>none,fun v x h=>by split at h<;>cases h;rfl⟩
def Slot.str (t:Nat):Slot:=
 ⟨t,ByteArray,fun s=> .string s,fun v=>match v with| .string s=>some s|_=>none,fun v x h=>by split at h<;>cases h;rfl⟩
def Slot.blk (t:Nat):Slot:=
 ⟨t,Nat,fun b=> .pointer (some ⟨b,0,none⟩),fun v=>match v with| .pointer (some ⟨b,0,none⟩)=>some b|_=>none,fun v x h=>by split at h<;>cases h;rfl⟩
def Slot.slc (t:Nat):Slot:=
 ⟨t,Option Addr×Nat×Nat,fun x=> .slice x.1 x.2.1 x.2.2,fun v=>match v with| .slice a n c=>some (a,n,c)|_=>none,fun v x h=>by split at h<;>cases h;rfl⟩
def Ty:List Slot→Type
 |[]=>Unit
 |s::r=>s.α×Ty r
def envOf:(l:List Slot)→Ty l→Env
 |[],_=> []
 |s::r,x=>(s.t,s.to x.1)::envOf r x.2
def getOf:(l:List Slot)→Env→Option (Ty l)
 |[],_=>some ()
 |s::r,ρ=>match look ρ s.t with
  |some v=>match s.get v with
   |some x=>match getOf r ρ with
    |some y=>some (x,y)
    |none=>none
   |none=>none
  |none=>none
def dropE (W:List Nat):Env→Env
 |[]=> []
 |(d,v)::r=>match memN d W with
  |true=>dropE W r
  |false=>(d,v)::dropE W r
structure Hints where
 pat:Pats
 loop:Nat→List Slot
 joinC:Nat→Option (List Slot)
 joinB:Nat→Option (List Slot)
 joinR:Nat→Option (List Slot×Bool)
inductive Ex where
 |normal
 |exit (id:Nat)
 |ret
def writes:Code→List Nat
 | .region _ ops _=>dstsL ops.toList
 | .seq a b=>writes a++writes b
 | .cond _ a b=>writes a++writes b
 | .block _ b=>writes b
 | .loop b=>writes b
 |_=> []
def joinW (l:List Slot) (W:List Nat) (ρ:Env) (body:(Env→Heap→Prop)→Prop) (rest:Env→Heap→Prop):Prop:=
 ∃J:Ty l→Heap→Prop,body (fun ρ' H'=>match getOf l ρ' with
  |some x=>J x H'
  |none=>False)∧ ∀x H',J x H'→rest (envOf l x++dropE W ρ) H'
def joinP (l:List Slot) (W:List Nat) (ρ:Env) (H:Heap) (body:(Env→Heap→Prop)→Prop) (rest:Env→Heap→Prop):Prop:=
 ∃x:Ty l,body (fun ρ' H'=>match getOf l ρ' with
  |some y=>y=x∧H'=H
  |none=>False)∧rest (envOf l x++dropE W ρ) H
def joinO (o:Option (List Slot)) (W:List Nat) (ρ:Env) (body:(Env→Heap→Prop)→Prop) (rest:Env→Heap→Prop):Prop:=
 match o with
 |none=>body rest
 |some l=>joinW l W ρ body rest
def regionW (P:Program) (n:Nat) (hs:Hints) (ops:Array Oper) (draw:Bool) (ρ:Env) (H:Heap) (K:Env→Heap→Prop):Prop:=
 match draw with
 |true=>drawW P n hs.pat ops ρ H K
 |false=>opsW P n hs.pat ops ops.toList ρ H K
def loopW (l:List Slot) (W:List Nat) (ρ:Env) (H:Heap) (body:Env→Heap→(Env→Heap→Prop)→Prop):Prop:=
 match getOf l ρ with
 |some x0=> ∃(I:Ty l→Heap→Prop) (μ:Ty l→Heap→Nat),I x0 H∧ ∀x H',I x H'→body (envOf l x++dropE W ρ) H' (fun ρ2 H2=>match getOf l ρ2 with
  |some y=>I y H2∧μ y H2<μ x H'
  |none=>False)
 |none=>False
def codeW (P:Program) (n:Nat) (hs:Hints):Nat→Code→Env→Heap→(Ex→Env→Heap→Prop)→Prop
 |_,.skip,ρ,H,Q=>Q .normal ρ H
 |_,.region id ops draw,ρ,H,Q=>match hs.joinR id with
  |none=>regionW P n hs ops draw ρ H (fun ρ' H'=>Q .normal ρ' H')
  |some (l,true)=>joinP l (dstsL ops.toList) ρ H (fun K=>regionW P n hs ops draw ρ H K) (fun ρ' H'=>Q .normal ρ' H')
  |some (l,false)=>joinW l (dstsL ops.toList) ρ (fun K=>regionW P n hs ops draw ρ H K) (fun ρ' H'=>Q .normal ρ' H')
 |k,.seq a b,ρ,H,Q=>codeW P n hs k a ρ H (fun e ρ' H'=>match e with
  | .normal=>codeW P n hs k b ρ' H' Q
  | .exit i=>Q (.exit i) ρ' H'
  | .ret=>Q .ret ρ' H')
 |k,.cond c a b,ρ,H,Q=>match c with
  | .tmp t=>match look ρ t with
   |some (.bool x)=>joinO (hs.joinC t) (writes a++writes b) ρ (fun K=>forkB x
    (codeW P n hs k a ((t,.bool true)::ρ) H (fun e ρ' H'=>match e with
      | .normal=>K ρ' H'
      | .exit i=>Q (.exit i) ρ' H'
      | .ret=>Q .ret ρ' H'))
    (codeW P n hs k b ((t,.bool false)::ρ) H (fun e ρ' H'=>match e with
      | .normal=>K ρ' H'
      | .exit i=>Q (.exit i) ρ' H'
      | .ret=>Q .ret ρ' H'))) (fun ρ' H'=>Q .normal ρ' H')
   |_=>False
  |_=>False
 |_,.block id b,ρ,H,Q=>joinO (hs.joinB id) (writes b) ρ (fun K=>codeW P n hs id b ρ H (fun e ρ' H'=>match e with
  | .normal=>K ρ' H'
  | .exit i=>match Nat.beq i id with
   |true=>K ρ' H'
   |false=>Q (.exit i) ρ' H'
  | .ret=>Q .ret ρ' H')) (fun ρ' H'=>Q .normal ρ' H')
 |k,.loop b,ρ,H,Q=>loopW (hs.loop k) (writes b) ρ H fun ρ' H' next=>codeW P n hs k b ρ' H' (fun e ρ2 H2=>match e with
  | .normal=>next ρ2 H2
  | .exit i=>Q (.exit i) ρ2 H2
  | .ret=>Q .ret ρ2 H2)
 |_,.exit i,ρ,H,Q=>Q (.exit i) ρ H
 |_,.ret,ρ,H,Q=>Q .ret ρ H
 |_,_,_,_,_=>False
theorem look_append_some (ρ σ:Env) (t:Nat) (v:Value) (h:look (ρ++σ) t=some v):look ρ t=some v∨(look ρ t=none∧look σ t=some v):=by
 induction ρ with
 |nil=>exact .inr ⟨rfl,h⟩
 |cons p r ih=>
  obtain⟨d,u⟩:=p
  simp only[List.cons_append,look] at h⊢
  split at h<;>simp_all
theorem look_drop (W:List Nat) (ρ:Env) (t:Nat) (v:Value) (h:look (dropE W ρ) t=some v):look ρ t=some v∧t∉W:=by
 induction ρ with
 |nil=>simp[dropE,look] at h
 |cons p r ih=>
  obtain⟨d,u⟩:=p
  simp only[dropE] at h
  split at h
  ·rename_i hm
   have hm':=(memN_iff d W).1 hm
   have:=ih h
   refine⟨?_,this.2⟩
   have hne:d≠t:=fun e=>this.2 (e▸hm')
   rw[look_cons_ne _ _ _ _ hne]
   exact this.1
  ·rename_i hm
   have hm':d∉W:=fun hin=>by rw[(memN_iff d W).2 hin] at hm;cases hm
   by_cases e:d=t
   ·subst e;rw[look_cons_self] at h;cases h;exact⟨look_cons_self _ _ _,hm'⟩
   ·rw[look_cons_ne _ _ _ _ e] at h
    have:=ih h
    exact⟨by rw[look_cons_ne _ _ _ _ e];exact this.1,this.2⟩
theorem look_envOf {n:Nat} {ρ':Env} {a:Act} (hr:Rep D n ρ' a): ∀(l:List Slot) (x:Ty l),getOf l ρ'=some x→ ∀t v,look (envOf l x) t=some v→a.tmps.getD t undef=v
 |[],_,_,t,v,h=>by simp[envOf,look] at h
 |s::r,x,hx,t,v,h=>by
  simp only[getOf] at hx
  split at hx
  ·rename_i u hu
   split at hx
   ·rename_i y hy
    split at hx
    ·rename_i z hz
     cases hx
     simp only[envOf] at h
     by_cases e:s.t=t
     ·subst e
      rw[look_cons_self] at h
      cases h
      rw[hr.get _ _ hu]
      exact s.ok _ _ hy
     ·rw[look_cons_ne _ _ _ _ e] at h
      exact look_envOf hr r z hz t v h
    ·cases hx
   ·cases hx
  ·cases hx
theorem rep_join {n:Nat} {ρ ρ':Env} {a a':Act} {W:List Nat} {l:List Slot} {x:Ty l} (hr:Rep D n ρ a) (hr':Rep D n ρ' a') (hk:Keep W a a') (hx:getOf l ρ'=some x):
 Rep D n (envOf l x++dropE W ρ) a':=by
 refine⟨hr'.defers,hr'.size,fun t v h=>?_⟩
 rcases look_append_some _ _ _ _ h with h|⟨_,h⟩
 ·exact look_envOf hr' l x hx t v h
 ·obtain⟨h1,h2⟩:=look_drop _ _ _ _ h
  rw[hk t h2]
  exact hr.get t v h1
def post (D:List Deferred) (n:Nat) (W:List Nat) (a0:Act) (w0:World) (Q:Ex→Env→Heap→Prop):Exit→Act→World→Prop
 | .normal,a,w=>(∃ρ,Rep D n ρ a∧Q .normal ρ w.heap)∧Same w0 w∧Keep W a0 a
 | .exit i,a,w=>(∃ρ,Rep D n ρ a∧Q (.exit i) ρ w.heap)∧Same w0 w∧Keep W a0 a
 | .ret,a,w=>(∃ρ,Rep D n ρ a∧Q .ret ρ w.heap)∧Same w0 w∧Keep W a0 a
 |_,_,_=>False
section
variable {P:Program} {n:Nat} {hs:Hints}
theorem region_sound (hm:P.follows .mixedOrders=true) {id:Nat} {ops:Array Oper} {draw:Bool} {ρ:Env} {a:Act} {w:World} {K:Env→Heap→Prop} {Q:Exit→Act→World→Prop}
 (hr:Rep D n ρ a) (hQ: ∀c a w,¬Q (.panic c) a w) (h:regionW P n hs ops draw ρ w.heap K)
 (hq: ∀a' w',(∃ρ',Rep D n ρ' a'∧K ρ' w'.heap)→Same w w'→Keep (dstsL ops.toList) a a'→Q .normal a' w'):(Code.region id ops draw).wp P Q a w:=by
 have hmem: ∀o∈ops.toList,∀d,o.dst=some d→d∈dstsL ops.toList:=fun o ho d hd=>mem_dstsL _ o ho d hd
 cases draw with
 |false=>exact wp_region_list (ops_sound _ _ _ _ hr h hmem hq)
 |true=>
  simp only[regionW,drawW] at h
  split at h
  ·rename_i hns
   refine wp_region_any hm (wpHeld_any _ _ _ _ (draw_sound hns hQ (fun i o d hi hd=>hmem o (by simpa using Array.mem_of_getElem? hi) d hd) _ _ [] ρ a _ (closed_start _ _) hr h ?_))
   intro a' w' hx hs' hk
   exact hq a' w' hx ⟨hs'.os,hs'.tape,hs'.output⟩ hk
  ·exact h.elim
theorem join_sound {o:Option (List Slot)} {W:List Nat} {ρ:Env} {body:(Env→Heap→Prop)→Prop} {rest:Env→Heap→Prop} (h:joinO o W ρ body rest):
 ∃K:Env→Heap→Prop,body K∧ ∀ρ' H' a a',Rep D n ρ a→Rep D n ρ' a'→Keep W a a'→K ρ' H'→ ∃ρ2,Rep D n ρ2 a'∧rest ρ2 H':=by
 cases o with
 |none=>exact⟨rest,h,fun ρ' H' a a' _ hr' _ hk=>⟨ρ',hr',hk⟩⟩
 |some l=>
  obtain⟨J,hb,hJ⟩:=h
  refine⟨_,hb,fun ρ' H' a a' hr hr' hk hx=>?_⟩
  split at hx
  ·rename_i x hgx
   exact⟨_,rep_join hr hr' hk hgx,hJ x H' hx⟩
  ·exact hx.elim
theorem code_sound (hm:P.follows .mixedOrders=true): ∀(c:Code) (k:Nat) (ρ:Env) (Q:Ex→Env→Heap→Prop) (a:Act) (w:World),Rep D n ρ a→codeW P n hs k c ρ w.heap Q→
 c.wp P (post D n (writes c) a w Q) a w:=by
 intro c
 induction c with
 |skip=>
  intro k ρ Q a w hr h
  exact wp_skip ⟨⟨ρ,hr,h⟩,Same.refl w,Keep.refl _ a⟩
 |region id ops draw=>
  intro k ρ Q a w hr h
  simp only[codeW] at h
  split at h
  ·exact region_sound hm hr (fun _ _ _ h=>h) h fun a' w' ⟨ρ',hr',hk⟩ hs' hkp=>⟨⟨ρ',hr',hk⟩,hs',hkp⟩
  ·rename_i l _
   obtain⟨x,hb,hrest⟩:=h
   refine region_sound hm hr (fun _ _ _ h=>h) hb ?_
   rintro a' w' ⟨ρ',hr',hx⟩ hs' hkp
   split at hx
   ·rename_i y hy
    obtain⟨rfl,hH⟩:=hx
    exact⟨⟨_,rep_join hr hr' hkp hy,by rw[hH];exact hrest⟩,hs',hkp⟩
   ·exact hx.elim
  ·rename_i l _
   obtain⟨J,hb,hrest⟩:=h
   refine region_sound hm hr (fun _ _ _ h=>h) hb ?_
   rintro a' w' ⟨ρ',hr',hx⟩ hs' hkp
   split at hx
   ·rename_i y hy
    exact⟨⟨_,rep_join hr hr' hkp hy,hrest y _ hx⟩,hs',hkp⟩
   ·exact hx.elim
 |seq x y ihx ihy=>
  intro k ρ Q a w hr h
  simp only[codeW] at h
  refine wp_seq (wp_mono (ihx k ρ _ a w hr h) ?_)
  intro e a1 w1 hp
  cases e with
  |normal=>
   obtain⟨⟨ρ1,hr1,hq⟩,hs1,hk1⟩:=hp
   refine wp_mono (ihy k ρ1 Q a1 w1 hr1 hq) ?_
   intro e2 a2 w2 hp2
   cases e2<;>first
    |exact hp2.elim
    |(obtain⟨h1,h2,h3⟩:=hp2
      exact⟨h1,hs1.trans h2,(hk1.mono (fun t ht=>by simp[writes,ht])).trans (h3.mono (fun t ht=>by simp[writes,ht]))⟩)
  |exit i=>obtain⟨h1,h2,h3⟩:=hp;exact⟨h1,h2,h3.mono (fun t ht=>by simp[writes,ht])⟩
  |ret=>obtain⟨h1,h2,h3⟩:=hp;exact⟨h1,h2,h3.mono (fun t ht=>by simp[writes,ht])⟩
  |goto l=>exact hp.elim
  |panic ch=>exact hp.elim
  |outgrown=>exact hp.elim
 |cond c x y ihx ihy=>
  intro k ρ Q a w hr h
  simp only[codeW] at h
  split at h
  ·rename_i t
   split at h
   ·rename_i b hb
    have hev:a.eval (.tmp t)= .bool b:=hr.get t _ hb
    obtain⟨K,hbody,hjoin⟩:=join_sound (n:=n) h
    have fin: ∀(z:Code),(∀t,t∈writes z→t∈writes (.cond (.tmp t) x y))→ ∀(e:Exit) (a':Act) (w':World),
     post D n (writes z) a w (fun e ρ' H'=>match e with
      | .normal=>K ρ' H'
      | .exit i=>Q (.exit i) ρ' H'
      | .ret=>Q .ret ρ' H') e a' w'→post D n (writes (.cond (.tmp t) x y)) a w Q e a' w':=by
     intro z hz e a' w' hp
     cases e with
     |normal=>
      obtain⟨⟨ρ1,hr1,hq⟩,hs1,hk1⟩:=hp
      have hk2:=hk1.mono (V:=writes (.cond (.tmp t) x y)) hz
      exact⟨hjoin ρ1 w'.heap a a' hr hr1 hk2 hq,hs1,hk2⟩
     |exit i=>obtain⟨h1,h2,h3⟩:=hp;exact⟨h1,h2,h3.mono hz⟩
     |ret=>obtain⟨h1,h2,h3⟩:=hp;exact⟨h1,h2,h3.mono hz⟩
     |goto l=>exact hp.elim
     |panic ch=>exact hp.elim
     |outgrown=>exact hp.elim
    rcases forkB_elim hbody with⟨rfl,hx⟩|⟨rfl,hy⟩
    ·exact wp_cond_true hev (wp_mono (ihx k _ _ a w (hr.learn hb _ rfl) hx) (fin x (fun t ht=>by simp[writes,ht])))
    ·exact wp_cond_false hev (wp_mono (ihy k _ _ a w (hr.learn hb _ rfl) hy) (fin y (fun t ht=>by simp[writes,ht])))
   ·exact h.elim
  ·exact h.elim
 |block id b ih=>
  intro k ρ Q a w hr h
  simp only[codeW] at h
  obtain⟨K,hbody,hjoin⟩:=join_sound (n:=n) h
  refine wp_block (wp_mono (ih id ρ _ a w hr hbody) ?_)
  intro e a' w' hp
  cases e with
  |normal=>
   obtain⟨⟨ρ1,hr1,hq⟩,hs1,hk1⟩:=hp
   exact⟨hjoin ρ1 w'.heap a a' hr hr1 hk1 hq,hs1,hk1⟩
  |exit i=>
   obtain⟨⟨ρ1,hr1,hq⟩,hs1,hk1⟩:=hp
   simp only[Exit.inBlock]
   simp only at hq
   cases hb:Nat.beq i id with
   |true=>
    rw[hb] at hq
    have:i=id:=Nat.eq_of_beq_eq_true hb
    rw[if_pos this]
    exact⟨hjoin ρ1 w'.heap a a' hr hr1 hk1 hq,hs1,hk1⟩
   |false=>
    rw[hb] at hq
    have:i≠id:=fun e=>by rw[e,Nat.beq_refl] at hb;cases hb
    rw[if_neg this]
    exact⟨⟨ρ1,hr1,hq⟩,hs1,hk1⟩
  |ret=>exact hp
  |goto l=>exact hp.elim
  |panic ch=>exact hp.elim
  |outgrown=>exact hp.elim
 |loop b ih=>
  intro k ρ Q a w hr h
  simp only[codeW,loopW] at h
  split at h
  ·rename_i x0 hx0
   obtain⟨I,μ,hI0,hround⟩:=h
   refine wp_loop_ghost (fun m a' w'=> ∃x,μ x w'.heap=m∧I x w'.heap∧Rep D n (envOf _ x++dropE (writes b) ρ) a'∧Same w w'∧Keep (writes b) a a') (μ x0 w.heap)
    ⟨x0,rfl,hI0,rep_join hr hr (Keep.refl _ a) hx0,Same.refl w,Keep.refl _ a⟩ ?_
   rintro m a1 w1 ⟨x,rfl,hI,hr1,hs1,hk1⟩
   refine wp_mono (ih k _ _ a1 w1 hr1 (hround x w1.heap hI)) ?_
   intro e a2 w2 hp
   cases e with
   |normal=>
    obtain⟨⟨ρ2,hr2,hq⟩,hs2,hk2⟩:=hp
    simp only at hq
    split at hq
    ·rename_i y hy
     have hk3:=hk1.trans hk2
     exact⟨_,hq.2,y,rfl,hq.1,rep_join hr hr2 hk3 hy,hs1.trans hs2,hk3⟩
    ·exact hq.elim
   |exit i=>obtain⟨h1,h2,h3⟩:=hp;exact⟨h1,hs1.trans h2,hk1.trans h3⟩
   |ret=>obtain⟨h1,h2,h3⟩:=hp;exact⟨h1,hs1.trans h2,hk1.trans h3⟩
   |goto l=>exact hp.elim
   |panic ch=>exact hp.elim
   |outgrown=>exact hp.elim
  ·exact h.elim
 |exit i=>
  intro k ρ Q a w hr h
  exact wp_exit ⟨⟨ρ,hr,h⟩,Same.refl w,Keep.refl _ a⟩
 |ret=>
  intro k ρ Q a w hr h
  exact wp_ret ⟨⟨ρ,hr,h⟩,Same.refl w,Keep.refl _ a⟩
 |_=>intro k ρ Q a w hr h;exact h.elim
end
def zipEnv:Nat→List Value→Env
 |_,[]=> []
 |i,v::r=>(i,v)::zipEnv (i+1) r
def consO (v:Option Value) (l:Option (List Value)):Option (List Value):=
 match v with
 |some x=>match l with
  |some r=>some (x::r)
  |none=>none
 |none=>none
def resL (P:Program) (ρ:Env) (H:Heap):List ResultVar→Option (List Value)
 |[]=>some []
 | .tmp t::r=>consO (look ρ t) (resL P ρ H r)
 | .cell t ty::r=>match aggOf P ty,look ρ t with
  |some (g,m),some (.pointer (some a))=>consO (loadC H g m a) (resL P ρ H r)
  |_,_=>none
def retV:List Value→Value
 |[v]=>v
 |l=> .tuple l.toArray
def retK (l:Option (List Value)) (H:Heap) (R:Value→Heap→Prop):Prop:= ∃r,l=some r∧R (retV r) H
def retW (P:Program) (fn:Func) (ρ:Env) (H:Heap) (R:Value→Heap→Prop):Prop:=retK (resL P ρ H fn.results.toList) H R
theorem consO_some {v:Option Value} {l:Option (List Value)} {r:List Value} (h:consO v l=some r): ∃x y,v=some x∧l=some y∧r=x::y:=by
 unfold consO at h
 split at h
 ·split at h
  ·cases h;exact⟨_,_,rfl,rfl,rfl⟩
  ·cases h
 ·cases h
def funW (P:Program) (fn:Func) (hs:Hints) (args:List Value) (H:Heap) (R:Value→Heap→Prop):Prop:=
 match fn.body,Nat.ble args.length fn.ntmps with
 |some c,true=>codeW P fn.ntmps hs 0 c (zipEnv 0 args) H (fun e ρ H'=>match e with
  | .normal=>retW P fn ρ H' R
  | .exit _=>False
  | .ret=>retW P fn ρ H' R)
 |_,_=>False
theorem look_zipEnv: ∀(l:List Value) (i t:Nat) (v:Value),look (zipEnv i l) t=some v→i≤t∧l[t -i]?=some v
 |[],_,_,_,h=>by simp[zipEnv,look] at h
 |u::r,i,t,v,h=>by
  simp only[zipEnv] at h
  by_cases e:i=t
  ·subst e;rw[look_cons_self] at h;cases h;simp
  ·rw[look_cons_ne _ _ _ _ e] at h
   have:=look_zipEnv r (i+1) t v h
   refine⟨by omega,?_⟩
   have h2:t -i=(t -(i+1))+1:=by omega
   rw[h2];simpa using this.2
def resOne (tmps:Array Value):ResultVar→Sem Value
 | .tmp t=>pure (tmps.getD t undef)
 | .cell x t=>do loadVar t (←asAddr (tmps.getD x undef))
theorem results_eq (fn:Func) (tmps:Array Value):results fn tmps=(do
 let vs←fn.results.mapM (resOne tmps)
 pure (if h:vs.size=1 then vs[0] else .tuple vs)):=by
 have:(resOne tmps)=(fun| .tmp t=>pure (tmps.getD t undef)| .cell a t=>do loadVar t (←asAddr (tmps.getD a undef))):=by
  funext x;cases x<;>rfl
 rw[this]
 rfl
theorem resL_run {P:Program} {n:Nat} {ρ:Env} {a:Act} {w:World} (hr:Rep D n ρ a): ∀(l:List ResultVar) (vs:List Value),resL P ρ w.heap l=some vs→
 (l.mapM (resOne a.tmps)).run P w= .ok vs w
 |[],vs,h=>by simp only[resL,Option.some.injEq] at h;subst h;simp[Sem.run_pure]
 | .tmp t::r,vs,h=>by
  simp only[resL] at h
  obtain⟨v,l,hv,hl,rfl⟩:=consO_some h
  have:=resL_run hr r l hl
  simp only[List.mapM_cons,Sem.run_bind,Sem.run_pure,Result.andThen_ok,this,resOne,hr.get _ _ hv]
 | .cell t ty::r,vs,h=>by
  simp only[resL] at h
  split at h
  ·rename_i g m ad hag hv
   obtain⟨v,l,hld,hl,rfl⟩:=consO_some h
   have:=resL_run hr r l hl
   have hrun:=run_loadVar P ty g m hag ad w v hld
   have ha:(asAddr (a.tmps.getD t undef)).run P w= .ok ad w:=by rw[hr.get _ _ hv];rfl
   simp only[List.mapM_cons,Sem.run_bind,Sem.run_pure,Result.andThen_ok,this,resOne,ha,hrun]
  ·cases h
theorem results_run {P:Program} {n:Nat} {fn:Func} {ρ:Env} {a:Act} {w:World} (hr:Rep D n ρ a) {l:List Value} (h:resL P ρ w.heap fn.results.toList=some l):
 (results fn a.tmps).run P w= .ok (retV l) w:=by
 have h1:=resL_run hr _ _ h
 rw[results_eq,←Array.toArray_toList (xs:=fn.results)]
 simp only[List.mapM_toArray,Sem.run_bind,Sem.run_map,h1]
 match l with
 |[]=>simp[Sem.run_pure,retV]
 |[v]=>simp[Sem.run_pure,retV]
 |u::v::r=>simp[Sem.run_pure,retV]
theorem fnS {P:Program} (hm:P.follows .mixedOrders=true) {f:FuncId} {fn:Func} (hf:P.funcs[f]?=some fn) (hs:Hints) (args:List Value) (H:Heap) (R:Value→Heap→Prop)
 (h:funW P fn hs args H R):Fn P f args.toArray H R:=by
 intro w hw
 subst hw
 unfold funW at h
 split at h
 ·rename_i c hb hle
  have hle':args.length≤fn.ntmps:=Nat.le_of_ble_eq_true hle
  refine calls_of_wp hf hb ?_
  have hrep:Rep [] fn.ntmps (zipEnv 0 args) {tmps:=args.toArray++Array.replicate (fn.ntmps -args.toArray.size) undef,defers:=[]}:=by
   refine⟨rfl,by simp;omega,fun t v ht=>?_⟩
   obtain⟨_,h2⟩:=look_zipEnv _ _ _ _ ht
   simp only[Nat.sub_zero] at h2
   have hlt:t<args.length:=(List.getElem?_eq_some_iff.1 h2).1
   simp only[Array.getD_eq_getD_getElem?]
   rw[Array.getElem?_append_left (by simpa using hlt)]
   simp[h2]
  refine wp_mono (code_sound hm c 0 _ _ _ w hrep h) ?_
  intro e a' w' hp
  cases e with
  |normal=>
   obtain⟨⟨ρ',hr',l,hl,hR⟩,hs',_⟩:=hp
   exact⟨hr'.defers,_,results_run hr' hl,_,rfl,hs',hR⟩
  |ret=>
   obtain⟨⟨ρ',hr',l,hl,hR⟩,hs',_⟩:=hp
   exact⟨hr'.defers,_,results_run hr' hl,_,rfl,hs',hR⟩
  |exit i=>obtain⟨⟨ρ',hr',hq⟩,_,_⟩:=hp;exact hq.elim
  |goto l=>exact hp.elim
  |panic ch=>exact hp.elim
  |outgrown=>exact hp.elim
 ·exact h.elim
end Go.Vx
namespace Go.Vx
open Go
def bs (l:List UInt8):ByteArray:=⟨l.toArray⟩
def pInt (k:IntKind):Pat:=⟨Int,fun n=> .int k n⟩
def pStr:Pat:=⟨ByteArray,fun s=> .string s⟩
def pBool:Pat:=⟨Bool,fun b=> .bool b⟩
def pPtr:Pat:=⟨Option Addr,fun p=> .pointer p⟩
def pBlk:Pat:=⟨Nat,fun b=> .pointer (some ⟨b,0,none⟩)⟩
def pSlc:Pat:=⟨Option Addr×Nat×Nat,fun x=> .slice x.1 x.2.1 x.2.2⟩
def joinK (X:Type) (body:(X→Heap→Prop)→Prop) (rest:X→Heap→Prop):Prop:= ∃J:X→Heap→Prop,body J∧ ∀x H,J x H→rest x H
def joinPK (X:Type) (H:Heap) (body:(X→Heap→Prop)→Prop) (rest:X→Prop):Prop:= ∃x:X,body (fun y H'=>y=x∧H'=H)∧rest x
def loopK (X:Type) (x0:X) (H:Heap) (body:X→Heap→(X→Heap→Prop)→Prop):Prop:=
 ∃(I:X→Heap→Prop) (μ:X→Heap→Nat),I x0 H∧ ∀x H',I x H'→body x H' (fun y H2=>I y H2∧μ y H2<μ x H')
def patL:List (Nat×Pat)→Nat→PatX
 |[],_=>⟨Pat.raw,none⟩
 |(d,p)::r,t=>match Nat.beq d t with
  |true=>⟨p,none⟩
  |false=>patL r t
def patX:List (Nat×Pat×Pat)→List (Nat×Pat)→Nat→PatX
 |[],l,t=>patL l t
 |(d,p,q)::r,l,t=>match Nat.beq d t with
  |true=>⟨p,some q⟩
  |false=>patX r l t
def loopL:List (Nat×List Slot)→Nat→List Slot
 |[],_=> []
 |(d,p)::r,t=>match Nat.beq d t with
  |true=>p
  |false=>loopL r t
def joinL:List (Nat×List Slot)→Nat→Option (List Slot)
 |[],_=>none
 |(d,p)::r,t=>match Nat.beq d t with
  |true=>some p
  |false=>joinL r t
def joinRL:List (Nat×List Slot×Bool)→Nat→Option (List Slot×Bool)
 |[],_=>none
 |(d,p)::r,t=>match Nat.beq d t with
  |true=>some p
  |false=>joinRL r t
end Go.Vx
namespace Go.Vx
open Go
theorem fkI {b:Bool} {A B:Prop} (h1:b=true→A) (h2:b=false→B):forkB b A B:=by
 cases b
 ·exact h2 rfl
 ·exact h1 rfl
theorem rkI {l:List Value} {H:Heap} {R:Value→Heap→Prop} (h:R (retV l) H):retK (some l) H R:=⟨l,rfl,h⟩
theorem i64w {n:Int} (h: -9223372036854775808≤n∧n≤9223372036854775807):IntKind.i64.wrap n=n:=by
 simp only[IntKind.wrap,IntKind.bits,IntKind.signed];simp;split<;>omega
theorem u8w {n:Int} (h:0≤n∧n≤255):IntKind.u8.wrap n=n:=by
 simp only[IntKind.wrap,IntKind.bits,IntKind.signed];simp;omega
theorem i32w {n:Int} (h: -2147483648≤n∧n≤2147483647):IntKind.i32.wrap n=n:=by
 simp only[IntKind.wrap,IntKind.bits,IntKind.signed];simp;split<;>omega
theorem bt_range (s:ByteArray) (n:Int):0≤bt s n∧bt s n≤255:=by
 unfold bt
 have:=(((s.data[n.toNat]?).getD 0:UInt8).toNat_lt)
 omega
structure Ext (S:List Nat) (H H':Heap):Prop where
 size:H.size≤H'.size
 get: ∀k o,H[k]?=some o→k∉S→H'[k]?=some o
theorem Ext.refl (S:List Nat) (H:Heap):Ext S H H:=⟨Nat.le_refl _,fun _ _ h _=>h⟩
theorem Ext.trans {S:List Nat} {A B C:Heap} (h:Ext S A B) (k:Ext S B C):Ext S A C:=
 ⟨Nat.le_trans h.size k.size,fun i o hi hn=>k.get i o (h.get i o hi hn) hn⟩
theorem Ext.mono {S T:List Nat} {A B:Heap} (h:Ext S A B) (hs: ∀k,k∈S→k∈T):Ext T A B:=
 ⟨h.size,fun i o hi hn=>h.get i o hi fun hm=>hn (hs i hm)⟩
theorem Ext.of_nil {T:List Nat} {A B:Heap} (h:Ext [] A B):Ext T A B:=h.mono fun _ hk=>by cases hk
theorem lt_of_get {H:Heap} {k:Nat} {o:Obj} (h:H[k]?=some o):k<H.size:=(Array.getElem?_eq_some_iff.1 h).1
theorem get_push_old {H:Heap} {k:Nat} {o x:Obj} (h:H[k]?=some o):(H.push x)[k]?=some o:=by
 have:=lt_of_get h
 rw[Array.getElem?_push,if_neg (by omega)];exact h
theorem get_push_new (H:Heap) (x:Obj):(H.push x)[H.size]?=some x:=by simp
theorem Ext.push (S:List Nat) (H:Heap) (x:Obj):Ext S H (H.push x):=⟨by simp,fun _ _ h _=>get_push_old h⟩
theorem get_set_ne {H:Heap} {k b:Nat} {o x:Obj} (h:H[k]?=some o) (hne:k≠b):(H.setIfInBounds b x)[k]?=some o:=by
 rw[Array.getElem?_setIfInBounds,if_neg (fun e=>hne e.symm)];exact h
theorem Ext.set {S:List Nat} {H:Heap} {b:Nat} (hb:b∈S) (x:Obj):Ext S H (H.setIfInBounds b x):=
 ⟨by simp,fun k o h hn=>get_set_ne h fun e=>hn (e▸hb)⟩
theorem Ext.setNew {S:List Nat} {A H:Heap} (h:Ext S A H) {b:Nat} (hb:A.size≤b) (x:Obj):Ext S A (H.setIfInBounds b x):=
 ⟨by have:=h.size;simpa using this,fun k o hk hn=>get_set_ne (h.get k o hk hn) (by have:=lt_of_get hk;omega)⟩
theorem nbI {H:Heap} {o:Obj} {K:Nat→Heap→Prop} (h: ∀H',H'=H.push o→H'[H.size]?=some o→Ext [] H H'→H'.size=H.size+1→K H.size H'):newB H o K:=by
 rintro b H' rfl rfl
 exact h _ rfl (get_push_new H o) (Ext.push [] H o) (by simp)
def ofCells (c:Array Value) (g:Bool) (m o:Nat):Option Value:=
 match g with
 |true=>match Nat.ble (o+m) c.size with
  |true=>some (.agg ((c.toList.drop o).take m).toArray)
  |false=>none
 |false=>c[o]?
theorem lcO {H:Heap} {b o:Nat} {g:Bool} {m:Nat} {c:Array Value} {e:TypeId} {fr:Nat×Nat} {v:Value} (h:H[b]?=some (.cells c e fr)) (hv:ofCells c g m o=some v):
 loadC H g m ⟨b,o,none⟩=some v:=by
 cases g with
 |false=>simp only[loadC,cellAt,h];exact hv
 |true=>
  simp only[ofCells] at hv
  split at hv
  ·rename_i hle
   have:=Nat.le_of_ble_eq_true hle
   simp only[loadC,cellsAt,h,this,if_true]
   exact hv
  ·cases hv
theorem loadC_ext {S:List Nat} {A H:Heap} (h:Ext S A H) {g:Bool} {m:Nat} {a:Addr} {v:Value} (hl:loadC A g m a=some v) (hn:a.block∉S):loadC H g m a=some v:=by
 have key: ∀o,A[a.block]?=some o→H[a.block]?=some o:=fun o ho=>h.get _ _ ho hn
 cases g with
 |false=>
  simp only[loadC,cellAt] at hl⊢
  cases ho:A[a.block]? with
  |none=>rw[ho] at hl;cases hl
  |some o=>rw[ho] at hl;rw[key o ho];exact hl
 |true=>
  simp only[loadC,cellsAt] at hl⊢
  cases ho:A[a.block]? with
  |none=>rw[ho] at hl;cases hl
  |some o=>rw[ho] at hl;rw[key o ho];exact hl
theorem storeC_of {H:Heap} {b o:Nat} {l:List Value} {c:Array Value} {e:TypeId} {fr:Nat×Nat} (h:H[b]?=some (.cells c e fr)) (hle:o+l.length≤c.size)
 (hf:freeFrom fr o l.length=true) (h1:oneL l=true):storeC H ⟨b,o,none⟩ l=some (H.setIfInBounds b (.cells (writeAt c o l) e fr)):=by
 simp only[storeC,h,hle,hf,h1,true_and,if_true]
theorem swI {H:Heap} {b o:Nat} {l:List Value} {c:Array Value} {e:TypeId} {fr:Nat×Nat} {K:Heap→Prop} (h:H[b]?=some (.cells c e fr)) (hle:o+l.length≤c.size)
 (hf:freeFrom fr o l.length=true) (h1:oneL l=true)
 (hk: ∀H',H'=H.setIfInBounds b (.cells (writeAt c o l) e fr)→H'[b]?=some (.cells (writeAt c o l) e fr)→Ext [b] H H'→H'.size=H.size→K H'):storeW H ⟨b,o,none⟩ l K:=
 ⟨_,storeC_of h hle hf h1,hk _ rfl (get_setIf _ _ _ _ h) (Ext.set (by simp) _) (by simp)⟩
theorem ix_some {b o:Nat} {n:Int} {len:Nat} (h0:0≤n) (h1:n<(len:Int)):IxOk (some ⟨b,o,none⟩) n len:=⟨rfl,h0,h1⟩
structure Nd where
 kind:Int
 name:ByteArray
 alias:ByteArray
 text:ByteArray
 flag:Int
 size:Int
def Nd.val (n:Nd):Array Value:= #[.int .i64 n.kind,.string n.name,.string n.alias,.string n.text,.int .i64 n.flag,.int .i64 n.size]
def NodesAt (H:Heap) (b o:Nat) (ds:List Nd):Prop:=
 ∃c e fr,H[b]?=some (.cells c e fr)∧o+ds.length*6≤c.size∧ ∀i n,ds[i]?=some n→ ∀k,k<6→c[o+i*6+k]?=n.val[k]?
theorem NodesAt.ext {S:List Nat} {A H:Heap} (h:Ext S A H) {b o:Nat} {ds:List Nd} (hn:NodesAt A b o ds) (hb:b∉S):NodesAt H b o ds:=by
 obtain⟨c,e,fr,hc,hr⟩:=hn
 exact⟨c,e,fr,h.get _ _ hc hb,hr⟩
theorem NodesAt.all {H:Heap} {b o:Nat} {ds:List Nd} (h:NodesAt H b o ds) {i:Nat} {n:Nd} (hi:ds[i]?=some n):
 loadC H true 6 ⟨b,o+i*6,none⟩=some (.agg n.val):=by
 obtain⟨c,e,fr,hc,hs,hr⟩:=h
 have hlt:i<ds.length:=(List.getElem?_eq_some_iff.1 hi).1
 have hle:o+i*6+6≤c.size:=by omega
 simp only[loadC,cellsAt,hc,hle,if_true]
 congr 2
 apply Array.ext_getElem?
 intro j
 simp only[List.getElem?_toArray,List.getElem?_take,List.getElem?_drop]
 by_cases hj:j<6
 ·have:=hr i n hi j hj
  simp only[hj,if_true]
  rw[Array.getElem?_toList,this]
 ·simp only[hj,if_false]
  rw[Array.getElem?_eq_none]
  simp[Nd.val];omega
end Go.Vx
namespace Go.Vx
open Go
variable {D:List Deferred}
def FnC (P:Program) (f:FuncId) (args:Array Value) (H:Heap) (R:Value→Heap→Prop):Prop:=
 ∀(u:FrameMode) (w:World),w.heap=H→CallsD P f args u w fun e u' w'=>u'=u∧ ∃v,e= .returned v∧Same w w'∧R v w'.heap
theorem FnC.mono {P:Program} {f:FuncId} {args:Array Value} {H:Heap} {R R':Value→Heap→Prop} (h:FnC P f args H R)
 (hr: ∀v H',R v H'→R' v H'):FnC P f args H R':=
 fun u w hw=>(h u w hw).mono fun _ _ _ ⟨hu,v,he,hs,hR⟩=>⟨hu,v,he,hs,hr _ _ hR⟩
section
variable {P:Program} {fn:Func} {hs:Hints} {R:Value→Heap→Prop}
end
end Go.Vx
