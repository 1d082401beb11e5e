/- A part of the proof of what the last text of this claim says: LW0. Conditions: none. -/
import Derived.ProofKit
import Derived.OpenShut
import Derived.Carry
import Derived.Deep.Slices
import Derived.Test.YtkopcepfeeemhaaGreatDoorYBAm
set_option maxRecDepth 10000
namespace Go.Vx
open Go Go.Proofs Go.RowKit Go.ChangeShapes Go.WideShapes
theorem sameBelow {w w':World} (hs:Same w w') (he:Ext [] w.heap w'.heap):Below w.heap.size w w':=by
 refine⟨hs.os,hs.tape,hs.output,he.size,fun k hk=>?_⟩
 have:w.heap[k]?=some w.heap[k]:=Array.getElem?_eq_getElem hk
 rw[this]
 exact he.get k _ this (by simp)
theorem mapM_get {α β:Type} {f:α→Option β} (l:List α): ∀(r:List β),l.mapM f=some r→ ∀(i:Nat) (a:α),l[i]?=some a→ ∃b,f a=some b∧r[i]?=some b:=by
 induction l with
 |nil=>intro r h i a ha;simp at ha
 |cons x l ih=>
  intro r h i a ha
  simp only[List.mapM_cons,Option.bind_eq_bind,Option.bind_eq_some_iff,Option.pure_def,Option.some.injEq] at h
  obtain⟨b,hb,r',hr',rfl⟩:=h
  cases i with
  |zero=>simp at ha;subst ha;exact⟨b,hb,rfl⟩
  |succ i=>simp at ha;exact ih r' hr' i a ha
instance:Inhabited Nd:=⟨⟨0,eB,eB,eB,0,0⟩⟩
theorem cells41:Tryz.prog.cellsOf 41=6:=by kernel_rfl
theorem cells3:Tryz.prog.cellsOf 3=1:=by kernel_rfl
theorem cells9:Tryz.prog.cellsOf 9=1:=by kernel_rfl
theorem cells5:Tryz.prog.cellsOf 5=1:=by kernel_rfl
theorem node_cells {H:Type} {enc:TypeId×Value→H} {W:World} {base fuel:Nat} {sp:Nat→Bool} {held:Bool} {cs:List Value} {x:DataW H×List MemPlace}
 (h:DataW.trod enc Tryz.prog W base sp held fuel 41 cs=some x): ∃n:Nd,cs=n.val.toList:=by
 obtain⟨xs,n,_,_,hl,hlen,hf⟩:=DataW.trod_struct Tryz.underlying41 h
 rw[cells41] at hl
 match cs,hl with
 |[c0,c1,c2,c3,c4,c5],_=>
  have g: ∀i (f:Field),i<6→xs[i]?≠none:=by
   intro i f hi hn
   rw[List.getElem?_eq_none_iff,hlen] at hn
   simp at hn;omega
  have one: ∀(i:Nat) (f:Field) (hi:i<6) (hff:(#[{name:= "Kind",type:=3,offset:=0,embedded:=false,tag:= "",pkgPath:= "",byteOffset:=0},
   {name:= "Name",type:=9,offset:=1,embedded:=false,tag:= "",pkgPath:= "",byteOffset:=8},
   {name:= "Alias",type:=9,offset:=2,embedded:=false,tag:= "",pkgPath:= "",byteOffset:=24},
   {name:= "Text",type:=9,offset:=3,embedded:=false,tag:= "",pkgPath:= "",byteOffset:=40},
   {name:= "Flag",type:=3,offset:=4,embedded:=false,tag:= "",pkgPath:= "",byteOffset:=56},
   {name:= "Size",type:=3,offset:=5,embedded:=false,tag:= "",pkgPath:= "",byteOffset:=64}]:Array Field)[i]?=some f),
   ∃y,DataW.trod enc Tryz.prog W base sp held n f.type (([c0,c1,c2,c3,c4,c5].drop f.offset).take (Tryz.prog.cellsOf f.type))=some y:=by
   intro i f hi hff
   have h1:=hf i f hff
   cases hx:xs[i]? with
   |none=>exact absurd hx (g i f hi)
   |some y=>rw[hx] at h1;exact⟨y,h1⟩
  obtain⟨y0,h0⟩: ∃y,DataW.trod enc Tryz.prog W base sp held n 3 [c0]=some y:=by
   have h:=one 0 (Field.mk "Kind" 3 0 false "" "" 0) (by decide) rfl
   simp only[cells3] at h
   exact h
  obtain⟨y1,h1⟩: ∃y,DataW.trod enc Tryz.prog W base sp held n 9 [c1]=some y:=by
   have h:=one 1 (Field.mk "Name" 9 1 false "" "" 8) (by decide) rfl
   simp only[cells9] at h
   exact h
  obtain⟨y2,h2⟩: ∃y,DataW.trod enc Tryz.prog W base sp held n 9 [c2]=some y:=by
   have h:=one 2 (Field.mk "Alias" 9 2 false "" "" 24) (by decide) rfl
   simp only[cells9] at h
   exact h
  obtain⟨y3,h3⟩: ∃y,DataW.trod enc Tryz.prog W base sp held n 9 [c3]=some y:=by
   have h:=one 3 (Field.mk "Text" 9 3 false "" "" 40) (by decide) rfl
   simp only[cells9] at h
   exact h
  obtain⟨y4,h4⟩: ∃y,DataW.trod enc Tryz.prog W base sp held n 3 [c4]=some y:=by
   have h:=one 4 (Field.mk "Flag" 3 4 false "" "" 56) (by decide) rfl
   simp only[cells3] at h
   exact h
  obtain⟨y5,h5⟩: ∃y,DataW.trod enc Tryz.prog W base sp held n 3 [c5]=some y:=by
   have h:=one 5 (Field.mk "Size" 3 5 false "" "" 64) (by decide) rfl
   simp only[cells3] at h
   exact h
  obtain⟨k0,e0,_⟩:=DataW.trod_int Tryz.underlying3 h0
  obtain⟨k1,e1,_⟩:=DataW.trod_string Tryz.underlying9 h1
  obtain⟨k2,e2,_⟩:=DataW.trod_string Tryz.underlying9 h2
  obtain⟨k3,e3,_⟩:=DataW.trod_string Tryz.underlying9 h3
  obtain⟨k4,e4,_⟩:=DataW.trod_int Tryz.underlying3 h4
  obtain⟨k5,e5,_⟩:=DataW.trod_int Tryz.underlying3 h5
  simp at e0 e1 e2 e3 e4 e5
  subst e0;subst e1;subst e2;subst e3;subst e4;subst e5
  exact⟨⟨k0,k1,k2,k3,k4,k5⟩,rfl⟩
theorem cell_heap {W:World} {b o:Nat} {v:Value} (h:W.cell? ⟨b,o,none⟩=some v): ∃c e fr,W.heap[b]?=some (.cells c e fr)∧c[o]?=some v:=by
 unfold World.cell? at h
 split at h
 ·rename_i c e fr hc
  exact⟨c,e,fr,hc,by simpa using h⟩
 ·cases h
theorem cell_spot {W:World} {a:Addr} {v:Value} (h:W.cell? a=some v):a.spot=none:=by
 unfold World.cell? at h
 split at h
 ·split at h
  ·cases h
  ·rename_i hs;simpa using hs
 ·cases h
theorem open_nodes {H:Type} {enc:TypeId×Value→H} {W:World} {v:Value} {d:DataW H} {p:List MemPlace} (h:DataW.Trod enc Tryz.prog W 0 (fun _=>true) true 22 v d p) (hv: ∃a len cap,v= .slice a len cap):
 (∃a c,v= .slice a 0 c)∨ ∃(b o c:Nat) (ds:List Nd),v= .slice (some ⟨b,o,none⟩) ds.length c∧NodesAt W.heap b o ds∧ds.length≤c:=by
 obtain⟨a0,len0,cap0,rfl⟩:=hv
 obtain⟨fuel,hf⟩:=h
 rcases Go.Deep.open_slice Tryz.underlying22 hf with⟨hcs,_⟩|⟨a,len,cap,m,n,D,Pl,hcs,_,hl,_,hm,_,hel⟩
 ·simp[Value.cells] at hcs
  obtain⟨rfl,rfl,rfl⟩:=hcs
  exact .inl ⟨_,_,rfl⟩
 simp[Value.cells] at hcs
 obtain⟨rfl,rfl,rfl⟩:=hcs
 simp only[if_true] at hm
 subst hm
 cases len0 with
 |zero=>exact .inl ⟨_,_,rfl⟩
 |succ len=>
 right
 rw[cells41] at hel
 -- each node's cells
 have each: ∀i,i<len+1→ ∃nd:Nd,∀k,k<6→W.cell? ((a.add (i*6)).add k)=nd.val[k]?:=by
  intro i hi
  obtain⟨cs',h1,h2⟩:=hel i (by omega)
  obtain⟨nd,rfl⟩:=node_cells h2
  refine⟨nd,fun k hk=>?_⟩
  unfold World.cells? at h1
  rw[if_pos (Nat.zero_le _)] at h1
  obtain⟨b,hb,hr⟩:=mapM_get _ _ h1 k k (by simp[hk])
  rw[hb]
  simpa using hr.symm
 have h00:=(each 0 (by omega)).choose_spec 0 (by decide)
 have hsp:a.spot=none:=by
  have:W.cell? a=(each 0 (by omega)).choose.val[0]?:=by simpa [Addr.add] using h00
  exact cell_spot (v:=_) (this.trans rfl)
 obtain⟨b,o,sp⟩:=a
 simp only at hsp
 subst hsp
 obtain⟨f,hf'⟩:=Go.Deep.choose_lt each
 refine⟨b,o,m,(List.range (len+1)).map f,by simp,?_,by simpa using hl⟩
 have hcell: ∀i k,i<len+1→k<6→W.cell? ⟨b,o+i*6+k,none⟩=(f i).val[k]?:=by
  intro i k hi hk
  have:=hf' i hi k hk
  rw[addr_add,addr_add] at this
  exact this
 have hbk: ∃c e fr,W.heap[b]?=some (.cells c e fr):=by
  have:=hcell 0 0 (by omega) (by decide)
  obtain⟨c,e,fr,hc,_⟩:=cell_heap (v:= .int .i64 (f 0).kind) this
  exact⟨c,e,fr,hc⟩
 obtain⟨c,e,fr,hc⟩:=hbk
 have hck: ∀i k,i<len+1→k<6→c[o+i*6+k]?=(f i).val[k]?:=by
  intro i k hi hk
  have:=hcell i k hi hk
  simpa [World.cell?,hc] using this
 refine⟨c,e,fr,hc,?_,fun i nd hi k hk=>?_⟩
 ·have h5:=hck len 5 (by omega) (by decide)
  have h6:(f len).val[5]?=some (.int .i64 (f len).size):=rfl
  rw[h6] at h5
  have:=(Array.getElem?_eq_some_iff.1 h5).1
  simp;omega
 ·have hlt:=(List.getElem?_eq_some_iff.1 hi).1
  simp at hlt
  simp[hlt] at hi
  subst hi
  exact hck i k hlt hk
theorem open_bytes {H:Type} {enc:TypeId×Value→H} {W:World} {v:Value} {d:DataW H} {p:List MemPlace} (h:DataW.Trod enc Tryz.prog W 0 (fun _=>true) true 23 v d p) (hv: ∃a len cap,v= .slice a len cap):
 ∃(a:Option Addr) (n c:Nat) (ys:List Int),v= .slice a n c∧SlcAt W.heap a n (ys.map (.int .u8 ·))∧ ∀y∈ys,0≤y∧y≤255:=by
 obtain⟨a0,len0,cap0,rfl⟩:=hv
 obtain⟨fuel,hf⟩:=h
 rcases open_ints Tryz.underlying23 Tryz.underlying5 cells5 hf with⟨hcs,_⟩|⟨a,len,cap,zs,hcs,_,hl,_,hz,_,hcell,hwz⟩
 ·simp[Value.cells] at hcs
  obtain⟨rfl,rfl,rfl⟩:=hcs
  exact⟨none,0,0,[],rfl,⟨rfl,.inl rfl⟩,by simp⟩
 simp[Value.cells] at hcs
 obtain⟨rfl,rfl,rfl⟩:=hcs
 simp only[if_true] at hz
 have hwf: ∀y∈zs,0≤y∧y≤255:=fun y hy=>by
  have:=hwz y hy
  simpa [Lit.wf,IntKind.min,IntKind.max,IntKind.signed,IntKind.bits] using this
 refine⟨some a,len0,cap0,zs.take len0,rfl,?_,fun y hy=>hwf y (List.mem_of_mem_take hy)⟩
 refine⟨by simp;omega,?_⟩
 cases hlen:len0 with
 |zero=>exact .inl rfl
 |succ len=>
 right
 subst hlen
 have h0:=hcell 0 (by omega)
 have hsp:a.spot=none:=cell_spot (v:=_) (by simpa [Addr.add] using h0)
 obtain⟨b,o,sp⟩:=a
 simp only at hsp
 subst hsp
 have hc0:W.cell? ⟨b,o,none⟩=some (.int .u8 (zs.getD 0 0)):=by simpa [Addr.add] using h0
 obtain⟨c,e,fr,hc,_⟩:=cell_heap hc0
 refine⟨b,o,c,e,fr,rfl,hc,fun i s hi=>?_⟩
 have hlt:=(List.getElem?_eq_some_iff.1 hi).1
 simp at hlt
 have hlt':i<len+1:=by omega
 have h1:=hcell i (by omega)
 rw[addr_add] at h1
 simp only[World.cell?,hc,Option.isSome_none,if_false,Bool.false_eq_true] at h1
 rw[h1]
 have hz':zs[i]?=some (zs.getD i 0):=by simp[List.getD,List.getElem?_eq_getElem (show i<zs.length by omega)]
 rw[List.getElem?_map,List.getElem?_take,if_pos hlt',hz'] at hi
 simpa using hi
end Go.Vx
