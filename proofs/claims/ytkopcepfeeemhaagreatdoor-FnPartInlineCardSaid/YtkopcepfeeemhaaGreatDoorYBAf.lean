/- A part of the proof of what the last text of this claim says: QT1. Conditions: none. -/
import Derived.Test.YtkopcepfeeemhaaGreatDoorZAj
import Derived.Test.YtkopcepfeeemhaaGreatDoorYBAe
set_option maxRecDepth 10000
namespace Go.Vx
open Go Go.Proofs
def ndCells:List Nd→List Value
 |[]=> []
 |n::r=>n.val.toList++ndCells r
theorem ndCells_append (a b:List Nd):ndCells (a++b)=ndCells a++ndCells b:=by
 induction a with
 |nil=>rfl
 |cons n r ih=>simp only[List.cons_append,ndCells,ih,List.append_assoc]
theorem ndCells_len (a:List Nd):(ndCells a).length=a.length*6:=by
 induction a with
 |nil=>rfl
 |cons n r ih=>simp only[ndCells,List.length_append,ih,List.length_cons];simp[Nd.val];omega
theorem ndCells_get: ∀(a:List Nd) (i:Nat) (n:Nd),a[i]?=some n→ ∀k,k<6→(ndCells a)[i*6+k]?=n.val[k]?
 |[],i,n,h,k,hk=>by simp at h
 |m::r,0,n,h,k,hk=>by
  simp at h;subst h
  simp only[ndCells]
  rw[List.getElem?_append_left (by simp[Nd.val];omega)]
  simp
 |m::r,i+1,n,h,k,hk=>by
  simp at h
  simp only[ndCells]
  have hl:m.val.toList.length=6:=rfl
  rw[List.getElem?_append_right (by omega)]
  have e:(i+1)*6+k -m.val.toList.length=i*6+k:=by omega
  rw[e]
  exact ndCells_get r i n h k hk
def Nd.sized (n:Nd) (s:Int):Nd:= {n with size:=s}
theorem ndCells_set: ∀(a b:List Nd) (x:Nd) (s:Int),(ndCells (a++x::b)).set (a.length*6+5) (.int .i64 s)=ndCells (a++x.sized s::b)
 |[],b,x,s=>by simp[ndCells,Nd.val,Nd.sized]
 |m::r,b,x,s=>by
  have ih:=ndCells_set r b x s
  simp only[List.cons_append,ndCells]
  have hl:m.val.toList.length=6:=rfl
  rw[List.set_append_right _ _ (by simp only[List.length_cons,hl];omega)]
  have e:(m::r).length*6+5 -m.val.toList.length=r.length*6+5:=by simp only[List.length_cons,hl];omega
  rw[e,ih]
theorem cells_ne' {H:Heap} {a b:Nat} {c d:Array Value} {e f:TypeId} {x y:Nat×Nat} (ha:H[a]?=some (.cells c e x)) (hb:H[b]?=some (.cells d f y)) (h:e≠f):a≠b:=by
 rintro rfl;rw[ha] at hb;cases hb;exact h rfl
theorem nm {a b:Nat} (h:a≠b):a∉ [b]:=by simpa using h
structure KpT (H H':Heap):Prop where
 size:H.size≤H'.size
 get: ∀(k:Nat) (c:Array Value) (e:TypeId) (fr:Nat×Nat),H[k]?=some (.cells c e fr)→e≠tq63→e≠tq41→e≠tq65→H'[k]?=some (.cells c e fr)
theorem KpT.refl (H:Heap):KpT H H:=⟨Nat.le_refl _,fun _ _ _ _ h _ _ _=>h⟩
theorem KpT.trans {A B C:Heap} (h:KpT A B) (k:KpT B C):KpT A C:=
 ⟨Nat.le_trans h.size k.size,fun q c e fr hq h1 h2 h3=>k.get q c e fr (h.get q c e fr hq h1 h2 h3) h1 h2 h3⟩
theorem Ext.kpT {H H':Heap} (h:Ext [] H H'):KpT H H':=⟨h.size,fun k c e fr hk _ _ _=>h.get _ _ hk (by simp)⟩
structure TkAt (Hp H:Heap) (tk:Nat) (D:List Nd):Prop where
 ext:Ext [] Hp H
 new:Hp.size≤tk
 st: ∃(a:Option Addr) (n c:Nat) (sa:Option Addr) (sn sc:Nat) (xs:List Value),H[tk]?=some (.cells #[.slice a n c,.slice sa sn sc,.bool false] tq63)∧
  OwnS H tq41 6 a n c (ndCells D)∧(∀r,rowOf a=some r→Hp.size≤r)∧OwnS H tq65 2 sa sn sc xs∧(∀r,rowOf sa=some r→Hp.size≤r)∧sn=D.length
theorem TkAt.grow {Hp H H':Heap} {tk:Nat} {D:List Nd} (h:TkAt Hp H tk D) (he:Ext [] H H'):TkAt Hp H' tk D:=by
 obtain⟨a,n,c,sa,sn,sc,xs,h1,h2,h3,h4,h5,h6⟩:=h.st
 exact⟨h.ext.trans he,h.new,a,n,c,sa,sn,sc,xs,he.get _ _ h1 (by simp),h2.ext he (by simp),h3,h4.ext he (by simp),h5,h6⟩
theorem TkAt.len {Hp H:Heap} {tk:Nat} {D:List Nd} (h:TkAt Hp H tk D): ∃(a:Option Addr) (c:Nat),loadC H false 1 ⟨tk,0,none⟩=some (.slice a D.length c):=by
 obtain⟨a,n,c,sa,sn,sc,xs,h1,h2,h3,h4,h5,h6⟩:=h.st
 have:=h2.1
 rw[ndCells_len] at this
 obtain rfl:n=D.length:=by omega
 exact⟨a,c,lcO h1 rfl⟩
theorem ext_of_row {A H H':Heap} {S:List Nat} (h:Ext [] A H) (he:Ext S H H') (hs: ∀r∈S,A.size≤r):Ext [] A H':=
 ⟨by have:=h.size;have:=he.size;omega,fun k o hk _=>he.get _ _ (h.get _ _ hk (by simp)) fun hm=>by have:=hs k hm;have:=lt_of_get hk;omega⟩
theorem kpT_of_row {H H':Heap} {S:List Nat} (he:Ext S H H') (hs: ∀r∈S,∀c e fr,H[r]?=some (Obj.cells c e fr)→e=tq63∨e=tq41∨e=tq65):KpT H H':=by
 refine⟨he.size,fun k c e fr hk h1 h2 h3=>he.get _ _ hk fun hm=>?_⟩
 rcases hs k hm c e fr hk with h|h|h
 ·exact h1 h
 ·exact h2 h
 ·exact h3 h
theorem put_front {Hp H:Heap} {tk:Nat} {D:List Nd} (h:TkAt Hp H tk D) (hD:D.length≤10000) (lb:Nat) {ls le:Int} {lq:Option Addr} {lfr:Nat×Nat} (hl:Hp[lb]?=some (.cells #[.int .i64 ls,.int .i64 le,.pointer lq] tq185 lfr)) (x:Nd)
 {K:Sl→Heap→Prop} (hk: ∀(a:Option Addr) (c:Nat) (H':Heap),KpT H H'→TkAt Hp H' tk (D++[x])→K (a,D.length,c) H'):
 newB H (.cells #[(.int .i64 x.kind),(.string x.name),(.string x.alias),(.string x.text),(.int .i64 x.flag),(.int .i64 x.size)] tq41) fun b1 H2=>
 loadW H2 false 1 ⟨tk,0,none⟩ pSlc fun(x3:Sl)=>
 loadW H2 false 1 ⟨tk,0,none⟩ pSlc fun(x4:Sl)=>
 loadW H2 true 6 ⟨b1,0,none⟩ ⟨Int×ByteArray×ByteArray×ByteArray×Int×Int,fun x=>(.agg #[(.int .i64 x.1),(.string x.2.1),(.string x.2.2.1),(.string x.2.2.2.1),(.int .i64 x.2.2.2.2.1),(.int .i64 x.2.2.2.2.2)])⟩ fun(x5:Int×ByteArray×ByteArray×ByteArray×Int×Int)=>
 newB H2 (.cells #[(.int .i64 x5.1),(.string x5.2.1),(.string x5.2.2.1),(.string x5.2.2.2.1),(.int .i64 x5.2.2.2.2.1),(.int .i64 x5.2.2.2.2.2)] tq41) fun b6 H7=>
 loadC H7 false 1 ⟨tk,0,none⟩=some (.slice x4.1 x4.2.1 x4.2.2)∧
 appK H7 tq41 6 72 x4.1 x4.2.1 x4.2.2 (some ⟨b6,0,none⟩) 1 fun a8 c9 H10=>
 storeW H10 ⟨tk,0,none⟩ [(.slice a8 (x4.2.1+1) c9)] fun H11=>
 loadW H11 false 1 ⟨tk,1,none⟩ pSlc fun(x12:Sl)=>
 loadW H11 false 1 ⟨lb,0,none⟩ (pInt .i64) fun(x13:Int)=>
 loadW H11 false 1 ⟨lb,1,none⟩ (pInt .i64) fun(x14:Int)=>
 newB H11 (.cells #[(.int .i64 x13),(.int .i64 x14)] tq65) fun b15 H16=>
 loadC H16 false 1 ⟨tk,1,none⟩=some (.slice x12.1 x12.2.1 x12.2.2)∧
 appK H16 tq65 2 16 x12.1 x12.2.1 x12.2.2 (some ⟨b15,0,none⟩) 1 fun a17 c18 H19=>
 storeW H19 ⟨tk,1,none⟩ [(.slice a17 (x12.2.1+1) c18)] fun H20=>K x3 H20:=by
 obtain⟨a,n,c,sa,sn,sc,xs,h1,h2,h3,h4,h5,h6⟩:=h.st
 have hn:=h2.1
 rw[ndCells_len] at hn
 obtain rfl:n=D.length:=by omega
 have hml:1000000≤maxLen:=by decide
 refine nbI fun H2 e2 hb2 x2 s2=>?_
 have g2:=x2.get _ _ h1 (by simp)
 refine⟨(a,D.length,c),lcO g2 rfl,(a,D.length,c),lcO g2 rfl,(x.kind,x.name,x.alias,x.text,x.flag,x.size),lcO hb2 rfl,?_⟩
 dsimp only
 refine nbI fun H7 e7 hb7 x7 s7=>?_
 have g7:=x7.get _ _ g2 (by simp)
 refine⟨lcO g7 rfl,?_⟩
 have o7:=(h2.ext x2 (by simp)).ext x7 (by simp)
 have so7:=(h4.ext x2 (by simp)).ext x7 (by simp)
 have y7:=x2.trans x7
 refine .inr ⟨_,_,o7,NewsS.of_block hb7 rfl,?_,by omega,by omega,?_⟩
 ·intro u hu;simp at hu;rcases hu with rfl|rfl|rfl|rfl|rfl|rfl<;>rfl
 intro a8 c9 H10 ho10 hg10 _ hrow10
 have x10:=hg10.ext
 have r10: ∀r∈(rowOf a).toList,Hp.size≤r:=by
  intro r hr
  exact h3 r (by simpa using hr)
 have n10: ∀r∈(rowOf a).toList,∀c e fr,H7[r]?=some (Obj.cells c e fr)→e=tq41:=by
  intro r hr c' e' fr' hc'
  obtain⟨cur,_,hg,_⟩:=o7.row (by simpa using hr)
  rw[hg] at hc';cases hc';rfl
 have g10:=x10.get _ _ g7 (fun hm=>by have:=n10 _ hm _ _ _ g7;exact absurd this (by decide))
 have so10:=so7.ext x10 (fun r hr hm=>by
  obtain⟨cur,_,hg,_⟩:=so7.row hr
  exact absurd (n10 _ hm _ _ _ hg) (by decide))
 have ra8: ∀r,rowOf a8=some r→Hp.size≤r:=by
  intro r hr
  rcases hrow10 with he|he
  ·exact h3 r (by rw[←he];exact hr)
  ·rw[he] at hr;cases hr;have:=h.ext.size;omega
 refine swI g10 (by simp) rfl rfl fun H11 e11 hb11 x11 s11=>?_
 have g11:H11[tk]?=some (.cells #[.slice a8 (D.length+1) c9,.slice sa sn sc,.bool false] tq63):=hb11
 have o11:=ho10.ext x11 (fun r hr=>nm (ho10.ne g10 (by decide) hr))
 have so11:=so10.ext x11 (fun r hr=>nm (so10.ne g10 (by decide) hr))
 have p10:Ext [] Hp H10:=ext_of_row (h.ext.trans y7) x10 r10
 have p11:Ext [] Hp H11:=ext_of_row p10 x11 (by simp;exact h.new)
 have l11:=p11.get _ _ hl (by simp)
 refine⟨(sa,sn,sc),lcO g11 rfl,ls,lcO l11 rfl,le,lcO l11 rfl,?_⟩
 dsimp only
 refine nbI fun H16 e16 hb16 x16 s16=>?_
 have g16:=x16.get _ _ g11 (by simp)
 refine⟨lcO g16 rfl,?_⟩
 have o16:=o11.ext x16 (by simp)
 have so16:=so11.ext x16 (by simp)
 refine .inr ⟨_,_,so16,NewsS.of_block hb16 rfl,?_,by omega,by omega,?_⟩
 ·intro u hu;simp at hu;rcases hu with rfl|rfl<;>rfl
 intro a17 c18 H19 ho19 hg19 _ hrow19
 have x19:=hg19.ext
 have n19: ∀r∈(rowOf sa).toList,∀c e fr,H16[r]?=some (Obj.cells c e fr)→e=tq65:=by
  intro r hr c' e' fr' hc'
  obtain⟨cur,_,hg,_⟩:=so16.row (by simpa using hr)
  rw[hg] at hc';cases hc';rfl
 have g19:=x19.get _ _ g16 (fun hm=>by have:=n19 _ hm _ _ _ g16;exact absurd this (by decide))
 have o19:=o16.ext x19 (fun r hr hm=>by
  obtain⟨cur,_,hg,_⟩:=o16.row hr
  exact absurd (n19 _ hm _ _ _ hg) (by decide))
 have p16:=p11.trans x16
 have p19:Ext [] Hp H19:=ext_of_row p16 x19 (fun r hr=>h5 r (by simpa using hr))
 refine swI g19 (by simp) rfl rfl fun H20 e20 hb20 x20 s20=>?_
 have g20:H20[tk]?=some (.cells #[.slice a8 (D.length+1) c9,.slice a17 (sn+1) c18,.bool false] tq63):=hb20
 have o20:=o19.ext x20 (fun r hr=>nm (o19.ne g19 (by decide) hr))
 have so20:=ho19.ext x20 (fun r hr=>nm (ho19.ne g19 (by decide) hr))
 have p20:Ext [] Hp H20:=ext_of_row p19 x20 (by simp;exact h.new)
 have ra17: ∀r,rowOf a17=some r→Hp.size≤r:=by
  intro r hr
  rcases hrow19 with he|he
  ·exact h5 r (by rw[←he];exact hr)
  ·rw[he] at hr;cases hr;have:=p16.size;omega
 have tkT: ∀ {H:Heap} {cs:Array Value} {fr:Nat×Nat},H[tk]?=some (.cells cs tq63 fr)→ ∀r∈ [tk],∀c e fr,H[r]?=some (Obj.cells c e fr)→e=tq63∨e=tq41∨e=tq65:=by
  intro H cs fr hh r hr c e fr2 hc
  simp only[List.mem_singleton] at hr
  subst hr
  rw[hh] at hc;cases hc;exact .inl rfl
 have kk:KpT H H20:=
  y7.kpT.trans ((kpT_of_row x10 fun r hr c e fr hc=> .inr (.inl (n10 r hr c e fr hc))).trans ((kpT_of_row x11 (tkT g10)).trans (x16.kpT.trans
   ((kpT_of_row x19 fun r hr c e fr hc=> .inr (.inr (n19 r hr c e fr hc))).trans (kpT_of_row x20 (tkT g19))))))
 refine hk a c H20 kk ⟨p20,h.new,a8,D.length+1,c9,a17,sn+1,c18,_,g20,?_,ra8,so20,ra17,by simp;omega⟩
 rw[ndCells_append]
 have e0:ndCells [x]= #[(Value.int .i64 x.kind),(.string x.name),(.string x.alias),(.string x.text),(.int .i64 x.flag),(.int .i64 x.size)].toList:=by simp[ndCells,Nd.val]
 rw[e0]
 exact o20
theorem size_set {Hp H H':Heap} {tk:Nat} {D W:List Nd} {x:Nd} (hT:TkAt Hp H' tk (D++x::W)) (hK:KpT H H') (hs:D.length+W.length≤20000):
 loadW H' false 1 ⟨tk,0,none⟩ pSlc fun(x21:Sl)=>
 loadW H' false 1 ⟨tk,0,none⟩ pSlc fun(x22:Sl)=>
 (IxOk x21.1 ((D.length:Nat):Int) x21.2.1)∧
 storeW H' ⟨(blkOf x21.1),((offOf x21.1+((D.length:Nat):Int).toNat*6)+5),none⟩ [(.int .i64 (IntKind.i64.wrap (((x22.2.1:Nat):Int) -((D.length:Nat):Int))))] fun H23=>
 retK (some []) H23 fun v H''=>v= .tuple #[]∧KpT H H''∧TkAt Hp H'' tk (D++x.sized ((1+W.length:Nat):Int)::W):=by
 obtain⟨a,n,c,sa,sn,sc,xs,h1,h2,h3,h4,h5,h6⟩:=hT.st
 have hn:=h2.1
 rw[ndCells_len] at hn
 have hl:(D++x::W).length=D.length+(1+W.length):=by simp;omega
 obtain rfl:n=D.length+(1+W.length):=by omega
 refine⟨(a,_,c),lcO h1 rfl,(a,_,c),lcO h1 rfl,?_⟩
 dsimp only
 rcases h2.2 with⟨_,h0,_⟩|⟨g,cur,rfl,hg,hnc,hcm,hcs,hct⟩
 ·omega
 refine⟨ix_some (by omega) (by omega),?_⟩
 have hw:IntKind.i64.wrap (((D.length+(1+W.length):Nat):Int) -((D.length:Nat):Int))=((1+W.length:Nat):Int):=by rw[i64w (by omega)];omega
 rw[hw]
 have he:offOf (some ⟨g,0,none⟩)+((D.length:Nat):Int).toNat*6+5=D.length*6+5:=by simp[offOf]
 rw[he]
 show storeW H' ⟨g,D.length*6+5,none⟩ _ _
 refine swI hg (by simp only[List.length_singleton];omega) (by simp[freeFrom]) rfl fun H2 e2 hb2 x2 s2=>?_
 have hgn:g≠tk:=cells_ne' hg h1 (by decide)
 have g2:=x2.get _ _ h1 (nm hgn.symm)
 have so2:=h4.ext x2 (fun r hr=>nm (h4.ne hg (by decide) hr))
 have hgp:=h3 g rfl
 refine rkI ⟨rfl,hK.trans (kpT_of_row x2 ?_),ext_of_row hT.ext x2 (by simpa using hgp),hT.new,_,_,c,sa,sn,sc,xs,g2,⟨?_,.inr ⟨g,_,rfl,hb2,hnc,hcm,?_,?_⟩⟩,h3,so2,h5,?_⟩
 ·intro r hr c' e' fr' hc'
  simp only[List.mem_singleton] at hr
  subst hr
  rw[hg] at hc';cases hc';exact .inr (.inl rfl)
 ·rw[ndCells_len];simp;omega
 ·simp[writeAt,hcs]
 ·simp only[writeAt,Array.toList_setIfInBounds]
  rw[List.take_set,hct,ndCells_set]
 ·rw[h6];simp
theorem putNil_ok {Hp H:Heap} {tk:Nat} {D:List Nd} (h:TkAt Hp H tk D) (hD:D.length≤10000) (lb:Nat) {ls le:Int} {lq:Option Addr} {lfr:Nat×Nat} (hl:Hp[lb]?=some (.cells #[.int .i64 ls,.int .i64 le,.pointer lq] tq185 lfr)) (x:Nd):
 Fn PP fq67 #[.pointer (some ⟨tk,0,none⟩),.pointer (some ⟨lb,0,none⟩),.agg x.val,.nilFunc] H fun v H'=>v= .tuple #[]∧KpT H H'∧TkAt Hp H' tk (D++[x.sized 1]):=by
 refine putNil.enter tk lb x H _ ?_
 unfold putNil.W
 refine put_front h hD lb hl x fun a c H' hK hT=>?_
 exact size_set (W:=[]) hT hK (by simp;omega)
theorem putG_ok (f:FuncId) {Hp H:Heap} {tk:Nat} {D:List Nd} (h:TkAt Hp H tk D) (hD:D.length≤10000) (lb:Nat) {ls le:Int} {lq:Option Addr} {lfr:Nat×Nat} (hl:Hp[lb]?=some (.cells #[.int .i64 ls,.int .i64 le,.pointer lq] tq185 lfr)) (x:Nd) (c1 c2:Nat)
 {P:List Nd→Prop} (hf: ∀H1,KpT H H1→TkAt Hp H1 tk (D++[x])→Fn PP f #[.pointer (some ⟨c1,0,none⟩),.pointer (some ⟨c2,0,none⟩)] H1 fun v H'=>v= .tuple #[]∧KpT H1 H'∧ ∃W,W.length≤10000∧P W∧TkAt Hp H' tk (D++x::W)):
 putG.W f tk lb x c1 c2 H fun v H'=>v= .tuple #[]∧KpT H H'∧ ∃W,P W∧TkAt Hp H' tk (D++x.sized ((1+W.length:Nat):Int)::W):=by
 unfold putG.W
 refine put_front h hD lb hl x fun a c H1 hK hT=>?_
 refine(hf H1 hK hT).mono ?_
 rintro _ H2 ⟨rfl,hK2,W,hW,hP,hT2⟩
 refine⟨(),rfl,?_⟩
 have:=size_set (W:=W) hT2 (hK.trans hK2) (by omega)
 obtain⟨x21,l21,x22,l22,ix,H3,hs3,r,hr,e,k3,t3⟩:=this
 exact⟨x21,l21,x22,l22,ix,H3,hs3,r,hr,e,k3,W,hP,t3⟩
theorem text_ok (b:Nat) (s:ByteArray) {k lq:Value} {fr:Nat×Nat} (H:Heap) (h:H[b]?=some (.cells #[k,lq,.string s] tq115 fr)):Fn PP fq69 #[.pointer (some ⟨b,0,none⟩)] H fun v H'=>v= .string s∧H=H':=by
 refine textOf.enter b H _ ?_
 unfold textOf.W
 exact⟨s,lcO h rfl,rkI ⟨rfl,rfl⟩⟩
theorem text_nil (H:Heap):Fn PP fq69 #[.pointer none] H fun v H'=>v= .string eB∧H=H':=by
 refine textNil.enter H _ ?_
 unfold textNil.W
 exact rkI ⟨rfl,rfl⟩
theorem on_ok (b nb:Nat) (s:ByteArray) {k lq k2 lq2:Value} {fr fr2:Nat×Nat} (H:Heap) (h:H[b]?=some (.cells #[k,lq,.pointer (some ⟨nb,0,none⟩)] tq113 fr)) (h2:H[nb]?=some (.cells #[k2,lq2,.string s] tq115 fr2)):
 Fn PP fq68 #[.pointer (some ⟨b,0,none⟩)] H fun v H'=>v= .string s∧H=H':=by
 refine onOf.enter b H _ ?_
 unfold onOf.W
 refine⟨_,lcO h rfl,(text_ok nb s H h2).mono ?_⟩
 rintro _ _ ⟨rfl,rfl⟩
 exact⟨s,rfl,rkI ⟨rfl,rfl⟩⟩
theorem on_nil (H:Heap):Fn PP fq68 #[.pointer none] H fun v H'=>v= .string eB∧H=H':=by
 refine onNil.enter H _ ?_
 unfold onNil.W
 exact rkI ⟨rfl,rfl⟩
end Go.Vx
