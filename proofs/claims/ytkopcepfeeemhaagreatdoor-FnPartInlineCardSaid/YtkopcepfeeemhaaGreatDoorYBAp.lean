/- A part of the proof of what the last text of this claim says: QV4, QT4, QT5, QV5, QV6, QV7. Conditions: none. -/
import Derived.Test.YtkopcepfeeemhaaGreatDoorYBAk
import Derived.Test.YtkopcepfeeemhaaGreatDoorYBAo
set_option maxRecDepth 10000
namespace Go.Vx
open Go Go.Proofs
def Fine (t:Tr):Prop:=Good t∧Ws t∧(flat t).length≤400
theorem Fine.kid {t k:Tr} (h:Fine t) (hk:k∈t.ks):Fine k:=⟨h.1.kid hk,h.2.1.kid hk,by have:=flat_kid_le hk;have:=h.2.2;omega⟩
theorem Fine.val (E:PEnv) (c:Bool) {t:Tr} (h:Fine t) (ht:isValueM t.n=true) (hfx:c=true→Fixed t):PVal E c t:=parseValueLiteral_ok E c t ht h.1 h.2.1 h.2.2 hfx
theorem Fine.typ (E:PEnv) {t:Tr} (h:Fine t) (ht:isTypeM t.n=true) (u:KV) (r:List KV) (hu:u.1≠2):
 POk E fq151 #[.pointer (some ⟨E.p,0,none⟩)] (kvs t++u::r) (u::r) N2v fun x G=>TakeTy x.1 x.2 (flat t) G:=parseType_ok E t ht h.1 h.2.1 u r hu
theorem Fine.few {t:Tr} (h:Fine t):t.ks.length≤400:=kids_few h.2.2
abbrev ifP (T:Nat) (b:Nat):Value:= .tuple #[.iface T (.pointer (some ⟨b,0,none⟩)),.nilIface]
theorem app_ne (l:List KV) (u:KV) (r:List KV): ∃a b,l++u::r=a::b:=by
 cases l with
 |nil=>exact⟨_,_,rfl⟩
 |cons a b=>exact⟨_,_,rfl⟩
theorem revList (T eT:Nat) (_he:plainT eT) {f:FuncId} {E:PEnv} {ok ck:Int} {z:Bool} {Q:Nat→Tr→Heap→Prop} (Fo:KV→Prop) {l:List Tr} (hlen:l.length≤400) (hne:l≠ [])
 (hP: ∀t∈l,∀(u:KV) (r:List KV),Fo u→POk E f #[.pointer (some ⟨E.p,0,none⟩)] (kvs t++u::r) (u::r) (ifP T) fun b G=>Q b t G)
 (hF: ∀t∈l,∃h r,kvs t=h::r∧Fo h∧h.1≠ck) (hc:Fo (ck,eB)) {u:KV} {r:List KV} {H:Heap} (ps:PS E H ((ok,eB)::(l.flatMap kvs++(ck,eB)::u::r)))
 {args:Array Value} (hRev: ∀R,reverseG.W f E.p ok ck z H R→Fn PP fq139 args H R) {K:Sl→Heap→Prop}
 (hk: ∀(x:Sl) (bs:List Nat) (H':Heap),bs.length=l.length→(Cx E H H' (u::r) fun G=>SlAt x (bs.map fun b=>ifV (T,b)) G∧All2 (fun b t=>Q b t G) bs l)→K x H'):
 callW PP fq139 args H ⟨Sl,fun x=>(.tuple #[(.slice x.1 x.2.1 x.2.2),.nilIface])⟩ K:=by
 have h:=hRev _ (reverse_ok f E ok ck z kvs (fun x t G=>x.1=T∧Q x.2 t G) Fo l (by omega) (fun _=>hne) (fun t ht u r hu H ps=>by
  refine(hP t ht u r hu H ps).mono ?_
  rintro _ H' ⟨b,rfl,c⟩
  exact⟨(T,b),rfl,c.weak fun G hG=>⟨rfl,hG⟩⟩) hF hc u r H ps)
 refine h.mono ?_
 rintro v H' ⟨x,bs,rfl,c⟩
 have ht:=c.self.2.left (P:=fun b=>b.1=T) fun _ _ h=>h.1
 have hl:=c.self.2.len
 refine⟨x,rfl,hk x (bs.map (·.2)) H' (by simpa using hl) (c.weak fun G hG=>⟨?_,All2.map (hG.2.imp fun _ _ h=>h.2)⟩)⟩
 rw[←bs_typed ht]
 exact hG.1
theorem kvs_arg {t v:Tr} (hk:t.n.kind=9) (hks:t.ks=[v]) (hv:isValueM v.n=true):kvs t=nmK t.n.name::kCol::kvs v:=by
 rw[kvs_eq];simp[bodyK,hk,hks,kvL,firstK,hv,optK]
theorem arg_kid {t:Tr} (h:Good t) (hk:t.n.kind=9): ∃v,t.ks=[v]∧isValueM v.n=true:=by
 cases h.self.2 with
 |argument v _ h1 h2=>exact⟨v,h1,h2⟩
 |_=>omega
theorem parseArgument_ok (E:PEnv) (t:Tr) (hk:t.n.kind=9) (hf:Fine t) (u:KV) (r:List KV):
 POk E fq114 #[.pointer (some ⟨E.p,0,none⟩)] (kvs t++u::r) (u::r) (ifP tq96) fun b G=>ArgAt b t G:=by
 intro H ps
 obtain⟨v,hks,hvv⟩:=arg_kid hf.1 hk
 rw[kvs_arg hk hks hvv,List.cons_append,List.cons_append] at ps
 refine parseArgument.enter _ H _ ?_
 unfold parseArgument.W
 obtain⟨st,hst,_⟩:=ps.start
 refine⟨_,hst,?_⟩
 refine(Cx.start ps).call (parseName_ok E t.n.name _ _) fun nb H1 _ c1=>?_
 obtain⟨w1,w2,hw12⟩:=app_ne (kvs v) u r
 rw[hw12] at c1
 refine c1.call (expect_ok E kCol w1 w2 7 rfl) fun x H2 _ c2=>?_
 rw[←hw12] at c2
 refine c2.call (p:=N2p) ((hf.kid (by rw[hks];simp)).val E false hvv (fun h=>by cases h) u r) fun x H3 _ c3=>?_
 refine c3.call (loc_ok E _ _) fun lb H4 _ c4=>?_
 refine c4.node (NewArgument_mk _ _ _) fun b H5 _ c5=>?_
 refine rkI ⟨b,rfl,c5.weak fun G hG=>?_⟩
 obtain⟨⟨⟨⟨⟨_,hn⟩,_⟩,hV⟩,hl⟩,hbG⟩:=hG
 exact⟨lb,nb,x.1,x.2,v,hl,hn,hbG,hV.1,hks,hk,formed_alias hf.1.self.1 (by omega),body_notext hf.1.self.1.2 (by omega),hf.2.1⟩
theorem SlAt.zero (a:Option Addr) (c:Nat) (G:Heap):SlAt (a,0,c) [] G:=⟨rfl,.inl rfl⟩
theorem brK_nil (b e:Option KV):brK b e []=[]:=by simp[brK]
theorem brK_some {b e:KV} {l:List Tr} (h:l≠ []) (u:KV) (r:List KV):brK (some b) (some e) l++u::r=b::(l.flatMap kvs++e::u::r):=by simp[brK,h,optK,kvF]
theorem parseArguments_ok (E:PEnv) (l:List Tr) (hK:InK [9] l) (hf: ∀t∈l,Fine t) (hlen:l.length≤400) (u:KV) (r:List KV) (hu:u.1≠4):
 POk E fq173 #[.pointer (some ⟨E.p,0,none⟩)] (brK (some kPL) (some kPR) l++u::r) (u::r) slV fun x G=>TakeL fq64 x (flatL l) G:=by
 intro H ps
 refine parseArguments.enter _ H _ ?_
 unfold parseArguments.W
 refine nbI fun H1 e1 hb1 x1 s1=>?_
 have c1:=((Cx.start ps).add (F':=fun _=>True) x1 fun _ _=>trivial).weak fun _ h=>h.1
 by_cases hl:l=[]
 ·subst hl
  rw[brK_nil,List.nil_append] at c1
  refine c1.call1 (peek_ok E u r 4) (u.1==4) rfl fun H2 _ c2=>?_
  refine fkI (fun hh=>by simp[hu] at hh) (fun _=>rkI ⟨(some ⟨H.size,0,none⟩,0,0),rfl,c2.weak fun G _=>?_⟩)
  exact take_args (bs:=[]) (SlAt.zero _ _ _) .nil
 ·rw[brK_some hl] at c1
  refine c1.call1 (peek_ok E kPL _ 4) true rfl fun H2 y2 c2=>?_
  refine fkI (fun _=>?_) (fun hh=>absurd hh (by decide))
  have hb2:=y2.get _ _ hb1 (c1.nin (Nat.le_refl _))
  refine revList tq96 tq96 (by unfold plainT;decide) (Q:=fun b t G=>ArgAt b t G) (fun _=>True) hlen hl (fun t ht u' r' _=>parseArgument_ok E t (by simpa using hK t ht) (hf t ht) u' r') (fun t ht=>?_) trivial c2.ps (fun R h=>reverseArg.enter _ _ _ _ _ R h) fun x bs H3 hbl c3=>?_
  ·obtain⟨v,h1,h2⟩:=arg_kid (hf t ht).1 (by simpa using hK t ht)
   exact⟨_,_,kvs_arg (by simpa using hK t ht) h1 h2,trivial,by simp⟩
  have hb3:=c3.ext.get _ _ hb2 (c1.nin (Nat.le_refl _))
  refine conv_loop tq96 tq96 (by unfold plainT;decide) E c3 (by omega) c2.ext ps.lt (Ext.refl _ _) hb3 (Nat.le_refl _) (.inl (lt_of_get hb2)) (K:=fun y H'=>retK (some [(.slice y.1 y.2.1 y.2.2),.nilIface]) H' _) fun y H4 c4=>?_
  exact rkI ⟨y,rfl,c4.weak fun G hG=>take_args hG.1 hG.2⟩
theorem kvs_dir {t:Tr} (hk:t.n.kind=10) (hK:InK [9] t.ks):kvs t=kAt::nmK t.n.name::brK (some kPL) (some kPR) t.ks:=by
 rw[kvs_eq];simp only[bodyK,hk];simp[kidsK_sel (selK_all hK (K:=[9]) (by simp))]
theorem dir_kids {t:Tr} (h:Good t) (hk:t.n.kind=10):InK [9] t.ks:=by
 cases h.self.2 with
 |directive _ h1=>exact h1
 |_=>omega
theorem parseDirective_ok (E:PEnv) (t:Tr) (hk:t.n.kind=10) (hf:Fine t) (u:KV) (r:List KV) (hu:u.1≠4):
 POk E fq115 #[.pointer (some ⟨E.p,0,none⟩)] (kvs t++u::r) (u::r) P1v fun b G=>DirAt b t G:=by
 intro H ps
 have hK:=dir_kids hf.1 hk
 rw[kvs_dir hk hK,List.cons_append,List.cons_append] at ps
 refine parseDirective.enter _ H _ ?_
 unfold parseDirective.W
 obtain⟨st,hst,_⟩:=ps.start
 refine⟨_,hst,?_⟩
 refine(Cx.start ps).call (expect_ok E kAt _ _ 9 rfl) fun x H1 _ c1=>?_
 obtain⟨w1,w2,hw12⟩:=app_ne (brK (some kPL) (some kPR) t.ks) u r
 rw[hw12] at c1
 refine c1.call (parseName_ok E t.n.name w1 w2) fun nb H2 _ c2=>?_
 rw[←hw12] at c2
 refine c2.call (p:=⟨Sl,slV⟩) (parseArguments_ok E t.ks hK (fun k hk=>hf.kid hk) hf.few u r hu) fun y H3 _ c3=>?_
 refine c3.call (loc_ok E _ _) fun lb H4 _ c4=>?_
 refine c4.node (NewDirective_mk _ _ _ _ _) fun b H5 _ c5=>?_
 refine rkI ⟨b,rfl,c5.weak fun G hG=>?_⟩
 obtain⟨⟨⟨⟨⟨_,_⟩,hn⟩,hT⟩,hl⟩,hbG⟩:=hG
 exact⟨lb,nb,y,hl,hn,hbG,hT,hk,formed_alias hf.1.self.1 (by omega),body_notext hf.1.self.1.2 (by omega),hf.2.1⟩
theorem parseDirectives_ok (E:PEnv) (l:List Tr) (hK:InK [10] l) (hf: ∀t∈l,Fine t) (hlen:l.length≤400) (u:KV) (r:List KV) (hu:u.1≠4) (hu9:u.1≠9):
 POk E fq138 #[.pointer (some ⟨E.p,0,none⟩)] (kvF l++u::r) (u::r) slV fun x G=>TakeL fq65 x (flatL l) G:=by
 intro H ps
 have hhead: ∀k∈l,∃m,kvs k=kAt::m:=fun k hkm=>⟨_,kvs_dir (by simpa using hK k hkm) (dir_kids (hf k hkm).1 (by simpa using hK k hkm))⟩
 refine parseDirectives.enter _ H _ ?_
 unfold parseDirectives.W
 refine Lst.row0 ps tq99 ptV (fun b k G=>DirAt b k G) fun b0 H3 l0=>?_
 refine⟨fun z H'=> ∃(done rest:List Tr) (bs:List Nat),l=done++rest∧Lst E H H' (kvF rest++u::r) tq99 z.1 ptV (fun b k G=>DirAt b k G) bs done,fun z _=>l.length -z.1.2.1,⟨[],l,[],rfl,l0⟩,?_⟩
 rintro⟨⟨xa,xn,xc⟩,_⟩ H4 ⟨done,rest,bs,hl4,l4⟩
 dsimp only at l4⊢
 have hn:=l4.own.1
 simp only[List.length_map,Nat.mul_one] at hn
 have hbl:=l4.facts.len
 have hll:=congrArg List.length hl4
 simp only[List.length_append] at hll
 cases rest with
 |nil=>
  simp only[kvF,List.flatMap_nil,List.nil_append] at l4
  refine l4.call1 (peek_ok E u r 9) (u.1==9) rfl fun H5 l5=>?_
  refine fkI (fun hh=>by simp[hu9] at hh) (fun _=>?_)
  rw[List.append_nil] at hl4
  refine rkI ⟨(xa,xn,xc),rfl,l5.fin.weak fun G hG=>?_⟩
  rw[hl4]
  exact take_dirs hG.1 hG.2
 |cons k rest=>
  have hkm:k∈l:=by rw[hl4];simp
  obtain⟨q,hq⟩:=hhead k hkm
  rw[kvF_cons,List.append_assoc] at l4
  have l4':=l4
  rw[hq,List.cons_append] at l4'
  refine l4'.call1 (peek_ok E kAt _ 9) true rfl fun H5 l5=>?_
  refine fkI (fun _=>?_) (fun hh=>absurd hh (by decide))
  rw[←List.cons_append,←hq] at l5
  obtain⟨w1,w2,hw12,hw4⟩: ∃w1 w2,kvF rest++u::r=w1::w2∧w1.1≠4:=by
   cases rest with
   |nil=>exact⟨_,_,rfl,hu⟩
   |cons k2 rest2=>
    obtain⟨q2,hq2⟩:=hhead k2 (by rw[hl4];simp)
    exact⟨kAt,_,by rw[kvF_cons,hq2];rfl,by decide⟩
  rw[hw12] at l5
  refine l5.call (parseDirective_ok E k (by simpa using hK k hkm) (hf k hkm) w1 w2 hw4) fun y H6 l6 f6=>?_
  refine l6.push (b:=y) (m:=k) (by unfold plainT;decide) (fun _=>rfl) 8 (by decide) (by omega) f6 fun a c H7 l7=>?_
  rw[←hw12] at l7
  refine⟨⟨done++[k],rest,bs++[y],by rw[hl4];simp,l7⟩,?_⟩
  simp only[List.length_cons] at hll
  omega
def CloseOk (f:FuncId) (eT:TypeId) (xb:Nat) (X:List Nd) (G:Heap):Prop:= ∀(H:Heap) (tk c1 c2:Nat) (D:List Nd),TkAt G H tk D→D.length+X.length≤5000→
 H[c1]?=some (.cells #[.pointer (some ⟨tk,0,none⟩)] tq60)→H[c2]?=some (.cells #[.pointer (some ⟨xb,0,none⟩)] eT)→
 Fn PP f #[.pointer (some ⟨c1,0,none⟩),.pointer (some ⟨c2,0,none⟩)] H (Took G tk H D X)
structure ItemAt (fcl:FuncId) (eT:TypeId) (kd:Int) (ni:Nat) (b:Nat) (t:Tr) (G:Heap):Prop where
 cells: ∃(lb nb:Nat) (c:Array Value) (e:TypeId),LocAt lb G∧NameAt nb t.n.name G∧G[b]?=some (.cells c e)∧c[1]?=some (.pointer (some ⟨lb,0,none⟩))∧c[ni]?=some (.pointer (some ⟨nb,0,none⟩))
 close:CloseOk fcl eT b (flatL t.ks) G
 kind:t.n.kind=kd
 alias_:t.n.alias=eB
 text_:t.n.text=eB
 ws:Ws t
theorem loadC_ix {H:Heap} {b i:Nat} {c:Array Value} {e:TypeId} {fr:Nat×Nat} {v:Value} (hb:H[b]?=some (.cells c e fr)) (hi:c[i]?=some v):loadC H false 1 ⟨b,i,none⟩=some v:=by
 simp[loadC,cellAt,hb,hi]
def PutOk (fcl:FuncId):Prop:= ∀(t l:Nat) (x:Nd) (c1 c2:Nat) (H:Heap) (R:Value→Heap→Prop),putG.W fcl t l x c1 c2 H R→
 Fn PP fq67 #[.pointer (some ⟨t,0,none⟩),.pointer (some ⟨l,0,none⟩),.agg x.val,.func (.func fcl) #[] #[.pointer (some ⟨c1,0,none⟩),.pointer (some ⟨c2,0,none⟩)]] H R
def apartT (e:TypeId):Prop:=e≠tq63∧e≠tq41∧e≠tq65
def nodeW (fcl:FuncId) (kd:Int) (ni c1 c2:Nat) (H:Heap) (K:Heap→Prop):Prop:=
 loadW H false 1 ⟨c1,0,none⟩ pPtr fun(x10:Option Addr)=>
 loadW H false 1 ⟨c2,0,none⟩ pBlk fun(x11:Nat)=>
 loadW H false 1 ⟨x11,1,none⟩ pPtr fun(x12:Option Addr)=>
 loadW H false 1 ⟨c2,0,none⟩ pBlk fun(x13:Nat)=>
 loadW H false 1 ⟨x13,ni,none⟩ pPtr fun(x14:Option Addr)=>
 callW PP fq69 #[(.pointer x14)] H pStr fun(x15:ByteArray) H16=>
 loadC H16 false 1 ⟨x11,1,none⟩=some (.pointer x12)∧
 loadC H16 false 1 ⟨c2,0,none⟩=some (.pointer (some ⟨x11,0,none⟩))∧
 loadC H16 false 1 ⟨c1,0,none⟩=some (.pointer x10)∧
 callW PP fq67 #[(.pointer x10),(.pointer x12),(.agg #[(.int .i64 kd),(.string x15),(.string (bs [])),(.string (bs [])),(.int .i64 0),(.int .i64 0)]),(.func (.func fcl) #[] #[(.pointer (some ⟨c1,0,none⟩)),(.pointer (some ⟨c2,0,none⟩))])] H16 ⟨Unit,fun _=>(.tuple #[])⟩ fun(_:Unit) H18=>
 loadC H18 false 1 ⟨c2,0,none⟩=some (.pointer (some ⟨x13,0,none⟩))∧K H18
section
variable {G H:Heap} {tk b c1 c2 ni:Nat} {D:List Nd} {fcl:FuncId} {eT:TypeId} {kd:Int} {t:Tr}
theorem node_ok (hput:PutOk fcl) (hE:apartT eT) (hkd:kd≠15) (hI:ItemAt fcl eT kd ni b t G) (h:TkAt G H tk D) (hD:D.length+(flat t).length≤5000)
 (h1:H[c1]?=some (.cells #[.pointer (some ⟨tk,0,none⟩)] tq60)) (h2:H[c2]?=some (.cells #[.pointer (some ⟨b,0,none⟩)] eT)) {K:Heap→Prop}
 (hk: ∀(H':Heap) (Z:List Nd),KpT H H'→Sames Z (flat t)→TkAt G H' tk (D++Z)→K H'):nodeW fcl kd ni c1 c2 H K:=by
 obtain⟨⟨lb,nb,c,e,hl,⟨lb3,_,hnm⟩,hb,hi1,hi2⟩,hclose,hkind,hal,htx,hw⟩:=hI
 obtain⟨ls,le,lq,hl⟩:=hl
 have hfl:(flat t).length=1+(flatL t.ks).length:=by rw[flat_node];simp;omega
 have bx:=h.ext.get _ _ hb (by simp)
 unfold nodeW
 refine⟨_,lcO h1 rfl,_,lcO h2 rfl,_,loadC_ix bx hi1,_,lcO h2 rfl,_,loadC_ix bx hi2,?_⟩
 refine(text_ok nb t.n.name H (h.ext.get _ _ hnm (by simp))).mono ?_
 rintro _ _ ⟨rfl,rfl⟩
 refine⟨_,rfl,loadC_ix bx hi1,lcO h2 rfl,lcO h1 rfl,?_⟩
 refine(hput tk lb ⟨kd,t.n.name,eB,eB,0,0⟩ c1 c2 H _ (putG_ok fcl h (by omega) lb hl ⟨kd,t.n.name,eB,eB,0,0⟩ c1 c2 (P:=fun W=>Sames W (flatL t.ks)) fun H10 k10 t10=>?_)).mono ?_
 ·refine(hclose H10 tk c1 c2 _ t10 (by simp only[List.length_append,List.length_cons,List.length_nil];omega) (k10.get _ _ _ _ h1 (by decide) (by decide) (by decide)) (k10.get _ _ _ _ h2 hE.1 hE.2.1 hE.2.2)).mono ?_
  intro v' H11 hT
  exact hT.within (by omega)
 ·rintro _ H11 ⟨rfl,k11,W,hW,t11⟩
  refine⟨(),rfl,lcO (k11.get _ _ _ _ h2 hE.1 hE.2.1 hE.2.2) rfl,?_⟩
  exact hk H11 _ k11 (same_node hw hW ⟨kd,t.n.name,eB,eB,0,0⟩ hkind.symm rfl hal.symm htx.symm (by simpa using hkd)) t11
def itemW (fcl:FuncId) (eT:TypeId) (kd:Int) (ni t v:Nat) (H:Heap) (R:Value→Heap→Prop):Prop:=
 newB H (.cells #[(.pointer (some ⟨t,0,none⟩))] tq60) fun b1 H2=>
 newB H2 (.cells #[(.pointer none)] eT) fun b3 H4=>
 storeW H4 ⟨b3,0,none⟩ [(.pointer (some ⟨v,0,none⟩))] fun H5=>
 nodeW fcl kd ni b1 b3 H5 fun H18=>retK (some []) H18 R
theorem item_ok (hput:PutOk fcl) (hE:apartT eT) (hkd:kd≠15) (hI:ItemAt fcl eT kd ni b t G) (h:TkAt G H tk D) (hD:D.length+(flat t).length≤5000):itemW fcl eT kd ni tk b H (Took G tk H D (flat t)):=by
 unfold itemW
 refine caps h b eT fun b1 b3 H5 x5 t5 h1 h3=>?_
 refine node_ok hput hE hkd hI t5 hD h1 h3 fun H' Z k hZ ht=>?_
 exact rkI ⟨rfl,x5.kpT.trans k,Z,hZ,ht⟩
def SlK (G H:Heap) (tk:Nat) (x:Sl) (vs:List Value):Prop:= ∀(H':Heap) (D':List Nd),KpT H H'→TkAt G H' tk D'→SlAt x vs H'
end
theorem SlAt.slK {G H:Heap} {tk:Nat} {x:Sl} {vs:List Value} (h:SlAt x vs G):SlK G H tk x vs:=fun _ _ _ t=>h.keep t.ext
theorem Took.part {G H H':Heap} {tk:Nat} {D X:List Nd} {v:Value} (h:Took G tk H D X v H'):v= .tuple #[]∧ ∃Y,Sames Y X∧TkAt G H' tk (D++Y):=⟨h.1,h.2.2⟩
section
variable {G:Heap} {b lb nb:Nat} {t:Tr}
theorem item_spread {xs:Sl} {k0:Value} (hl:LocAt lb G) (hn:NameAt nb t.n.name G)
 (hb:G[b]?=some (.cells #[k0,.pointer (some ⟨lb,0,none⟩),.pointer (some ⟨nb,0,none⟩),.slice xs.1 xs.2.1 xs.2.2] tq197))
 (hs:TakeL fq65 xs (flatL t.ks) G) (hk:t.n.kind=7) (ha:t.n.alias=eB) (hx:t.n.text=eB) (hw:Ws t):ItemAt fq126 tq128 7 2 b t G:=by
 refine⟨⟨lb,nb,_,_,hl,hn,hb,rfl,rfl⟩,?_,hk,ha,hx,hw⟩
 intro H tk c1 c2 D ht hD h1 h2
 have bx:=ht.ext.get _ _ hb (by simp)
 refine inSel2.enter c1 c2 H _ ?_
 unfold inSel2.W
 refine⟨_,lcO h1 rfl,_,lcO h2 rfl,xs,lcO bx rfl,?_⟩
 refine(hs H tk _ ht hD).mono ?_
 intro v' H6 hT
 obtain rfl:=hT.unit
 exact⟨(),rfl,rkI hT⟩
structure VarDAt (b:Nat) (t:Tr) (G:Heap):Prop where
 cells: ∃(lb vb:Nat) (k0 ty va:Value),LocAt lb G∧VarAt vb t.n.name G∧G[b]?=some (.cells #[k0,.pointer (some ⟨lb,0,none⟩),.pointer (some ⟨vb,0,none⟩),ty,va] tq175)
 close:CloseOk fq117 tq93 b (flatL t.ks) G
 kind:t.n.kind=4
 alias_:t.n.alias=eB
 text_:t.n.text=eB
 ws:Ws t
theorem close_var {T v T2 v2:Nat} {ty va:Tr} {k0 k1 k2:Value} (hb:G[b]?=some (.cells #[k0,k1,k2,.iface T (.pointer (some ⟨v,0,none⟩)),.iface T2 (.pointer (some ⟨v2,0,none⟩))] tq175))
 (hT:TakeTy T v (flat ty) G) (hV:TakeV T2 v2 (flat va) G) (hks:t.ks=[ty,va]):CloseOk fq117 tq93 b (flatL t.ks) G:=by
 intro H tk c1 c2 D ht hD h1 h2
 have e:flatL t.ks=flat ty++flat va:=by rw[hks];simp[flatL]
 rw[e] at hD⊢
 rw[List.length_append] at hD
 have bx:=ht.ext.get _ _ hb (by simp)
 refine inVarD.enter c1 c2 H _ ?_
 unfold inVarD.W
 refine⟨_,lcO h1 rfl,_,lcO h2 rfl,_,lcO bx rfl,?_⟩
 refine(hT H tk D ht (by omega)).mono ?_
 rintro _ H6 ⟨rfl,k6,Z,hZ,t6⟩
 have p1:=k6.get _ _ _ _ h1 (by decide) (by decide) (by decide)
 have p2:=k6.get _ _ _ _ h2 (by decide) (by decide) (by decide)
 have bx6:=t6.ext.get _ _ hb (by simp)
 have hZl:=hZ.len
 refine⟨(),rfl,_,lcO p2 rfl,(T2,v2),lcO bx6 rfl,_,lcO p1 rfl,_,lcO p2 rfl,(T2,v2),lcO bx6 rfl,?_⟩
 refine(hV H6 tk _ t6 (by simp only[List.length_append];omega)).mono ?_
 intro v' H8 hT
 obtain rfl:=hT.unit
 exact⟨(),rfl,rkI (Took.seq k6 hZ hT)⟩
theorem close_var0 {T v:Nat} {ty:Tr} {k0 k1 k2:Value} (hb:G[b]?=some (.cells #[k0,k1,k2,.iface T (.pointer (some ⟨v,0,none⟩)),.nilIface] tq175))
 (hT:TakeTy T v (flat ty) G) (hks:t.ks=[ty]):CloseOk fq117 tq93 b (flatL t.ks) G:=by
 intro H tk c1 c2 D ht hD h1 h2
 rw[one_kid hks] at hD⊢
 have bx:=ht.ext.get _ _ hb (by simp)
 refine inVarD0.enter c1 c2 H _ ?_
 unfold inVarD0.W
 refine⟨_,lcO h1 rfl,_,lcO h2 rfl,_,lcO bx rfl,?_⟩
 refine(hT H tk D ht hD).mono ?_
 intro v' H6 hT
 have t6:=hT.2.2
 obtain rfl:=hT.unit
 obtain⟨_,k6,Z,hZ,t6⟩:=hT
 have p2:=k6.get _ _ _ _ h2 (by decide) (by decide) (by decide)
 have bx6:=t6.ext.get _ _ hb (by simp)
 exact⟨(),rfl,_,lcO p2 rfl,(),lcO bx6 rfl,rkI ⟨rfl,k6,Z,hZ,t6⟩⟩
theorem take_vars {H:Heap} {tk:Nat} {D:List Nd} {x:Sl} {bs:List Nat} {ts:List Tr} (hs:SlK G H tk x (bs.map ptV)) (hv:All2 (fun b k=>VarDAt b k G) bs ts)
 (h:TkAt G H tk D) (hD:D.length+(flatL ts).length≤5000):Fn PP fq63 #[.pointer (some ⟨tk,0,none⟩),.slice x.1 x.2.1 x.2.2] H (Took G tk H D (flatL ts)):=by
 obtain⟨a,n,c⟩:=x
 have hnl:n=ts.length:=by have:=(hs H D (KpT.refl H) h).1;simp at this;rw[this,hv.len]
 have hks:ts.length≤(flatL ts).length:=flatL_len ts
 refine variablesT.enter tk a n c H _ ?_
 unfold variablesT.W
 refine nbI fun H1 e1 hb1 x1 s1=>?_
 refine take_loop ts n hnl (by omega) (KpT.refl H1) (h.grow x1) (fun k kt H8 Y next hi k8 hY t8 hnext=>?_) (fun H8 Y k8 hY t8=>rkI ⟨rfl,x1.kpT.trans k8,Y,hY,t8⟩) (fun k H8 next=>rfl)
 obtain⟨xb,hxi,hI⟩:=hv.get k kt hi
 obtain⟨⟨lb,vb,k0,ty,va,⟨ls,le,lq,hl⟩,⟨lb2,nb,_,⟨lb3,_,hnm⟩,hvb⟩,hb⟩,hclose,hkind,hal,htx,hw⟩:=hI
 have hL:=(hs H8 _ (x1.kpT.trans k8) t8).load (i:=k) (v:=ptV xb) (by simp[hxi])
 have hlen:=flatL_take_le ts (k+1)
 rw[flatL_take_succ ts k kt hi,List.length_append] at hlen
 have hYl:=hY.len
 have hfl:(flat kt).length=1+(flatL kt.ks).length:=by rw[flat_node];simp;omega
 refine⟨hL.1,xb,hL.2,?_⟩
 refine cap1 t8 xb tq93 fun b9 H9 x9 t9 h9=>?_
 have k9:=k8.trans x9.kpT
 have q19:=k9.get _ _ _ _ hb1 (by decide) (by decide) (by decide)
 have bx9:=t9.ext.get _ _ hb (by simp)
 have vx9:=t9.ext.get _ _ hvb (by simp)
 refine⟨_,lcO h9 rfl,_,lcO bx9 rfl,_,lcO h9 rfl,_,lcO bx9 rfl,_,lcO vx9 rfl,?_⟩
 refine(text_ok nb kt.n.name H9 (t9.ext.get _ _ hnm (by simp))).mono ?_
 rintro _ _ ⟨rfl,rfl⟩
 refine⟨_,rfl,_,lcO q19 rfl,_,lcO h9 rfl,_,lcO bx9 rfl,?_⟩
 refine(putVarD.enter tk lb ⟨4,kt.n.name,eB,eB,0,0⟩ H.size b9 H9 _ (putG_ok fq117 t9 (by simp only[List.length_append];omega) lb hl ⟨4,kt.n.name,eB,eB,0,0⟩ H.size b9 (P:=fun W=>Sames W (flatL kt.ks)) fun H10 k10 t10=>?_)).mono ?_
 ·refine(hclose H10 tk H.size b9 _ t10 (by simp only[List.length_append,List.length_cons,List.length_nil];omega) (k10.get _ _ _ _ q19 (by decide) (by decide) (by decide)) (k10.get _ _ _ _ h9 (by decide) (by decide) (by decide))).mono ?_
  intro v' H11 hT
  exact hT.within (by omega)
 ·rintro _ H11 ⟨rfl,k11,W,hW,t11⟩
  refine⟨(),rfl,?_⟩
  rw[wrap1 (k:=k) (by have:=(List.getElem?_eq_some_iff.1 hi).1;omega)]
  exact hnext H11 _ (k9.trans k11) (same_node hw hW ⟨4,kt.n.name,eB,eB,0,0⟩ hkind.symm rfl hal.symm htx.symm (by simp)) t11
end
def wtP (p:Nd→Bool):KK→Nat
 |[]=>0
 |x::r=>(if p x.1=true then x.2.length+1 else 0)+wtP p r
def wtA:KK→Nat
 |[]=>0
 |x::r=>x.2.length+1+wtA r
abbrev pK (K:List Int):Nd→Bool:=fun n=>decide (n.kind∈K)
theorem sepK_len (s:Option KV): ∀kk:KK,(sepK s kk).length≤wtA kk
 |[]=>by simp[sepK]
 |[x]=>by simp[sepK,wtA]
 |x::y::r=>by
  have:=sepK_len s (y::r)
  have hs:(optK s).length≤1:=by cases s<;>simp[optK]
  simp only[sepK,List.length_append,wtA] at this⊢
  omega
theorem selK_wt (K:List Int): ∀kk:KK,wtA (selK K kk)=wtP (pK K) kk
 |[]=>rfl
 |x::r=>by
  have:=selK_wt K r
  unfold selK at this⊢
  rw[List.filter_cons]
  split
  ·rename_i h
   simp only[wtA,wtP,h,if_true,this]
  ·rename_i h
   simp only[wtP,h,this]
   simp
theorem kidsK_len (b e s:Option KV) (K:List Int) (kk:KK):(kidsK b e s K kk).length≤b.toList.length+e.toList.length+wtP (pK K) kk:=by
 rw[←selK_wt]
 unfold kidsK
 cases selK K kk with
 |nil=>simp
 |cons x r=>
  have:=sepK_len s (x::r)
  simp only[List.length_append,optK]
  omega
theorem firstK_len (b:Option KV) (p:Nd→Bool): ∀kk:KK,(firstK b p kk).length≤b.toList.length+wtP p kk
 |[]=>by simp[firstK]
 |x::r=>by
  have:=firstK_len b p r
  unfold firstK at this⊢
  rw[List.find?_cons]
  simp only[wtP]
  cases h:p x.1 with
  |true=>simp[optK];omega
  |false=>simp;exact this
theorem allK_len: ∀kk:KK,(allK kk).length≤wtA kk
 |[]=>by simp[allK]
 |x::r=>by
  have:=allK_len r
  unfold allK at this⊢
  rw[List.flatMap_cons,List.length_append]
  simp only[wtA]
  omega
def wtL (ps:List (Nd→Bool)) (kk:KK):Nat:=match ps with
 |[]=>0
 |p::r=>wtP p kk+wtL r kk
def cnt (ps:List (Nd→Bool)) (n:Nd):Nat:=match ps with
 |[]=>0
 |p::r=>(if p n=true then 1 else 0)+cnt r n
theorem wtL_cons (x:Nd×List KV) (kk:KK): ∀ps,wtL ps (x::kk)=cnt ps x.1*(x.2.length+1)+wtL ps kk
 |[]=>by simp[wtL,cnt]
 |p::r=>by
  simp only[wtL,cnt,wtL_cons x kk r,wtP]
  split<;>simp only[Nat.add_mul,Nat.one_mul,Nat.zero_mul]<;>omega
theorem wtL_le (ps:List (Nd→Bool)) (h: ∀n,cnt ps n≤1): ∀kk,wtL ps kk≤wtA kk
 |[]=>by
  have: ∀ps:List (Nd→Bool),wtL ps []=0:=by
   intro ps
   induction ps with
   |nil=>rfl
   |cons p r ih=>simp[wtL,wtP,ih]
  rw[this];exact Nat.zero_le _
 |x::r=>by
  have:=wtL_le ps h r
  rw[wtL_cons]
  have h1:=Nat.mul_le_mul_right (x.2.length+1) (h x.1)
  simp only[wtA]
  omega
theorem wt4 (p1 p2 p3 p4:Nd→Bool) (h: ∀n,cnt [p1,p2,p3,p4] n≤1) (kk:KK):wtP p1 kk+wtP p2 kk+wtP p3 kk+wtP p4 kk≤wtA kk:=by
 have:=wtL_le _ h kk
 simp only[wtL] at this
 omega
theorem len_n2 (kk:KK):(kidsK (some kPL) (some kPR) none [4] kk).length+(kidsK none none none [10] kk).length+(kidsK none none none [5] kk).length≤2+wtA kk:=by
 have d:=wt4 (pK [4]) (pK [10]) (pK [5]) (pK [100]) (by intro n;simp only[cnt,pK,List.mem_cons,List.not_mem_nil,or_false,decide_eq_true_eq];(repeat' split)<;>omega) kk
 have h0:=kidsK_len (some kPL) (some kPR) none [4] kk
 have h1:=kidsK_len none none none [10] kk
 have h2:=kidsK_len none none none [5] kk
 simp only[Option.toList,List.length_cons,List.length_nil] at h0 h1 h2
 omega
theorem len_n3 (kk:KK):(kidsK none none none [10] kk).length+(kidsK none none none [5] kk).length≤0+wtA kk:=by
 have d:=wt4 (pK [10]) (pK [5]) (pK [100]) (pK [101]) (by intro n;simp only[cnt,pK,List.mem_cons,List.not_mem_nil,or_false,decide_eq_true_eq];(repeat' split)<;>omega) kk
 have h0:=kidsK_len none none none [10] kk
 have h1:=kidsK_len none none none [5] kk
 simp only[Option.toList,List.length_nil] at h0 h1
 omega
theorem len_n4 (kk:KK):(firstK none isTypeM kk).length+(firstK (some kEq) isValueM kk).length≤1+wtA kk:=by
 have d:=wt4 isTypeM isValueM (pK [100]) (pK [101]) (by intro n;simp only[cnt,pK,isTypeM,isValueM,Bool.and_eq_true,List.mem_cons,List.not_mem_nil,or_false,decide_eq_true_eq];(repeat' split)<;>omega) kk
 have h0:=firstK_len none isTypeM kk
 have h1:=firstK_len (some kEq) isValueM kk
 simp only[Option.toList,List.length_cons,List.length_nil] at h0 h1
 omega
theorem len_n5 (kk:KK):(kidsK (some kBL) (some kBR) none [6,7,8] kk).length≤2+wtA kk:=by
 have d:=wt4 (pK [6,7,8]) (pK [100]) (pK [101]) (pK [102]) (by intro n;simp only[cnt,pK,List.mem_cons,List.not_mem_nil,or_false,decide_eq_true_eq];(repeat' split)<;>omega) kk
 have h0:=kidsK_len (some kBL) (some kBR) none [6,7,8] kk
 simp only[Option.toList,List.length_cons,List.length_nil] at h0
 omega
theorem len_n6 (kk:KK):(kidsK (some kPL) (some kPR) none [9] kk).length+(kidsK none none none [10] kk).length+(kidsK none none none [5] kk).length≤2+wtA kk:=by
 have d:=wt4 (pK [9]) (pK [10]) (pK [5]) (pK [100]) (by intro n;simp only[cnt,pK,List.mem_cons,List.not_mem_nil,or_false,decide_eq_true_eq];(repeat' split)<;>omega) kk
 have h0:=kidsK_len (some kPL) (some kPR) none [9] kk
 have h1:=kidsK_len none none none [10] kk
 have h2:=kidsK_len none none none [5] kk
 simp only[Option.toList,List.length_cons,List.length_nil] at h0 h1 h2
 omega
theorem len_n7 (kk:KK):(kidsK none none none [10] kk).length≤0+wtA kk:=by
 have d:=wt4 (pK [10]) (pK [100]) (pK [101]) (pK [102]) (by intro n;simp only[cnt,pK,List.mem_cons,List.not_mem_nil,or_false,decide_eq_true_eq];(repeat' split)<;>omega) kk
 have h0:=kidsK_len none none none [10] kk
 simp only[Option.toList,List.length_nil] at h0
 omega
theorem len_n8 (kk:KK):(kidsK none none none [10] kk).length+(kidsK none none none [5] kk).length≤0+wtA kk:=by
 have d:=wt4 (pK [10]) (pK [5]) (pK [100]) (pK [101]) (by intro n;simp only[cnt,pK,List.mem_cons,List.not_mem_nil,or_false,decide_eq_true_eq];(repeat' split)<;>omega) kk
 have h0:=kidsK_len none none none [10] kk
 have h1:=kidsK_len none none none [5] kk
 simp only[Option.toList,List.length_nil] at h0 h1
 omega
theorem len_n9 (kk:KK):(firstK none isValueM kk).length≤0+wtA kk:=by
 have d:=wt4 isValueM (pK [100]) (pK [101]) (pK [102]) (by intro n;simp only[cnt,pK,isValueM,Bool.and_eq_true,List.mem_cons,List.not_mem_nil,or_false,decide_eq_true_eq];(repeat' split)<;>omega) kk
 have h0:=firstK_len none isValueM kk
 simp only[Option.toList,List.length_nil] at h0
 omega
theorem len_n10 (kk:KK):(kidsK (some kPL) (some kPR) none [9] kk).length≤2+wtA kk:=by
 have d:=wt4 (pK [9]) (pK [100]) (pK [101]) (pK [102]) (by intro n;simp only[cnt,pK,List.mem_cons,List.not_mem_nil,or_false,decide_eq_true_eq];(repeat' split)<;>omega) kk
 have h0:=kidsK_len (some kPL) (some kPR) none [9] kk
 simp only[Option.toList,List.length_cons,List.length_nil] at h0
 omega
theorem len_n24 (kk:KK):(kidsK none none none [23] kk).length+(kidsK none none none [10] kk).length+(kidsK (some kBL) (some kBR) none [25] kk).length≤2+wtA kk:=by
 have d:=wt4 (pK [23]) (pK [10]) (pK [25]) (pK [100]) (by intro n;simp only[cnt,pK,List.mem_cons,List.not_mem_nil,or_false,decide_eq_true_eq];(repeat' split)<;>omega) kk
 have h0:=kidsK_len none none none [23] kk
 have h1:=kidsK_len none none none [10] kk
 have h2:=kidsK_len (some kBL) (some kBR) none [25] kk
 simp only[Option.toList,List.length_cons,List.length_nil] at h0 h1 h2
 omega
theorem len_n25 (kk:KK):(kidsK none none none [23] kk).length≤0+wtA kk:=by
 have d:=wt4 (pK [23]) (pK [100]) (pK [101]) (pK [102]) (by intro n;simp only[cnt,pK,List.mem_cons,List.not_mem_nil,or_false,decide_eq_true_eq];(repeat' split)<;>omega) kk
 have h0:=kidsK_len none none none [23] kk
 simp only[Option.toList,List.length_nil] at h0
 omega
theorem len_n26 (kk:KK):(kidsK none none none [23] kk).length+(kidsK none none none [10] kk).length≤0+wtA kk:=by
 have d:=wt4 (pK [23]) (pK [10]) (pK [100]) (pK [101]) (by intro n;simp only[cnt,pK,List.mem_cons,List.not_mem_nil,or_false,decide_eq_true_eq];(repeat' split)<;>omega) kk
 have h0:=kidsK_len none none none [23] kk
 have h1:=kidsK_len none none none [10] kk
 simp only[Option.toList,List.length_nil] at h0 h1
 omega
theorem len_n27 (kk:KK):(kidsK none none none [23] kk).length+(kidsK (some (nmK wImplements)) none (some kAmp) [28] kk).length+(kidsK none none none [10] kk).length+(kidsK (some kBL) (some kBR) none [29] kk).length≤3+wtA kk:=by
 have d:=wt4 (pK [23]) (pK [28]) (pK [10]) (pK [29]) (by intro n;simp only[cnt,pK,List.mem_cons,List.not_mem_nil,or_false,decide_eq_true_eq];(repeat' split)<;>omega) kk
 have h0:=kidsK_len none none none [23] kk
 have h1:=kidsK_len (some (nmK wImplements)) none (some kAmp) [28] kk
 have h2:=kidsK_len none none none [10] kk
 have h3:=kidsK_len (some kBL) (some kBR) none [29] kk
 simp only[Option.toList,List.length_cons,List.length_nil] at h0 h1 h2 h3
 omega
theorem len_n31 (kk:KK):(kidsK none none none [23] kk).length+(kidsK none none none [10] kk).length+(kidsK (some kBL) (some kBR) none [29] kk).length≤2+wtA kk:=by
 have d:=wt4 (pK [23]) (pK [10]) (pK [29]) (pK [100]) (by intro n;simp only[cnt,pK,List.mem_cons,List.not_mem_nil,or_false,decide_eq_true_eq];(repeat' split)<;>omega) kk
 have h0:=kidsK_len none none none [23] kk
 have h1:=kidsK_len none none none [10] kk
 have h2:=kidsK_len (some kBL) (some kBR) none [29] kk
 simp only[Option.toList,List.length_cons,List.length_nil] at h0 h1 h2
 omega
theorem len_n29 (kk:KK):(kidsK none none none [23] kk).length+(kidsK (some kPL) (some kPR) none [30] kk).length+(firstK (some kCol) isTypeM kk).length+(kidsK none none none [10] kk).length≤3+wtA kk:=by
 have d:=wt4 (pK [23]) (pK [30]) isTypeM (pK [10]) (by intro n;simp only[cnt,pK,isTypeM,Bool.and_eq_true,List.mem_cons,List.not_mem_nil,or_false,decide_eq_true_eq];(repeat' split)<;>omega) kk
 have h0:=kidsK_len none none none [23] kk
 have h1:=kidsK_len (some kPL) (some kPR) none [30] kk
 have h2:=firstK_len (some kCol) isTypeM kk
 have h3:=kidsK_len none none none [10] kk
 simp only[Option.toList,List.length_cons,List.length_nil] at h0 h1 h2 h3
 omega
theorem len_n30 (kk:KK):(kidsK none none none [23] kk).length+(firstK (some kCol) isTypeM kk).length+(firstK (some kEq) isValueM kk).length+(kidsK none none none [10] kk).length≤2+wtA kk:=by
 have d:=wt4 (pK [23]) isTypeM isValueM (pK [10]) (by intro n;simp only[cnt,pK,isTypeM,isValueM,Bool.and_eq_true,List.mem_cons,List.not_mem_nil,or_false,decide_eq_true_eq];(repeat' split)<;>omega) kk
 have h0:=kidsK_len none none none [23] kk
 have h1:=firstK_len (some kCol) isTypeM kk
 have h2:=firstK_len (some kEq) isValueM kk
 have h3:=kidsK_len none none none [10] kk
 simp only[Option.toList,List.length_cons,List.length_nil] at h0 h1 h2 h3
 omega
theorem len_n32 (kk:KK):(kidsK none none none [23] kk).length+(kidsK none none none [10] kk).length+(kidsK (some kEq) none (some kPipe) [33] kk).length≤1+wtA kk:=by
 have d:=wt4 (pK [23]) (pK [10]) (pK [33]) (pK [100]) (by intro n;simp only[cnt,pK,List.mem_cons,List.not_mem_nil,or_false,decide_eq_true_eq];(repeat' split)<;>omega) kk
 have h0:=kidsK_len none none none [23] kk
 have h1:=kidsK_len none none none [10] kk
 have h2:=kidsK_len (some kEq) none (some kPipe) [33] kk
 simp only[Option.toList,List.length_cons,List.length_nil] at h0 h1 h2
 omega
theorem len_n34 (kk:KK):(kidsK none none none [23] kk).length+(kidsK none none none [10] kk).length+(kidsK (some kBL) (some kBR) none [35] kk).length≤2+wtA kk:=by
 have d:=wt4 (pK [23]) (pK [10]) (pK [35]) (pK [100]) (by intro n;simp only[cnt,pK,List.mem_cons,List.not_mem_nil,or_false,decide_eq_true_eq];(repeat' split)<;>omega) kk
 have h0:=kidsK_len none none none [23] kk
 have h1:=kidsK_len none none none [10] kk
 have h2:=kidsK_len (some kBL) (some kBR) none [35] kk
 simp only[Option.toList,List.length_cons,List.length_nil] at h0 h1 h2
 omega
theorem len_n36 (kk:KK):(kidsK none none none [23] kk).length+(kidsK none none none [10] kk).length+(kidsK (some kBL) (some kBR) none [30] kk).length≤2+wtA kk:=by
 have d:=wt4 (pK [23]) (pK [10]) (pK [30]) (pK [100]) (by intro n;simp only[cnt,pK,List.mem_cons,List.not_mem_nil,or_false,decide_eq_true_eq];(repeat' split)<;>omega) kk
 have h0:=kidsK_len none none none [23] kk
 have h1:=kidsK_len none none none [10] kk
 have h2:=kidsK_len (some kBL) (some kBR) none [30] kk
 simp only[Option.toList,List.length_cons,List.length_nil] at h0 h1 h2
 omega
theorem len_n37 (kk:KK):(kidsK none none none [23] kk).length+(kidsK (some kPL) (some kPR) none [30] kk).length+(kidsK (some (nmK onB)) none (some kPipe) [38] kk).length≤3+wtA kk:=by
 have d:=wt4 (pK [23]) (pK [30]) (pK [38]) (pK [100]) (by intro n;simp only[cnt,pK,List.mem_cons,List.not_mem_nil,or_false,decide_eq_true_eq];(repeat' split)<;>omega) kk
 have h0:=kidsK_len none none none [23] kk
 have h1:=kidsK_len (some kPL) (some kPR) none [30] kk
 have h2:=kidsK_len (some (nmK onB)) none (some kPipe) [38] kk
 simp only[Option.toList,List.length_cons,List.length_nil] at h0 h1 h2
 omega
theorem body_len (n:Nd) (kk:KK) (h39:n.kind=39→kidsK none none none [23] kk=[]):(bodyK n kk).length≤6+wtA kk:=by
 have ha:=allK_len kk
 have ho1:(if n.flag=0 then[nmK n.text]++(if n.name=eB then[] else[nmK n.name]) else[]).length≤2:=by
  split
  ·split<;>simp
  ·simp
 have ho2:(if n.alias=eB then[] else[nmK n.alias,kCol]).length≤2:=by split<;>simp
 have ho3:(if n.text=eB then[] else[nmK onB,nmK n.text]).length≤2:=by split<;>simp
 unfold bodyK
 by_cases hk:n.kind=1
 ·rw[if_pos hk]
  simp only[List.length_append,List.length_nil];omega
 rw[if_neg hk];clear hk
 by_cases hk:n.kind=2
 ·rw[if_pos hk]
  have:=len_n2 kk
  simp only[List.length_append,dirsK,selsK,List.length_nil];omega
 rw[if_neg hk];clear hk
 by_cases hk:n.kind=3
 ·rw[if_pos hk]
  have:=len_n3 kk
  simp only[List.length_append,dirsK,selsK,List.length_nil,List.length_cons];omega
 rw[if_neg hk];clear hk
 by_cases hk:n.kind=4
 ·rw[if_pos hk]
  have:=len_n4 kk
  simp only[List.length_append,List.length_nil,List.length_cons];omega
 rw[if_neg hk];clear hk
 by_cases hk:n.kind=5
 ·rw[if_pos hk]
  have:=len_n5 kk
  simp only[List.length_append,List.length_nil];omega
 rw[if_neg hk];clear hk
 by_cases hk:n.kind=6
 ·rw[if_pos hk]
  have:=len_n6 kk
  simp only[List.length_append,dirsK,selsK,List.length_nil,List.length_cons];omega
 rw[if_neg hk];clear hk
 by_cases hk:n.kind=7
 ·rw[if_pos hk]
  have:=len_n7 kk
  simp only[List.length_append,dirsK,List.length_nil,List.length_cons];omega
 rw[if_neg hk];clear hk
 by_cases hk:n.kind=8
 ·rw[if_pos hk]
  have:=len_n8 kk
  simp only[List.length_append,dirsK,selsK,List.length_nil,List.length_cons];omega
 rw[if_neg hk];clear hk
 by_cases hk:n.kind=9∨n.kind=19
 ·rw[if_pos hk]
  have:=len_n9 kk
  simp only[List.length_append,List.length_nil,List.length_cons];omega
 rw[if_neg hk];clear hk
 by_cases hk:n.kind=10
 ·rw[if_pos hk]
  have:=len_n10 kk
  simp only[List.length_append,List.length_nil,List.length_cons];omega
 rw[if_neg hk];clear hk
 clear ho1 ho2 ho3
 unfold restK
 by_cases hk:n.kind=11
 ·rw[if_pos hk]
  simp only[List.length_append,List.length_nil,List.length_cons];omega
 rw[if_neg hk];clear hk
 by_cases hk:n.kind=12∨n.kind=13
 ·rw[if_pos hk]
  simp only[List.length_append,List.length_nil,List.length_cons];omega
 rw[if_neg hk];clear hk
 by_cases hk:n.kind=14∨n.kind=23
 ·rw[if_pos hk]
  simp only[List.length_append,List.length_nil,List.length_cons];omega
 rw[if_neg hk];clear hk
 by_cases hk:n.kind=15
 ·rw[if_pos hk]
  simp only[List.length_append,List.length_nil,List.length_cons];omega
 rw[if_neg hk];clear hk
 by_cases hk:n.kind=17
 ·rw[if_pos hk]
  simp only[List.length_append,List.length_nil,List.length_cons];omega
 rw[if_neg hk];clear hk
 by_cases hk:n.kind=18
 ·rw[if_pos hk]
  simp only[List.length_append,List.length_nil,List.length_cons];omega
 rw[if_neg hk];clear hk
 by_cases hk:n.kind=21
 ·rw[if_pos hk]
  simp only[List.length_append,List.length_nil,List.length_cons];omega
 rw[if_neg hk];clear hk
 by_cases hk:n.kind=22
 ·rw[if_pos hk]
  simp only[List.length_append,List.length_nil,List.length_cons];omega
 rw[if_neg hk];clear hk
 by_cases hk:n.kind=16∨n.kind=20∨n.kind=28∨n.kind=33∨n.kind=38
 ·rw[if_pos hk]
  simp only[List.length_append,List.length_nil,List.length_cons];omega
 rw[if_neg hk];clear hk
 unfold defK
 rw[List.length_append]
 by_cases hk:n.kind=24
 ·rw[if_pos hk]
  have:=len_n24 kk
  simp only[List.length_append,dirsK,List.length_nil,List.length_cons];omega
 rw[if_neg hk];clear hk
 by_cases hk:n.kind=25
 ·rw[if_pos hk]
  have:=len_n25 kk
  simp only[List.length_append,List.length_nil,List.length_cons];omega
 rw[if_neg hk];clear hk
 by_cases hk:n.kind=26
 ·rw[if_pos hk]
  have:=len_n26 kk
  simp only[List.length_append,dirsK,List.length_nil,List.length_cons];omega
 rw[if_neg hk];clear hk
 by_cases hk:n.kind=27
 ·rw[if_pos hk]
  have:=len_n27 kk
  simp only[List.length_append,dirsK,List.length_nil,List.length_cons];omega
 rw[if_neg hk];clear hk
 by_cases hk:n.kind=31
 ·rw[if_pos hk]
  have:=len_n31 kk
  simp only[List.length_append,dirsK,List.length_nil,List.length_cons];omega
 rw[if_neg hk];clear hk
 by_cases hk:n.kind=29
 ·rw[if_pos hk]
  have:=len_n29 kk
  simp only[List.length_append,dirsK,List.length_nil,List.length_cons];omega
 rw[if_neg hk];clear hk
 by_cases hk:n.kind=30
 ·rw[if_pos hk]
  have:=len_n30 kk
  simp only[List.length_append,dirsK,List.length_nil,List.length_cons];omega
 rw[if_neg hk];clear hk
 by_cases hk:n.kind=32
 ·rw[if_pos hk]
  have:=len_n32 kk
  simp only[List.length_append,dirsK,List.length_nil,List.length_cons];omega
 rw[if_neg hk];clear hk
 by_cases hk:n.kind=34
 ·rw[if_pos hk]
  have:=len_n34 kk
  simp only[List.length_append,dirsK,List.length_nil,List.length_cons];omega
 rw[if_neg hk];clear hk
 by_cases hk:n.kind=35
 ·rw[if_pos hk]
  have:=len_n26 kk
  simp only[List.length_append,dirsK,List.length_nil,List.length_cons];omega
 rw[if_neg hk];clear hk
 by_cases hk:n.kind=36
 ·rw[if_pos hk]
  have:=len_n36 kk
  simp only[List.length_append,dirsK,List.length_nil,List.length_cons];omega
 rw[if_neg hk];clear hk
 by_cases hk:n.kind=37
 ·rw[if_pos hk]
  have:=len_n37 kk
  simp only[List.length_append,List.length_nil,List.length_cons];omega
 rw[if_neg hk];clear hk
 have:=len_n25 kk
 by_cases hk:n.kind=39
 ·rw[if_pos hk]
  rw[h39 hk]
  simp only[List.length_append,List.length_nil,List.length_cons];omega
 rw[if_neg hk]
 simp only[List.length_nil];omega
theorem kvs_len (t:Tr) (hg:Good t):(kvs t).length+1≤8*(flat t).length:=by
 have hk: ∀l:List Tr,(∀k∈l,k∈t.ks)→wtA (kvL l)≤8*(flatL l).length:=by
  intro l
  induction l with
  |nil=>intro _;simp[kvL,wtA]
  |cons k r ih=>
   intro h
   have hkm:=h k (by simp)
   have h1:=ih fun x hx=>h x (by simp[hx])
   have h2:=kvs_len k (hg.kid hkm)
   rw[flatL_cons,List.length_append]
   simp only[kvL,wtA]
   omega
 have h1:=hk t.ks fun _ h=>h
 have h2:=body_len t.n (kvL t.ks) (fun h39=>by
  obtain⟨ob,h1,h2⟩: ∃ob,t.ks=[ob]∧ob.n.kind=27:=by
   cases hg.self.2 with
   |extend ob _ h1 h2 _=>exact⟨ob,h1,h2⟩
   |_=>omega
  rw[h1]
  simp[kidsK,selK,kvL,h2])
 rw[kvs_eq,flat_node,List.length_cons]
 omega
 termination_by SizeOf.sizeOf t
 decreasing_by
 cases t with|node n ks=>
 have:=List.sizeOf_lt_of_mem hkm
 simp only[Tr.ks] at this
 simp;omega
theorem kind_of (kind step:Int) (nm:ByteArray) (hname: ∀H,Fn PP fq33 #[.int .i64 step] H fun v H'=>v= .string nm∧H=H') (hne:nm≠eB)
 (hst: ∀t:Tr,Fine t→t.n.kind=kind→kvs t≠ []∧StepOk nm step (kvs t) (flat t)):KindOk kind step nm where
 name:=hname
 ne:=hne
 ok:=by
  intro t hg hw hk hl hb
  have hs:SmallT t:=fun u hu=>hb u.n (by rw[flat_pre,List.mem_map];exact⟨u,hu,rfl⟩)
  obtain⟨h1,h2⟩:=(toks_kvs t hg hs).toks
  obtain⟨h3,h4⟩:=hst t ⟨hg,hw,hl⟩ hk
  have:=kvs_len t hg
  exact⟨kvs t,h1,h3,by omega,h2,h4⟩
theorem step_one {E:PEnv} {u:KV} {l:List KV} {f:FuncId} {kind:Int} {X:List Nd} {H:Heap} {α:Type} {val:α→Value} {ofA:α→Nat×Nat} (ps:PS E H l)
 (hf:POk E f #[.pointer (some ⟨E.p,0,none⟩)] l [u] val fun x G=>TakeOk kind (ofA x).1 (ofA x).2 X G):
 callW PP f #[.pointer (some ⟨E.p,0,none⟩)] H ⟨α,val⟩ fun(x1:α) H2=>
  callW PP fq87 #[.iface (ofA x1).1 (.pointer (some ⟨(ofA x1).2,0,none⟩)),.nilIface] H2 ⟨Sl,fun x=>(.tuple #[(.slice x.1 x.2.1 x.2.2),.nilIface])⟩ fun(x3:Sl) H4=>
  retK (some [(.slice x3.1 x3.2.1 x3.2.2),.nilIface]) H4 fun v H'=> ∃x:Sl,v= .tuple #[.slice x.1 x.2.1 x.2.2,.nilIface]∧
   Cx E H H' [u] fun G=>x.2.1=1∧ ∃g T b:Nat,x.1=some ⟨g,0,none⟩∧G[g]?=some (.cells #[.iface T (.pointer (some ⟨b,0,none⟩))] tq20)∧TakeOk kind T b X G:=by
 refine(Cx.start ps).call (p:=⟨α,val⟩) hf fun b H1 _ c1=>?_
 refine c1.call (p:=⟨Sl,fun x=> .tuple #[.slice x.1 x.2.1 x.2.2,.nilIface]⟩) (alone_ok E [u] _ _) fun x H2 _ c2=>?_
 refine rkI ⟨x,rfl,c2.weak fun G hG=>?_⟩
 obtain⟨⟨_,hO⟩,h1,g,h2,h3⟩:=hG
 exact⟨h1,g,_,_,h2,h3,hO⟩
theorem EndT.no {u:KV} (h:EndT u) {k:Int} (h1:k≠14) (h2:k≠1):u.1≠k:=by
 rcases h with h|h<;>omega
theorem fine_take {X:List Nd} (h:X.length≤400) {D:List Nd} (hD:D.length≤1000):D.length+X.length≤5000:=by omega
theorem POk.imp {E:PEnv} {f:FuncId} {args:Array Value} {l l':List KV} {α:Type} {val:α→Value} {Q R:α→Heap→Prop} (h:POk E f args l l' val Q) (hi: ∀x G,Q x G→R x G):POk E f args l l' val R:=by
 intro H ps
 refine(h H ps).mono ?_
 rintro _ H' ⟨x,rfl,c⟩
 exact⟨x,rfl,c.weak fun G hG=>hi x G hG⟩
theorem one_or_none {l:List Tr} (h:l.length≤1):l=[]∨ ∃d,l=[d]:=by
 cases l with
 |nil=>exact .inl rfl
 |cons a r=>cases r with
  |nil=>exact .inr ⟨a,rfl⟩
  |cons b r=>simp at h
theorem selK_no {K:List Int} {l:List Tr} (h: ∀x∈l,x.n.kind∉K):selK K (kvL l)=[]:=by
 induction l with
 |nil=>rfl
 |cons x r ih=>
  have h1:=ih fun y hy=>h y (by simp[hy])
  unfold selK at*
  simp only[kvL]
  rw[List.filter_cons,if_neg (by simpa using h x (by simp)),h1]
theorem selK_app (K:List Int) (a b:List Tr):selK K (kvL (a++b))=selK K (kvL a)++selK K (kvL b):=by rw[kvL_append,selK_append]
theorem typ_kind {n:Nd} (h:isTypeM n=true):20≤n.kind∧n.kind≤22:=by simpa [isTypeM] using h
theorem val_kind {n:Nd} (h:isValueM n=true):11≤n.kind∧n.kind≤18:=by simpa [isValueM] using h
theorem kind_of_in {a:Int} {l:List Tr} (h:InK [a] l): ∀x∈l,x.n.kind=a:=fun x hx=>by simpa using h x hx
section
variable {E:PEnv} {t:Tr} {de ds ar:List Tr} {ty:Tr}
theorem kvs_var {vs:List Tr} (hk:t.n.kind=4) (hks:t.ks=ty::vs) (hty:isTypeM ty.n=true) (hvs: ∀v∈vs,isValueM v.n=true) (h1:vs.length≤1):
 kvs t=kDol::nmK t.n.name::kCol::(kvs ty++brK (some kEq) none vs):=by
 have hT:=typ_kind hty
 have hTv:isValueM ty.n=false:=by
  cases hh:isValueM ty.n with
  |false=>rfl
  |true=>have:=val_kind hh;omega
 have e4:firstK none isTypeM (kvL (ty::vs))=kvs ty:=by
  have:=firstK_some (b:=none) (r:=vs) hty (l:=[]) (by simp)
  simpa [optK] using this
 have e5:firstK (some kEq) isValueM (kvL (ty::vs))=brK (some kEq) none vs:=by
  rcases one_or_none h1 with rfl|⟨v,rfl⟩
  ·rw[brK_nil]
   exact firstK_none fun x hx=>by simp at hx;rw[hx];exact hTv
  ·have:=firstK_some (b:=some kEq) (r:=[]) (hvs v (by simp)) (l:=[ty]) (by simpa using hTv)
   simpa [brK,optK,kvF] using this
 rw[kvs_eq,hks];simp[bodyK,hk,e4,e5]
end
abbrev slP:Pat:=⟨Sl,fun x=> .tuple #[.slice x.1 x.2.1 x.2.2,.nilIface]⟩
theorem kids_fine {t:Tr} (h:Fine t): ∀k∈t.ks,Fine k:=fun _ hk=>h.kid hk
def NoT (u:KV):Prop:=u.1≠4∧u.1≠9∧u.1≠2∧u.1≠8
theorem dirs_head {ds:List Tr} (hds:InK [10] ds) (hf: ∀t∈ds,Fine t) {u:KV} (r:List KV) {P:Int→Prop} (hu:P u.1) (h9:P 9): ∃w1 w2,kvF ds++u::r=w1::w2∧P w1.1:=by
 cases ds with
 |nil=>exact⟨u,r,rfl,hu⟩
 |cons d ds=>
  have hk:=kind_of_in hds d (by simp)
  rw[kvF_cons,kvs_dir hk (dir_kids (hf d (by simp)).1 hk)]
  exact⟨kAt,_,rfl,h9⟩
theorem parseVariableDefinition_ok (E:PEnv) (t:Tr) (hk:t.n.kind=4) (hf:Fine t) (u:KV) (r:List KV) (hu:NoT u):
 POk E fq111 #[.pointer (some ⟨E.p,0,none⟩)] (kvs t++u::r) (u::r) (ifP tq93) fun b G=>VarDAt b t G:=by
 intro H ps
 obtain⟨vs,ty,hks,hty,hvs,hv1,hfx⟩: ∃(vs:List Tr) (ty:Tr),t.ks=ty::vs∧isTypeM ty.n=true∧(∀v∈vs,isValueM v.n=true)∧vs.length≤1∧(vs≠ []→Fixed t):=by
  cases hf.1.self.2 with
  |variable1 ty _ h1 h2=>exact⟨[],ty,h1,h2,by simp,by simp,fun h=>absurd rfl h⟩
  |variable2 ty v _ h1 h2 h3 h4=>exact⟨[v],ty,h1,h2,by simpa using h3,by simp,fun _=>h4⟩
  |_=>omega
 have hkf:=kids_fine hf
 rw[hks] at hkf
 have hal:=formed_alias hf.1.self.1 (by omega)
 have htx:=body_notext hf.1.self.1.2 (n:=t.n) (by omega)
 rw[kvs_var hk hks hty hvs hv1] at ps
 simp only[List.append_assoc,List.cons_append] at ps
 refine parseVariableDefinition.enter _ H _ ?_
 unfold parseVariableDefinition.W
 obtain⟨st,hst,_⟩:=ps.start
 refine⟨_,hst,?_⟩
 refine(Cx.start ps).call (parseVariable_ok E t.n.name _ _) fun vb H1 _ c1=>?_
 obtain⟨w2,w3,hw2,hw22⟩: ∃w2 w3,brK (some kEq) none vs++u::r=w2::w3∧w2.1≠2:=by
  rcases one_or_none hv1 with rfl|⟨v,rfl⟩
  ·rw[brK_nil,List.nil_append];exact⟨u,r,rfl,hu.2.2.1⟩
  ·exact⟨kEq,_,by simp[brK,optK,kvF];rfl,by decide⟩
 obtain⟨v1,v2,hv12⟩:=app_ne (kvs ty) w2 w3
 rw[hw2,hv12] at c1
 refine c1.call (expect_ok E kCol v1 v2 7 rfl) fun _ H3 _ c3=>?_
 rw[←hv12] at c3
 refine c3.call (p:=N2p) ((hkf ty (by simp)).typ E hty w2 w3 hw22) fun xt H4 _ c4=>?_
 rw[←hw2] at c4
 rcases one_or_none hv1 with rfl|⟨v,rfl⟩
 ·rw[brK_nil,List.nil_append] at c4
  refine c4.call1 (skip_no E u r 8 hu.2.2.2) false rfl fun H5 _ c5=>?_
  refine fkI (fun hh=>absurd hh (by decide)) (fun _=>?_)
  refine c5.call (loc_ok E _ _) fun lb H7 _ c7=>?_
  refine c7.node (NewVariableDefinition_mk _ _ _ _) fun b H8 _ c8=>?_
  refine rkI ⟨b,rfl,c8.weak fun G hG=>?_⟩
  obtain⟨⟨⟨⟨⟨_,hV⟩,_⟩,hT⟩,hl⟩,hb⟩:=hG
  exact⟨⟨lb,vb,_,_,_,hl,hV,hb⟩,close_var0 hb hT hks,hk,hal,htx,hf.2.1⟩
 ·have e:brK (some kEq) none [v]++u::r=kEq::(kvs v++u::r):=by simp[brK,optK,kvF]
  rw[e] at c4
  obtain⟨z1,z2,hz12⟩:=app_ne (kvs v) u r
  rw[hz12] at c4
  refine c4.call1 (skip_yes E kEq z1 z2 8 rfl) true rfl fun H5 _ c5=>?_
  refine fkI (fun _=>?_) (fun hh=>absurd hh (by decide))
  rw[←hz12] at c5
  refine c5.call (p:=N2p) ((hkf v (by simp)).val E true (hvs v (by simp)) (fun _=>(hfx (by simp)).kid (by rw[hks];simp)) u r) fun xv H6 _ c6=>?_
  refine c6.call (loc_ok E _ _) fun lb H7 _ c7=>?_
  refine c7.node (NewVariableDefinition_mk _ _ _ _) fun b H8 _ c8=>?_
  refine rkI ⟨b,rfl,c8.weak fun G hG=>?_⟩
  obtain⟨⟨⟨⟨⟨⟨_,hV⟩,_⟩,hT⟩,hV2⟩,hl⟩,hb⟩:=hG
  exact⟨⟨lb,vb,_,_,_,hl,hV,hb⟩,close_var hb hT hV2.1 hks,hk,hal,htx,hf.2.1⟩
abbrev sSpread:ByteArray:=bs [115,112,114,101,97,100]
theorem partName_7 (H:Heap):Fn PP fq33 #[.int .i64 7] H fun v H'=>v= .string sSpread∧H=H':=by
 refine partName.enter 7 H _ ?_
 unfold partName.W
 repeat refine fkI (fun hh=>absurd hh (by decide)) (fun _=>?_)
 refine fkI (fun _=>rkI ⟨rfl,rfl⟩) (fun hh=>absurd hh (by decide))
section
variable {b:Nat} {t:Tr} {G:Heap}
end
theorem spread_name {t:Tr} (hf:Fine t) (hk:t.n.kind=7):t.n.name≠onB∧InK [10] t.ks:=by
 obtain⟨h1,h2⟩:=hf.1.self
 refine⟨?_,?_⟩
 ·cases h1.2<;>first|assumption|(exfalso;omega)
 ·cases h2 with
  |spread _ h=>exact h
  |_=>omega
theorem kvs_spread {t:Tr} (hk:t.n.kind=7) (hds:InK [10] t.ks):kvs t=kDots::nmK t.n.name::kvF t.ks:=by
 have e2:dirsK (kvL t.ks)=kvF t.ks:=by
  unfold dirsK
  rw[kidsK_sel (l:=t.ks) (selK_all hds (by simp)),brK_none]
 rw[kvs_eq];simp[bodyK,hk,e2]
theorem parseFragmentName_ok (E:PEnv) (s:ByteArray) (hs:s≠onB) (u:KV) (l:List KV):
 POk E fq168 #[.pointer (some ⟨E.p,0,none⟩)] (nmK s::u::l) (u::l) (fun b:Nat=> .tuple #[.pointer (some ⟨b,0,none⟩),.nilIface]) fun b G=>NameAt b s G:=by
 intro H ps
 refine parseFragmentName.enter _ H _ ?_
 unfold parseFragmentName.W
 refine⟨s,ps.value,fkI (fun hh=>?_) (fun _=>?_)⟩
 ·rw[bytes_beq] at hh;simp at hh;exact absurd hh hs
 refine(Cx.start ps).call (parseName_ok E s u l) fun nb H1 _ c1=>?_
 exact rkI ⟨nb,rfl,c1.weak fun G h=>h.2⟩
theorem parseSpread_ok (E:PEnv) (t:Tr) (hk:t.n.kind=7) (hf:Fine t) (u:KV) (r:List KV) (h4:u.1≠4) (h9:u.1≠9):
 POk E fq113 #[.pointer (some ⟨E.p,0,none⟩)] (kvs t++u::r) (u::r) N2v fun x G=>x.1=tq128∧ItemAt fq126 tq128 7 2 x.2 t G:=by
 intro H ps
 obtain⟨hno,hds⟩:=spread_name hf hk
 rw[kvs_spread hk hds,List.cons_append,List.cons_append] at ps
 refine parseFragment.enter _ H _ ?_
 unfold parseFragment.W
 obtain⟨st,hst,_⟩:=ps.start
 refine⟨_,hst,?_⟩
 refine(Cx.start ps).call (expect_ok E kDots _ _ 6 rfl) fun _ H1 _ c1=>?_
 obtain⟨w2,w3,hw2⟩:=app_ne (kvF t.ks) u r
 rw[hw2] at c1
 refine⟨fun y H'=>y.1=true∧Cx E H H' (nmK t.n.name::w2::w3) fun _=>True,?_,?_⟩
 ·refine c1.call1 (peek_ok E (nmK t.n.name) _ 15) true rfl fun H2 _ c2=>?_
  refine fkI (fun _=>?_) (fun hh=>absurd hh (by decide))
  refine⟨t.n.name,c2.ps.value,?_,c2.weak fun _ _=>trivial⟩
  rw[bytes_beq]
  simpa using hno
 rintro⟨y,_⟩ H2 ⟨hy,c2⟩
 dsimp only at hy⊢
 subst hy
 refine fkI (fun _=>?_) (fun hh=>absurd hh (by decide))
 refine c2.call (parseFragmentName_ok E t.n.name hno w2 w3) fun nb H3 _ c3=>?_
 rw[←hw2] at c3
 refine c3.call (p:=slP) (parseDirectives_ok E t.ks hds (kids_fine hf) hf.few u r h4 h9) fun xs H4 _ c4=>?_
 refine c4.call (loc_ok E _ _) fun lb H5 _ c5=>?_
 refine c5.node (NewFragmentSpread_mk _ _ _ _ _) fun b H6 _ c6=>?_
 refine rkI ⟨(tq128,b),rfl,c6.weak fun G hG=>⟨rfl,?_⟩⟩
 obtain⟨⟨⟨⟨_,hn⟩,hs⟩,hl⟩,hb⟩:=hG
 exact item_spread hl hn hb hs hk (formed_alias hf.1.self.1 (by omega)) (body_notext hf.1.self.1.2 (by omega)) hf.2.1
theorem var_parts {t:Tr} (hf:Fine t) (hk:t.n.kind=4): ∃(vs:List Tr) (ty:Tr),t.ks=ty::vs∧isTypeM ty.n=true∧(∀v∈vs,isValueM v.n=true)∧vs.length≤1:=by
 cases hf.1.self.2 with
 |variable1 ty _ h1 h2=>exact⟨[],ty,h1,h2,by simp,by simp⟩
 |variable2 ty v _ h1 h2 h3 h4=>exact⟨[v],ty,h1,h2,by simpa using h3,by simp⟩
 |_=>omega
end Go.Vx
