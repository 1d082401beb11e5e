/- A part of the proof of what the last text of this claim says: PB7, PC1, PC2, PC3, PC4, PC5. Conditions: none. -/
import Derived.Test.YtkopcepfeeemhaaGreatDoorZAf
set_option maxRecDepth 10000
namespace Go.Vx
open Go Go.Proofs
def ndBytes (n:Nd):Nat:=n.text.size+n.name.size+n.alias.size
def sumBytes:List Nd→Nat
 |[]=>0
 |n::r=>ndBytes n+sumBytes r
theorem sumBytes_append (a b:List Nd):sumBytes (a++b)=sumBytes a+sumBytes b:=by
 induction a with
 |nil=>simp[sumBytes]
 |cons x r ih=>simp[sumBytes,ih];omega
def Good (t:Tr):Prop:= ∀u∈preT t,FormedP u.n∧ShapedP u
structure DocP (ds:List Nd) (t:Tr):Prop where
 flat:ds=flat t
 ws:Ws t
 good:Good t
 len:ds.length≤400
 bytes:sumBytes ds≤4000
def Small (ds:List Nd):Prop:= ∀n∈ds,n.name.size≤2147483647∧n.alias.size≤2147483647∧n.text.size≤2147483647
theorem rightFrom_ok (b o n c:Nat) (ds:List Nd) (H:Heap) (h:Doc H b o n ds) (hs:Small ds):
 Fn PP fq29 #[.slice (some ⟨b,o,none⟩) n c] H fun v H'=> ∃r,v= .bool r∧Ext [] H H'∧(r=true→0<n∧ ∃t,DocP ds t):=by
 refine rightFrom.enter b o n c H _ ?_
 unfold rightFrom.W
 have no: ∀ {H'},Ext [] H H'→retK (some [.bool false]) H' fun v H'=> ∃r,v= .bool r∧Ext [] H H'∧(r=true→0<n∧ ∃t,DocP ds t):=fun h=>rkI ⟨false,rfl,h,by simp⟩
 have hn:=h.len
 refine fkI (fun _=>no (Ext.refl _ _)) (fun h0=>fkI (fun _=>no (Ext.refl _ _)) (fun h4=>?_))
 have h0':0<n:=by simp at h0;omega
 have h4':n≤400:=by simp at h4;omega
 obtain⟨nd,hnd⟩: ∃nd,ds[0]?=some nd:=⟨ds[0]'(by omega),List.getElem?_eq_getElem (by omega)⟩
 refine⟨ix_some (by omega) (by omega),_,h.nodes.size (i:=0) hnd,fkI (fun _=>no (Ext.refl _ _)) (fun h1=>?_)⟩
 have h1':nd.size=n:=by simpa using h1
 refine(sized_ok b o n c ds H h 42 0 n 0 (by omega) h0' (Nat.le_refl _) (by omega)).mono ?_
 rintro _ _ ⟨r,rfl,rfl,hr⟩
 refine⟨r,rfl,fkI (fun _=>no (Ext.refl _ _)) (fun hr1=>?_)⟩
 obtain⟨t,hat,hw,hle⟩:=hr (by simpa using hr1)
 have hroot:=hat.root
 rw[hnd] at hroot
 have hfl:(flat t).length=n:=by
  have:=hw.size
  cases hroot
  omega
 have hds:ds=flat t:=by
  obtain⟨post,hp⟩:=hat
  rw[List.drop_zero] at hp
  have:post=[]:=by
   have:=congrArg List.length hp
   rw[List.length_append] at this
   exact List.eq_nil_of_length_eq_zero (by omega)
  rw[hp,this,List.append_nil]
 have hpl:=preT_len t
 refine⟨fun z H'=>Ext [] H H'∧ ∃(k m:Nat),z.1=m∧z.2.1=k∧k≤n∧m≤4000∧m=sumBytes (ds.take k)∧ ∀j,j<k→ ∀u,(preT t)[j]?=some u→FormedP u.n∧ShapedP u,
  fun z _=>n -z.2.1.toNat,⟨Ext.refl _ _,0,0,rfl,rfl,Nat.zero_le _,by omega,rfl,fun j hj=>by omega⟩,?_⟩
 rintro⟨_,_,_⟩ H3 ⟨hE,k,m,hm,hk,hkn,hm4,hms,hall⟩
 dsimp only at hm hk⊢
 subst hm hk
 have hD:=h.ext hE (by simp)
 refine fkI (fun hlt=>?_) (fun hge=>?_)
 ·have hk':k<(preT t).length:=by simp at hlt;omega
  have hu:(preT t)[k]?=some (preT t)[k]:=List.getElem?_eq_getElem hk'
  have hpa:=preT_at t k _ hu
  have hwu:=preT_ws t hw _ (List.getElem_mem hk')
  generalize (preT t)[k]=u at hu hpa hwu
  have hatu:At ds k (flat u):=by rw[hds];exact hpa
  have hru:=hatu.root
  have hmem:u.n∈ds:=List.mem_of_getElem? hru
  obtain⟨s1,s2,s3⟩:=hs _ hmem
  have f3:=hD.nodes.fld hru 3 (by decide)
  have f1:=hD.nodes.fld hru 1 (by decide)
  have f2:=hD.nodes.fld hru 2 (by decide)
  have ek:(k:Int).toNat=k:=by omega
  rw[ek]
  refine⟨ix_some (by omega) (by omega),u.n.text,by simpa [Nd.val,pStr] using f3,ix_some (by omega) (by omega),u.n.name,by simpa [Nd.val,pStr] using f1,ix_some (by omega) (by omega),u.n.alias,by simpa [Nd.val,pStr] using f2,?_⟩
  dsimp only
  have e1:IntKind.i64.wrap (IntKind.i64.wrap ((u.n.text.size:Int)+(u.n.name.size:Int))+(u.n.alias.size:Int))=((ndBytes u.n:Nat):Int):=by
   rw[i64w (n:=(u.n.text.size:Int)+(u.n.name.size:Int)) (by omega),i64w (by omega)];unfold ndBytes;omega
  rw[e1]
  have hnb:ndBytes u.n≤6442450941:=by unfold ndBytes;omega
  have e2:IntKind.i64.wrap ((m:Int)+(if(4001:Int)<(ndBytes u.n:Int) then 4001 else(ndBytes u.n:Int)))=(m:Int)+(if(4001:Int)<(ndBytes u.n:Int) then 4001 else(ndBytes u.n:Int)):=by
   rw[i64w];split<;>omega
  rw[e2]
  refine fkI (fun _=>no hE) (fun hb=>?_)
  have hb':m+ndBytes u.n≤4000:=by
   simp at hb;split at hb<;>omega
  have e3:(m:Int)+(if(4001:Int)<(ndBytes u.n:Int) then 4001 else(ndBytes u.n:Int))=((m+ndBytes u.n:Nat):Int):=by
   rw[if_neg (by omega)];omega
  rw[e3]
  refine⟨ix_some (by omega) (by omega),(u.n.kind,u.n.name,u.n.alias,u.n.text,u.n.flag,u.n.size),hD.nodes.all hru,?_⟩
  have hts:u.n.text.size≤4000:=by unfold ndBytes at hb';omega
  refine(formed_ok u.n H3 (by omega) (by omega) (by omega) (by omega)).mono ?_
  rintro _ H4 ⟨fb,rfl,hE4,hfo⟩
  refine⟨fb,rfl,fkI (fun _=>no (hE.trans hE4)) (fun hfb=>?_)⟩
  refine(shaped_ok b o n c ds H4 (hD.ext hE4 (by simp)) k u hatu hwu).mono ?_
  rintro _ H5 ⟨sb,rfl,hE5,hsh⟩
  refine⟨sb,rfl,fkI (fun _=>no ((hE.trans hE4).trans hE5)) (fun hsb=>?_)⟩
  rw[wrap1 (by omega)]
  refine⟨⟨(hE.trans hE4).trans hE5,k+1,m+ndBytes u.n,rfl,rfl,by omega,hb',?_,fun j hj u' hu'=>?_⟩,by omega⟩
  ·have hkd:k<ds.length:=by omega
   rw[List.take_succ_eq_append_getElem hkd,sumBytes_append,←hms]
   have:ds[k]=u.n:=by rw[List.getElem?_eq_getElem hkd] at hru;exact Option.some.inj hru
   rw[this];simp[sumBytes]
  ·rcases Nat.lt_succ_iff_lt_or_eq.1 hj with h5|rfl
   ·exact hall j h5 u' hu'
   ·rw[hu] at hu';cases hu'
    exact⟨hfo (by simpa using hfb),hsh (by simpa using hsb)⟩
 ·have hk':k=n:=by simp at hge;omega
  refine rkI ⟨true,rfl,hE,fun _=>⟨h0',t,hds,hw,fun u hu=>?_,by omega,?_⟩⟩
  ·obtain⟨j,hj,rfl⟩:=List.getElem_of_mem hu
   exact hall j (by omega) _ (List.getElem?_eq_getElem hj)
  ·rw[hk',hn,List.take_length] at hms;omega
theorem AnyDocument_ok (b o n c:Nat) (ds:List Nd) (H:Heap) (h:Doc H b o n ds) (hs:Small ds):
 Fn PP fq16 #[.slice (some ⟨b,o,none⟩) n c] H fun v H'=> ∃r,v= .bool r∧Ext [] H H'∧(r=true→ ∃t,DocP ds t∧t.n.kind=1):=by
 refine AnyDocument.enter b o n c H _ ?_
 unfold AnyDocument.W
 refine(rightFrom_ok b o n c ds H h hs).mono ?_
 rintro _ H2 ⟨r,rfl,hE,hr⟩
 refine⟨r,rfl,fkI (fun hr1=>?_) (fun _=>rkI ⟨false,rfl,hE,by simp⟩)⟩
 obtain⟨hn0,t,ht⟩:=hr hr1
 have hnd:ds[0]?=some t.n:=by rw[ht.flat];cases t;simp[flat,Tr.n]
 refine⟨ix_some (by omega) (by omega),_,(h.ext hE (by simp)).nodes.kind (i:=0) hnd,rkI ⟨_,rfl,hE,fun hk=>⟨t,ht,by simpa using hk⟩⟩⟩
theorem zzFits4_ok (x:Nd) (H:Heap):Fn PP fq28 #[.agg x.val] H fun v H'=> ∃r,v= .bool r∧Ext [] H H'∧(r=true→x.name.size≤2147483647∧x.alias.size≤2147483647∧x.text.size≤2147483647):=by
 refine zzFits4.enter x H _ ?_
 unfold zzFits4.W
 refine nbI fun H2 _ hb2 ext2 _=>?_
 have no:retK (some [.bool false]) H2 fun v H'=> ∃r,v= .bool r∧Ext [] H H'∧(r=true→x.name.size≤2147483647∧x.alias.size≤2147483647∧x.text.size≤2147483647):=rkI ⟨false,rfl,ext2,by simp⟩
 refine⟨_,lcO hb2 rfl,?_⟩
 refine fkI (fun _=>no) (fun h1=>?_)
 refine⟨_,lcO hb2 rfl,?_⟩
 refine fkI (fun _=>no) (fun h2=>?_)
 refine⟨_,lcO hb2 rfl,?_⟩
 refine fkI (fun _=>no) (fun h3=>rkI ⟨true,rfl,ext2,fun _=>?_⟩)
 have h1:=of_decide_eq_false h1
 have h2:=of_decide_eq_false h2
 have h3:=of_decide_eq_false h3
 omega
theorem zzFits3_ok (b o n c:Nat) (ds:List Nd) (H:Heap) (h:NodesAt H b o ds) (hn:n=ds.length):
 Fn PP fq15 #[.slice (some ⟨b,o,none⟩) n c] H fun v H'=> ∃r,v= .bool r∧Ext [] H H'∧(r=true→Small ds∧n<2147483648):=by
 refine zzFits3.enter b o n c H _ ?_
 unfold zzFits3.W
 refine fkI (fun _=>rkI ⟨false,rfl,Ext.refl _ _,by simp⟩) (fun h0=>?_)
 have hlt:n<2147483648:=by have:=of_decide_eq_false h0;omega
 refine⟨fun z H'=>Ext [] H H'∧ ∃k:Nat,z.1=k∧k≤n∧ ∀j,j<k→ ∀x,ds[j]?=some x→x.name.size≤2147483647∧x.alias.size≤2147483647∧x.text.size≤2147483647,
  fun z _=>n -z.1.toNat,⟨Ext.refl _ _,0,rfl,Nat.zero_le _,fun j hj=>by omega⟩,?_⟩
 rintro⟨_,_⟩ H2 ⟨hE,k,hk,hkn,hall⟩
 dsimp only at hk⊢
 subst hk
 refine fkI (fun hlt2=>?_) (fun hge=>?_)
 ·have hk':k<ds.length:=by simp at hlt2;omega
  have hx:ds[k]?=some ds[k]:=List.getElem?_eq_getElem hk'
  generalize ds[k]=x at hx
  have ek:(k:Int).toNat=k:=by omega
  rw[ek]
  refine⟨ix_some (by omega) (by omega),(x.kind,x.name,x.alias,x.text,x.flag,x.size),(h.ext hE (by simp)).all hx,?_⟩
  refine nbI fun H7 e7 hb7 ext7 hs7=>?_
  refine swI hb7 (by simp) rfl rfl fun H8 e8 hb8 ext8 hs8=>?_
  have hE8:Ext [] H H8:=Ext.newer (hE.trans ext7) ext8 hE.size
  refine⟨(x.kind,x.name,x.alias,x.text,x.flag,x.size),lcO hb8 rfl,?_⟩
  refine(zzFits4_ok x H8).mono ?_
  rintro _ H9 ⟨r,rfl,hE9,hr⟩
  refine⟨r,rfl,fkI (fun _=>rkI ⟨false,rfl,hE8.trans hE9,by simp⟩) (fun hr1=>?_)⟩
  rw[wrap1 (by omega)]
  refine⟨⟨hE8.trans hE9,k+1,rfl,by omega,fun j hj y hy=>?_⟩,by omega⟩
  rcases Nat.lt_succ_iff_lt_or_eq.1 hj with h5|rfl
  ·exact hall j h5 y hy
  ·rw[hx] at hy;cases hy;exact hr (by simpa using hr1)
 ·have hk':k=ds.length:=by simp at hge;omega
  refine rkI ⟨true,rfl,hE,fun _=>⟨fun x hx=>?_,hlt⟩⟩
  obtain⟨j,hj,rfl⟩:=List.getElem_of_mem hx
  exact hall j (by omega) _ (List.getElem?_eq_getElem hj)
theorem beneath9_ok (b o n c:Nat) (ds:List Nd) (H:Heap) (h:Doc H b o n ds) (kind which:Int) (hw:0≤which∧which≤255):
 Fn PP fq18 #[.slice (some ⟨b,o,none⟩) n c,.int .i64 kind,.int .u8 which] H fun v H'=> ∃(i:Nat) (r:Bool),v= .tuple #[.int .i64 (i:Int),.bool r]∧Ext [] H H'∧
  (r=true→ ∃x,ds[i]?=some x∧x.kind=kind):=by
 refine beneath9.enter b o n c kind which H _ ?_
 unfold beneath9.W
 have hn:=h.len
 have hlt:=h.lt
 refine⟨fun z H'=> ∃(k:Nat) (ps:List Nat),z.2.1=k∧k≤n∧z.1.2.1≤k∧Fresh H H' tq3 1 z.1.1 z.1.2.1 z.1.2.2 (intL ps)∧ ∀p∈ps,∃x,ds[p]?=some x∧x.kind=kind,
  fun z _=>n -z.2.1.toNat,⟨0,[],rfl,Nat.zero_le _,Nat.le_refl _,Fresh.nil H tq3 1,by simp⟩,?_⟩
 rintro⟨⟨a,m,q⟩,_,_⟩ H2 ⟨k,ps,hk,hkn,hmk,hf,hps⟩
 dsimp only at hk hf hmk⊢
 subst hk
 have hD:=h.ext hf.ext (by simp)
 refine fkI (fun hlt2=>?_) (fun hge=>?_)
 ·have hk':k<ds.length:=by simp at hlt2;omega
  have hx:ds[k]?=some ds[k]:=List.getElem?_eq_getElem hk'
  generalize ds[k]=x at hx
  refine⟨ix_some (by omega) (by omega),_,hD.nodes.kind hx,?_⟩
  rw[wrap1 (by omega)]
  refine fkI (fun hkd=>?_) (fun _=>⟨⟨k+1,ps,rfl,by omega,by omega,hf,hps⟩,by omega⟩)
  refine nbI fun H4 e4 hb4 ext4 hs4=>?_
  refine(hf.grow ext4).append hb4 rfl (by simp[Value.oneCell']) (by omega) (by omega) ?_
  intro a' c' H7 hf7 _ _
  refine⟨⟨k+1,ps++[k],rfl,by omega,by omega,?_,fun p hp=>?_⟩,by omega⟩
  ·have:intL (ps++[k])=intL ps++ #[Value.int .i64 (k:Int)].toList:=by simp[intL]
   rw[this];exact hf7
  ·rcases List.mem_append.1 hp with hp|hp
   ·exact hps p hp
   ·rw[List.mem_singleton] at hp;subst hp;exact⟨x,hx,by simpa using hkd⟩
 ·have hS:=SlcAt.of_own hf.own
  have hm:=hS.1
  simp only[intL,List.length_map] at hm
  refine fkI (fun _=>rkI ⟨0,false,rfl,hf.ext,by simp⟩) (fun h0=>?_)
  have h0':m≠0:=by simp at h0;omega
  have hw1:IntKind.i64.wrap which=which:=i64w (by omega)
  rw[hw1]
  obtain⟨wn,rfl⟩: ∃wn:Nat,which=wn:=⟨which.toNat,by omega⟩
  have ht:Int.tmod (wn:Int) (m:Int)=((wn% m:Nat):Int):=rfl
  rw[ht]
  have hj:wn% m<ps.length:=by rw[←hm];exact Nat.mod_lt _ (by omega)
  generalize wn% m=j at hj
  have hp:ps[j]?=some ps[j]:=List.getElem?_eq_getElem hj
  have hmem:=List.getElem_mem hj
  generalize ps[j]=p at hp hmem
  have hL:=hS.load (i:=j) (v:= .int .i64 (p:Int)) (by simp[intL,hp])
  exact⟨by omega,hL.1,_,hL.2,rkI ⟨p,true,rfl,hf.ext,fun _=>hps p hmem⟩⟩
abbrev KT:=List (Nd×List ByteArray)
def optB (b:ByteArray):List ByteArray:=if b=eB then[] else[b]
def selM (kinds:List Int) (kt:KT):KT:=kt.filter fun x=>decide (x.1.kind∈kinds)
def sepM (between:ByteArray):KT→List ByteArray
 |[]=> []
 |[x]=>x.2
 |x::y::r=>x.2++(optB between++sepM between (y::r))
def preM (begin_ between:ByteArray) (sel:KT):List ByteArray:=match sel with
 |[]=> []
 |x::r=>optB begin_++sepM between (x::r)
def kidsM (begin_ end_ between:ByteArray) (kinds:List Int) (kt:KT):List ByteArray:=match selM kinds kt with
 |[]=> []
 |x::r=>optB begin_++sepM between (x::r)++optB end_
def firstM (sign_:ByteArray) (is_:Nd→Bool) (kt:KT):List ByteArray:=match kt.find? fun x=>is_ x.1 with
 |none=> []
 |some x=>optB sign_++x.2
theorem sepM_snoc (between:ByteArray) (x:Nd×List ByteArray): ∀(l:KT),l≠ []→sepM between (l++[x])=sepM between l++(optB between++x.2)
 |[],h=>absurd rfl h
 |[y],_=>by simp[sepM]
 |y::z::r,_=>by
  have:=sepM_snoc between x (z::r) (by simp)
  simp only[List.cons_append] at this⊢
  simp only[sepM,this,List.append_assoc]
theorem preM_snoc (begin_ between:ByteArray) (l:KT) (x:Nd×List ByteArray):preM begin_ between (l++[x])=preM begin_ between l++((if l=[] then optB begin_ else optB between)++x.2):=by
 cases l with
 |nil=>simp[preM,sepM]
 |cons y r=>
  have:=sepM_snoc between x (y::r) (by simp)
  simp only[List.cons_append] at this
  simp only[preM,List.cons_append,this,List.append_assoc]
  simp
structure WAt (H0 H:Heap) (w m b o nn:Nat) (ds:List Nd) (ss:List ByteArray):Prop where
 ext:Ext [] H0 H
 doc:Doc H b o nn ds
 old:b<H0.size
 wnew:H0.size≤w
 mnew:H0.size≤m
 st: ∃a n c cc,H[w]?=some (.cells #[.slice (some ⟨b,o,none⟩) nn cc,.slice a n c,.map (some m)] tq49)∧OwnS H tq9 1 a n c (ss.map .string)∧ ∀r,rowOf a=some r→H0.size≤r
 mp: ∃es clock,H[m]?=some (.map es clock)∧IntKeys es .i64
def outRow (H:Heap) (w:Nat):Option Nat:=
 match H[w]? with
 |some (Obj.cells c _ _)=>match(c[1]?:Option Value) with
  |some (Value.slice a _ _)=>rowOf a
  |_=>none
 |_=>none
structure KeepT (w:Nat) (H H':Heap):Prop where
 size:H.size≤H'.size
 get: ∀(k:Nat) (c:Array Value) (e:TypeId) (fr:Nat×Nat),H[k]?=some (Obj.cells c e fr)→e≠tq49→e≠tq9→H'[k]?=some (Obj.cells c e fr)
 strs: ∀(k:Nat) (c:Array Value) (fr:Nat×Nat),H[k]?=some (Obj.cells c tq9 fr)→outRow H w≠some k→H'[k]?=some (Obj.cells c tq9 fr)
 row: ∀r,outRow H' w=some r→outRow H w=some r∨H.size≤r
theorem KeepT.refl (w:Nat) (H:Heap):KeepT w H H:=⟨Nat.le_refl _,fun _ _ _ _ h _ _=>h,fun _ _ _ h _=>h,fun _ h=> .inl h⟩
theorem KeepT.trans {w:Nat} {A B C:Heap} (h:KeepT w A B) (k:KeepT w B C):KeepT w A C:=by
 refine⟨Nat.le_trans h.size k.size,fun i c e fr hi h1 h2=>k.get i c e fr (h.get i c e fr hi h1 h2) h1 h2,fun i c fr hi hr=>?_,fun r hr=>?_⟩
 ·refine k.strs i c fr (h.strs i c fr hi hr) fun e=>?_
  rcases h.row i e with h1|h1
  ·exact hr h1
  ·have:=lt_of_get hi;omega
 ·rcases k.row r hr with h1|h1
  ·exact h.row r h1
  ·exact .inr (Nat.le_trans h.size h1)
theorem Ext.keepT {w:Nat} {H H':Heap} (h:Ext [] H H') (hw:w<H.size):KeepT w H H':=by
 refine⟨h.size,fun _ _ _ _ hk _ _=>h.get _ _ hk (by simp),fun _ _ _ hk _=>h.get _ _ hk (by simp),fun r hr=> .inl ?_⟩
 have e:H'[w]?=H[w]?:=by
  rw[Array.getElem?_eq_getElem hw]
  exact h.get _ _ (Array.getElem?_eq_getElem hw) (by simp)
 unfold outRow at hr⊢
 rw[e] at hr;exact hr
theorem WAt.lt {H0 H:Heap} {w m b o nn:Nat} {ds:List Nd} {ss:List ByteArray} (h:WAt H0 H w m b o nn ds ss):w<H.size:=by
 obtain⟨a,n,c,cc,hw,_⟩:=h.st;exact lt_of_get hw
theorem WAt.grow {H0 H H':Heap} {w m b o nn:Nat} {ds:List Nd} {ss:List ByteArray} (h:WAt H0 H w m b o nn ds ss) (he:Ext [] H H'):WAt H0 H' w m b o nn ds ss:=by
 obtain⟨a,n,c,cc,hw,ho,hr⟩:=h.st
 obtain⟨es,clock,hm,hk⟩:=h.mp
 exact⟨h.ext.trans he,h.doc.ext he (by simp),h.old,h.wnew,h.mnew,⟨a,n,c,cc,he.get _ _ hw (by simp),ho.ext he (by simp),hr⟩,⟨es,clock,he.get _ _ hm (by simp),hk⟩⟩
theorem WAt.d {H0 H:Heap} {w m b o nn:Nat} {ds:List Nd} {ss:List ByteArray} (h:WAt H0 H w m b o nn ds ss): ∃cc,loadC H false 1 ⟨w,0,none⟩=some (.slice (some ⟨b,o,none⟩) nn cc):=by
 obtain⟨a,n,c,cc,hw,_⟩:=h.st
 exact⟨cc,lcO hw rfl⟩
theorem wPut_ok {H0 H:Heap} {w m b o nn:Nat} {ds:List Nd} {ss:List ByteArray} (h:WAt H0 H w m b o nn ds ss) {lb N C:Nat} {xs:List ByteArray} {fr:Nat×Nat}
 (hl:H[lb]?=some (.cells (xs.map .string).toArray tq9 fr)) (_hlw:H0.size≤lb) (hN:N=xs.length) (hb:ss.length+xs.length≤1000000):
 Fn PP fq40 #[.pointer (some ⟨w,0,none⟩),.slice (some ⟨lb,0,none⟩) N C] H fun v H'=>v= .tuple #[]∧KeepT w H H'∧WAt H0 H' w m b o nn ds (ss++xs):=by
 refine wPut.enter w lb 0 N C H _ ?_
 unfold wPut.W
 obtain⟨a,n,c,cc,hw,ho,hr⟩:=h.st
 obtain⟨es,clock,hm,hk⟩:=h.mp
 have hn:n=ss.length:=by have:=ho.1;simp at this;omega
 refine⟨(a,n,c),lcO hw rfl,?_⟩
 have hF:Fresh H0 H tq9 1 a n c (ss.map .string):=⟨h.ext,ho,hr⟩
 refine hF.append hl (by simp[hN]) (by simp[Value.oneCell']) (by omega) (by omega) ?_
 intro a' c' H4 hF4 grow hrw
 have hrow: ∀(k:Nat) (cs:Array Value) (e:TypeId) (f2:Nat×Nat),H[k]?=some (.cells cs e f2)→e≠tq9→H4[k]?=some (.cells cs e f2):=by
  intro k cs e f2 hk he
  refine grow.ext.get _ _ hk ?_
  intro hmem
  rw[Option.mem_toList] at hmem
  exact ho.ne hk (fun e'=>he e'.symm) hmem rfl
 have hw4:=hrow w _ _ _ hw (by decide)
 have hm4:H4[m]?=some (.map es clock):=by
  refine grow.ext.get _ _ hm ?_
  intro hmem
  rw[Option.mem_toList] at hmem
  obtain⟨cur,_,hg,_⟩:=ho.row hmem
  rw[hm] at hg;cases hg
 have hd4:Doc H4 b o nn ds:=by
  obtain⟨⟨dc,de,df,hdc,hdr⟩,h1,h2⟩:=h.doc
  refine⟨⟨dc,de,df,?_,hdr⟩,h1,h2⟩
  refine grow.ext.get _ _ hdc ?_
  intro hmem
  rw[Option.mem_toList] at hmem
  have:=hr _ hmem
  have:=h.old
  omega
 refine swI hw4 (by simp) rfl rfl fun H5 e5 hw5 ext5 _=>?_
 have hget: ∀(k:Nat) (c:Array Value) (e:TypeId) (fr:Nat×Nat),H[k]?=some (Obj.cells c e fr)→e≠tq49→e≠tq9→H5[k]?=some (Obj.cells c e fr):=by
  intro k cs e f2 hk h1 h2
  refine ext5.get _ _ (hrow k _ _ _ hk h2) ?_
  intro hmem
  simp at hmem
  subst hmem
  rw[hw] at hk
  cases hk
  exact h1 rfl
 have hout:outRow H w=rowOf a:=by unfold outRow;rw[hw];rfl
 have hout5:outRow H5 w=rowOf a':=by unfold outRow;rw[hw5];rfl
 have hkt:KeepT w H H5:=by
  refine⟨Nat.le_trans grow.size ext5.size,hget,fun k cs f2 hk hr2=>?_,fun r hr2=>?_⟩
  ·refine ext5.get _ _ (grow.ext.get _ _ hk ?_) ?_
   ·intro hmem
    rw[Option.mem_toList] at hmem
    rw[hout] at hr2
    exact hr2 hmem
   ·intro hmem
    simp at hmem
    subst hmem
    rw[hw] at hk;cases hk
  ·rw[hout5] at hr2
   rw[hout]
   rcases hrw with h1|h1
   ·exact .inl (by rw[←h1];exact hr2)
   ·have:=hr2.symm.trans h1
    exact .inr (by simp at this;omega)
 refine rkI ⟨rfl,hkt,?_⟩
 ·have hE5:Ext [] H0 H5:=Ext.newer hF4.ext ext5 h.wnew
  refine⟨hE5,hd4.ext ext5 (by have:=h.old;have:=h.wnew;simp;omega),h.old,h.wnew,h.mnew,⟨a',n+N,c',cc,hw5,?_,hF4.row⟩,⟨es,clock,ext5.get _ _ hm4 ?_,hk⟩⟩
  ·have hcs:(ss++xs).map Value.string=ss.map .string++(xs.map Value.string).toArray.toList:=by simp
   rw[hcs]
   refine hF4.own.ext ext5 fun r hr' hmem=>?_
   exact hF4.own.ne hw4 (by decide) hr' (by simpa using hmem)
  ·simp only[List.mem_singleton]
   rintro rfl
   rw[hw] at hm;cases hm
theorem put_step {H0 H:Heap} {w m b o nn:Nat} {ds:List Nd} {ss:List ByteArray} (xs:List ByteArray) (h:WAt H0 H w m b o nn ds ss) {N C:Nat} (hN:N=xs.length) (hb:ss.length+xs.length≤1000000)
 {K:Unit→Heap→Prop} (hk: ∀H',KeepT w H H'→WAt H0 H' w m b o nn ds (ss++xs)→K () H'):
 newB H (.cells (xs.map .string).toArray tq9) fun lb H2=>callW PP fq40 #[.pointer (some ⟨w,0,none⟩),.slice (some ⟨lb,0,none⟩) N C] H2 ⟨Unit,fun _=> .tuple #[]⟩ fun x H3=>K x H3:=by
 refine nbI fun H2 _ hb2 ext2 _=>?_
 refine(wPut_ok (h.grow ext2) hb2 h.ext.size hN hb).mono ?_
 rintro _ H3 ⟨rfl,hk3,hw3⟩
 exact⟨(),rfl,hk H3 ((ext2.keepT h.lt).trans hk3) hw3⟩
mutual
def toksOf (body:Nd→KT→List ByteArray):Tr→List ByteArray
 | .node n ks=>body n (toksKT body ks)
def toksKT (body:Nd→KT→List ByteArray):List Tr→KT
 |[]=> []
 |t::r=>(t.n,toksOf body t)::toksKT body r
end
theorem toksKT_map (body:Nd→KT→List ByteArray) (l:List Tr):toksKT body l=l.map fun t=>(t.n,toksOf body t):=by
 induction l with
 |nil=>rfl
 |cons t r ih=>simp[toksKT,ih]
section
variable (body:Nd→KT→List ByteArray)
def NodeOk (t:Tr):Prop:= ∀(H0 H:Heap) (w m b o nn:Nat) (ds:List Nd) (ss:List ByteArray) (i:Nat),WAt H0 H w m b o nn ds ss→At ds i (flat t)→Ws t→ss.length+(toksOf body t).length≤1000000→
 Fn PP fq31 #[.pointer (some ⟨w,0,none⟩),.int .i64 i] H fun v H'=>v= .tuple #[]∧KeepT w H H'∧WAt H0 H' w m b o nn ds (ss++toksOf body t)
variable {body}
theorem node_step {t:Tr} (hn:NodeOk body t) {H0 H:Heap} {w m b o nn:Nat} {ds:List Nd} {ss:List ByteArray} {i:Nat} (h:WAt H0 H w m b o nn ds ss) (hat:At ds i (flat t)) (hws:Ws t)
 (hb:ss.length+(toksOf body t).length≤1000000) {K:Unit→Heap→Prop} (hk: ∀H',KeepT w H H'→WAt H0 H' w m b o nn ds (ss++toksOf body t)→K () H'):
 callW PP fq31 #[.pointer (some ⟨w,0,none⟩),.int .i64 i] H ⟨Unit,fun _=> .tuple #[]⟩ fun x H3=>K x H3:=by
 refine(hn H0 H w m b o nn ds ss i h hat hws hb).mono ?_
 rintro _ H' ⟨rfl,h1,h2⟩
 exact⟨(),rfl,hk H' h1 h2⟩
theorem kids_len (t:Tr):t.ks.length≤(flat t).length:=by
 obtain⟨nd,ks⟩:=t
 rw[flat_len]
 show ks.length≤1+(flatL ks).length
 induction ks with
 |nil=>simp
 |cons x r ih=>simp only[flatL,List.length_cons,List.length_append];have:=flat_pos x;omega
theorem wKids_ok {t:Tr} (hn: ∀k∈t.ks,NodeOk body k) {H0 H:Heap} {w m b o nn:Nat} {ds:List Nd} {ss:List ByteArray} {i:Nat} (h:WAt H0 H w m b o nn ds ss) (hat:At ds i (flat t)) (hws:Ws t)
 (begin_ end_ between:ByteArray) {kinds:List Int} (hnd:kinds.Nodup) {kb N C:Nat} {fr:Nat×Nat} (hkb:H[kb]?=some (.cells (kinds.map (.int .i64 ·)).toArray tq3 fr)) (hN:N=kinds.length) (hN2:N<1000)
 (hb:ss.length+(kidsM begin_ end_ between kinds (toksKT body t.ks)).length≤1000000):
 Fn PP fq41 #[.pointer (some ⟨w,0,none⟩),.int .i64 i,.string begin_,.string end_,.string between,.slice (some ⟨kb,0,none⟩) N C] H fun v H'=>
  v= .tuple #[]∧KeepT w H H'∧WAt H0 H' w m b o nn ds (ss++kidsM begin_ end_ between kinds (toksKT body t.ks)):=by
 refine wKids.enter w i begin_ end_ between kb 0 N C H _ ?_
 unfold wKids.W
 obtain⟨cc,hd⟩:=h.d
 refine⟨(some ⟨b,o,none⟩,nn,cc),hd,?_⟩
 refine(Kids_ok b o nn cc ds H h.doc i t hat hws).mono ?_
 rintro _ H2 ⟨a1,m1,k1,ps,rfl,hf,hp⟩
 refine⟨(a1,m1,k1),rfl,?_⟩
 have hS:=SlcAt.of_own hf.own
 have hm1:=hS.1
 simp only[intL,List.length_map] at hm1
 have hlen:=hp.length
 have hkl:=kids_len t
 have hle:=hat.le' (flat_ne _)
 have hdl:=h.doc.len
 have hdt:=h.doc.lt
 have hw2:=h.grow hf.ext
 have hkb2:=hf.ext.get _ _ hkb (by simp)
 -- the row of the kids stays
 have slc: ∀ {H':Heap},KeepT w H2 H'→SlcAt H' a1 m1 (intL ps):=by
  intro H' hK
  refine⟨hS.1,?_⟩
  rcases hf.own.2 with⟨_,h0,_⟩|⟨g,cur,hg,hgc,hnc,_,hs,ht⟩
  ·exact .inl h0
  ·refine .inr ⟨g,0,cur,tq3,(0,0),hg,hK.get _ _ _ _ hgc (by decide) (by decide),fun q s hq=>?_⟩
   have hlt:=(List.getElem?_eq_some_iff.1 hq).1
   have h2:(cur.toList.take (m1*1))[q]?=some s:=by rw[ht];exact hq
   simp only[intL,List.length_map] at hlt
   rw[List.getElem?_take,if_pos (by omega)] at h2
   simpa using h2
 have hkt:toksKT body t.ks=t.ks.map fun t=>(t.n,toksOf body t):=toksKT_map body t.ks
 have hsel: ∀j,selM kinds ((toksKT body t.ks).take j)=((t.ks.take j).map fun t=>(t.n,toksOf body t)).filter fun x=>decide (x.1.kind∈kinds):=by
  intro j;rw[hkt,←List.map_take];rfl
 have hpre: ∀j,(preM begin_ between (selM kinds ((toksKT body t.ks).take j))).length≤(kidsM begin_ end_ between kinds (toksKT body t.ks)).length:=by
  intro j
  have h1:selM kinds (toksKT body t.ks)=selM kinds ((toksKT body t.ks).take j)++selM kinds ((toksKT body t.ks).drop j):=by
   unfold selM;rw[←List.filter_append,List.take_append_drop]
  have h2: ∀(r l:KT),(preM begin_ between l).length≤(preM begin_ between (l++r)).length:=by
   intro r
   induction r with
   |nil=>intro l;simp
   |cons x r ih=>
    intro l
    have h3:=ih (l++[x])
    rw[preM_snoc] at h3
    simp only[List.length_append,List.append_assoc,List.cons_append,List.nil_append] at h3⊢
    omega
  have h3:=h2 (selM kinds ((toksKT body t.ks).drop j)) (selM kinds ((toksKT body t.ks).take j))
  rw[←h1] at h3
  refine Nat.le_trans h3 ?_
  unfold preM kidsM
  split
  ·simp
  ·simp
 refine⟨fun z H'=>KeepT w H2 H'∧ ∃j:Nat,z.2.1=j∧j≤m1∧z.1=((selM kinds ((toksKT body t.ks).take j)).length:Int)∧WAt H0 H' w m b o nn ds (ss++preM begin_ between (selM kinds ((toksKT body t.ks).take j))),
  fun z _=>m1 -z.2.1.toNat,⟨KeepT.refl _ _,0,rfl,Nat.zero_le _,by simp[selM],by simpa [selM,preM] using hw2⟩,?_⟩
 rintro⟨_,_,_⟩ H3 ⟨hK3,j,hj,hjm,hs,hw3⟩
 dsimp only at hj hs⊢
 subst hj hs
 refine fkI (fun hlt=>?_) (fun hge=>?_)
 ·have hj':j<t.ks.length:=by simp at hlt;omega
  obtain⟨p,hpj,hatj,hwj⟩:=hp.get j hj'
  have hnj:=hn _ (List.getElem_mem hj')
  have htk:(toksKT body t.ks).take (j+1)=(toksKT body t.ks).take j++[(t.ks[j].n,toksOf body t.ks[j])]:=by
   have hl:j<(toksKT body t.ks).length:=by rw[hkt];simpa using hj'
   rw[List.take_succ_eq_append_getElem hl]
   simp[hkt]
  have hbj:=hpre (j+1)
  have hsl:(selM kinds ((toksKT body t.ks).take j)).length≤j:=by
   unfold selM;refine Nat.le_trans (List.length_filter_le _ _) ?_
   rw[List.length_take];omega
  generalize t.ks[j]=u at hatj hwj hnj htk
  have hple:=hatj.le' (flat_ne _)
  have hpos:=flat_pos u
  have hroot:=hatj.root
  refine⟨fun z H'=>KeepT w H2 H'∧ ∃q:Nat,z.2.1=q∧q≤N∧
   ((u.n.kind∉kinds.take q∧z.1=((selM kinds ((toksKT body t.ks).take j)).length:Int)∧WAt H0 H' w m b o nn ds (ss++preM begin_ between (selM kinds ((toksKT body t.ks).take j))))∨
    (u.n.kind∈kinds.take q∧z.1=((selM kinds ((toksKT body t.ks).take (j+1))).length:Int)∧WAt H0 H' w m b o nn ds (ss++preM begin_ between (selM kinds ((toksKT body t.ks).take (j+1)))))),
   fun z _=>N -z.2.1.toNat,⟨hK3,0,rfl,Nat.zero_le _,.inl ⟨by simp,rfl,hw3⟩⟩,?_⟩
  rintro⟨s',_,_⟩ H4 ⟨hK4,q,hq,hqN,hst⟩
  dsimp only at hq hst⊢
  subst hq
  have hselj:selM kinds ((toksKT body t.ks).take (j+1))=selM kinds ((toksKT body t.ks).take j)++(if u.n.kind∈kinds then[(u.n,toksOf body u)] else[]):=by
   rw[htk];unfold selM;rw[List.filter_append];congr 1
   simp only[List.filter_cons,List.filter_nil]
   split<;>simp_all
  refine fkI (fun hlt2=>?_) (fun hge2=>?_)
  ·have hq':q<kinds.length:=by simp at hlt2;omega
   have hdoc: ∃cc4,loadC H4 false 1 ⟨w,0,none⟩=some (.slice (some ⟨b,o,none⟩) nn cc4)∧Doc H4 b o nn ds:=by
    rcases hst with⟨_,_,h4⟩|⟨_,_,h4⟩
    ·obtain⟨c4,h5⟩:=h4.d;exact⟨c4,h5,h4.doc⟩
    ·obtain⟨c4,h5⟩:=h4.d;exact⟨c4,h5,h4.doc⟩
   obtain⟨cc4,hd4,hdoc4⟩:=hdoc
   have hL:=(slc hK4).load (i:=j) (v:= .int .i64 (p:Int)) (by simp[intL,hpj])
   have hkl4:loadC H4 false 1 ⟨kb,0+(q:Int).toNat*1,none⟩=some (.int .i64 kinds[q]):=by
    have hkc:=hK4.get _ _ _ _ hkb2 (by decide) (by decide)
    have e1:0+(q:Int).toNat*1=q:=by omega
    rw[e1]
    simp only[loadC,cellAt,hkc]
    simp[hq']
   have htq:kinds.take (q+1)=kinds.take q++[kinds[q]]:=List.take_succ_eq_append_getElem hq'
   refine⟨(some ⟨b,o,none⟩,nn,cc4),hd4,hL.1,_,hL.2,ix_some (by omega) (by dsimp only;omega),_,hdoc4.nodes.kind hroot,ix_some (by omega) (by omega),_,hkl4,?_⟩
   rw[wrap1 (k:=q) (by omega)]
   refine fkI (fun hne=>?_) (fun heq=>?_)
   ·have hne':u.n.kind≠kinds[q]:=by simpa using hne
    refine⟨⟨hK4,q+1,rfl,by omega,?_⟩,by omega⟩
    rw[htq]
    rcases hst with⟨h1,h2,h3⟩|⟨h1,h2,h3⟩
    ·exact .inl ⟨fun hm=>(List.mem_append.1 hm).elim h1 fun hm=>hne' (List.mem_singleton.1 hm),h2,h3⟩
    ·exact .inr ⟨List.mem_append_left _ h1,h2,h3⟩
   ·have heq':u.n.kind=kinds[q]:=by simpa using heq
    have hnot:u.n.kind∉kinds.take q:=by
     intro h1
     rw[heq'] at h1
     obtain⟨q2,hq2,he⟩:=List.getElem_of_mem h1
     rw[List.length_take] at hq2
     rw[List.getElem_take] at he
     exact(List.pairwise_iff_getElem.1 hnd) q2 q (by omega) hq' (by omega) he
    obtain⟨h2,h3⟩:s'=((selM kinds ((toksKT body t.ks).take j)).length:Int)∧WAt H0 H4 w m b o nn ds (ss++preM begin_ between (selM kinds ((toksKT body t.ks).take j))):=by
     rcases hst with⟨_,h2,h3⟩|⟨h1,_,_⟩
     ·exact⟨h2,h3⟩
     ·exact absurd h1 hnot
    subst h2
    have hin:u.n.kind∈kinds:=by rw[heq'];exact List.getElem_mem hq'
    rw[if_pos hin] at hselj
    rw[hselj,preM_snoc] at hbj
    simp only[List.length_append] at hbj
    refine joinPK_and ?_
    -- the sign ahead of the first, or between
    refine⟨fun _ H'=>KeepT w H2 H'∧WAt H0 H' w m b o nn ds (ss++preM begin_ between (selM kinds ((toksKT body t.ks).take j))++(if selM kinds ((toksKT body t.ks).take j)=[] then optB begin_ else[])),?_,?_⟩
    ·refine fkI (fun hc=>?_) (fun hc=>?_)
     ·simp only[Bool.and_eq_true,bytes_beq] at hc
      have hz:selM kinds ((toksKT body t.ks).take j)=[]:=List.eq_nil_of_length_eq_zero (by have h9:((selM kinds ((toksKT body t.ks).take j)).length:Int)=0:=eq_of_beq hc.1;omega)
      have hbe:begin_≠eB:=by simpa using hc.2
      have ho:optB begin_=[begin_]:=by unfold optB;rw[if_neg hbe]
      have hy:(if selM kinds ((toksKT body t.ks).take j)=[] then optB begin_ else optB between).length=1:=by rw[if_pos hz,ho];rfl
      rw[if_pos hz,ho]
      refine put_step [begin_] h3 rfl (by simp only[List.length_append,List.length_singleton];omega) ?_
      intro H5 hK5 hw5
      exact⟨hK4.trans hK5,hw5⟩
     ·refine⟨hK4,?_⟩
      have:(if selM kinds ((toksKT body t.ks).take j)=[] then optB begin_ else[])=[]:=by
       split
       ·rename_i hz
        rw[hz] at hc
        have hbe:begin_=eB:=by simpa [bytes_beq] using hc
        unfold optB;rw[if_pos hbe]
       ·rfl
      rw[this,List.append_nil];exact h3
    ·rintro _ H5 ⟨hK5,hw5⟩
     refine joinPK_and ?_
     refine⟨fun _ H'=>KeepT w H2 H'∧WAt H0 H' w m b o nn ds (ss++preM begin_ between (selM kinds ((toksKT body t.ks).take j))++(if selM kinds ((toksKT body t.ks).take j)=[] then optB begin_ else optB between)),?_,?_⟩
     ·refine fkI (fun hc=>?_) (fun hc=>?_)
      ·simp only[Bool.and_eq_true,bytes_beq] at hc
       have hz:selM kinds ((toksKT body t.ks).take j)≠ []:=by
        intro hz;rw[hz] at hc;simp at hc
       have hbe:between≠eB:=by simpa using hc.2
       have ho:optB between=[between]:=by unfold optB;rw[if_neg hbe]
       have hy:(if selM kinds ((toksKT body t.ks).take j)=[] then optB begin_ else optB between).length=1:=by rw[if_neg hz,ho];rfl
       rw[if_neg hz,List.append_nil] at hw5
       rw[if_neg hz,ho]
       refine put_step [between] hw5 rfl (by simp only[List.length_append,List.length_singleton];omega) ?_
       intro H6 hK6 hw6
       exact⟨hK5.trans hK6,hw6⟩
      ·refine⟨hK5,?_⟩
       have:(if selM kinds ((toksKT body t.ks).take j)=[] then optB begin_ else optB between)=(if selM kinds ((toksKT body t.ks).take j)=[] then optB begin_ else[]):=by
        split
        ·rfl
        ·rename_i hz
         have hz':0<(selM kinds ((toksKT body t.ks).take j)).length:=List.length_pos_iff.2 hz
         have hbe:between=eB:=by simpa [bytes_beq,hz'] using hc
         unfold optB;rw[if_pos hbe]
       rw[this];exact hw5
     ·rintro _ H6 ⟨hK6,hw6⟩
      have hL6:=(slc hK6).load (i:=j) (v:= .int .i64 (p:Int)) (by simp[intL,hpj])
      refine⟨hL6.1,_,hL6.2,?_⟩
      refine node_step hnj hw6 hatj hwj (by simp only[List.length_append] at hbj⊢;omega) ?_
      intro H7 hK7 hw7
      rw[wrap1 (by omega)]
      refine⟨⟨hK6.trans hK7,q+1,rfl,by omega,.inr ⟨by rw[htq,heq'];exact List.mem_append_right _ (List.mem_singleton.2 rfl),?_,?_⟩⟩,by omega⟩
      ·rw[hselj];simp
      ·rw[hselj,preM_snoc,←List.append_assoc,←List.append_assoc];exact hw7
  ·have hq':q=kinds.length:=by simp at hge2;omega
   rw[hq',List.take_length] at hst
   rw[wrap1 (by omega)]
   refine⟨⟨hK4,j+1,rfl,by omega,?_⟩,by omega⟩
   rcases hst with⟨h1,h2,h3⟩|⟨h1,h2,h3⟩
   ·rw[if_neg h1,List.append_nil] at hselj
    rw[hselj];exact⟨h2,h3⟩
   ·exact⟨h2,h3⟩
 ·have hj':j=t.ks.length:=by simp at hge;omega
  have htk:(toksKT body t.ks).take j=toksKT body t.ks:=List.take_of_length_le (by rw[hkt,List.length_map];omega)
  rw[htk] at hw3⊢
  refine joinPK_and ?_
  refine⟨fun _ H'=>KeepT w H2 H'∧WAt H0 H' w m b o nn ds (ss++kidsM begin_ end_ between kinds (toksKT body t.ks)),?_,?_⟩
  ·refine fkI (fun hc=>?_) (fun hc=>?_)
   ·simp only[Bool.and_eq_true,bytes_beq] at hc
    have hbe:end_≠eB:=by simpa using hc.2
    have ho:optB end_=[end_]:=by unfold optB;rw[if_neg hbe]
    have hkm:kidsM begin_ end_ between kinds (toksKT body t.ks)=preM begin_ between (selM kinds (toksKT body t.ks))++[end_]:=by
     unfold kidsM preM
     split
     ·rename_i hz;rw[hz] at hc;simp at hc
     ·rw[ho]
    rw[hkm] at hb⊢
    rw[←List.append_assoc]
    refine put_step [end_] hw3 rfl (by simp only[List.length_append,List.length_singleton] at hb⊢;omega) ?_
    intro H5 hK5 hw5
    exact⟨hK3.trans hK5,hw5⟩
   ·have hkm:kidsM begin_ end_ between kinds (toksKT body t.ks)=preM begin_ between (selM kinds (toksKT body t.ks)):=by
     unfold kidsM preM
     split
     ·rfl
     ·rename_i hz
      rw[hz] at hc
      have hbe:end_=eB:=by simpa [bytes_beq] using hc
      unfold optB;rw[if_pos hbe];simp
    rw[hkm]
    exact⟨hK3,hw3⟩
  ·rintro _ H5 ⟨hK5,hw5⟩
   exact rkI ⟨rfl,(hf.ext.keepT h.lt).trans hK5,hw5⟩
end
section
variable {body:Nd→KT→List ByteArray}
theorem kids_step {t:Tr} (hn: ∀k∈t.ks,NodeOk body k) {H0 H:Heap} {w m b o nn:Nat} {ds:List Nd} {ss:List ByteArray} {i:Nat} (h:WAt H0 H w m b o nn ds ss) (hat:At ds i (flat t)) (hws:Ws t)
 (begin_ end_ between:ByteArray) (kinds:List Int) (hnd:kinds.Nodup) {N C:Nat} (hN:N=kinds.length) (hN2:N<1000)
 (hb:ss.length+(kidsM begin_ end_ between kinds (toksKT body t.ks)).length≤1000000) {K:Unit→Heap→Prop}
 (hk: ∀H',KeepT w H H'→WAt H0 H' w m b o nn ds (ss++kidsM begin_ end_ between kinds (toksKT body t.ks))→K () H'):
 newB H (.cells (kinds.map (.int .i64 ·)).toArray tq3) fun kb H2=>callW PP fq41 #[.pointer (some ⟨w,0,none⟩),.int .i64 i,.string begin_,.string end_,.string between,.slice (some ⟨kb,0,none⟩) N C] H2
  ⟨Unit,fun _=> .tuple #[]⟩ fun x H3=>K x H3:=by
 refine nbI fun H2 _ hb2 ext2 _=>?_
 refine(wKids_ok hn (h.grow ext2) hat hws begin_ end_ between hnd hb2 hN hN2 hb).mono ?_
 rintro _ H3 ⟨rfl,hk3,hw3⟩
 exact⟨(),rfl,hk H3 ((ext2.keepT h.lt).trans hk3) hw3⟩
theorem about_step {t:Tr} (hn: ∀k∈t.ks,NodeOk body k) {H0 H:Heap} {w m b o nn:Nat} {ds:List Nd} {ss:List ByteArray} {i:Nat} (h:WAt H0 H w m b o nn ds ss) (hat:At ds i (flat t)) (hws:Ws t)
 (hb:ss.length+(kidsM eB eB eB [23] (toksKT body t.ks)).length≤1000000) {K:Unit→Heap→Prop}
 (hk: ∀H',KeepT w H H'→WAt H0 H' w m b o nn ds (ss++kidsM eB eB eB [23] (toksKT body t.ks))→K () H'):
 callW PP fq131 #[.pointer (some ⟨w,0,none⟩),.int .i64 i] H ⟨Unit,fun _=> .tuple #[]⟩ fun x H3=>K x H3:=by
 refine wAbout.enter w i H _ ?_
 unfold wAbout.W
 refine kids_step hn h hat hws eB eB eB [23] (by decide) rfl (by decide) hb ?_
 intro H' h1 h2
 exact rkI ⟨(),rfl,hk H' h1 h2⟩
theorem directives_step {t:Tr} (hn: ∀k∈t.ks,NodeOk body k) {H0 H:Heap} {w m b o nn:Nat} {ds:List Nd} {ss:List ByteArray} {i:Nat} (h:WAt H0 H w m b o nn ds ss) (hat:At ds i (flat t)) (hws:Ws t)
 (hb:ss.length+(kidsM eB eB eB [10] (toksKT body t.ks)).length≤1000000) {K:Unit→Heap→Prop}
 (hk: ∀H',KeepT w H H'→WAt H0 H' w m b o nn ds (ss++kidsM eB eB eB [10] (toksKT body t.ks))→K () H'):
 callW PP fq42 #[.pointer (some ⟨w,0,none⟩),.int .i64 i] H ⟨Unit,fun _=> .tuple #[]⟩ fun x H3=>K x H3:=by
 refine wDirectives.enter w i H _ ?_
 unfold wDirectives.W
 refine kids_step hn h hat hws eB eB eB [10] (by decide) rfl (by decide) hb ?_
 intro H' h1 h2
 exact rkI ⟨(),rfl,hk H' h1 h2⟩
def wFirstG (f:FuncId) (w:Nat) (i:Int) (sign_:ByteArray) (H:Heap) (R:Value→Heap→Prop):Prop:=
 loadW H false 1 ⟨w,0,none⟩ pSlc fun(x1:(Option Addr×Nat×Nat))=>
 callW PP fq26 #[(.slice x1.1 x1.2.1 x1.2.2),(.int .i64 i)] H pSlc fun(x2:(Option Addr×Nat×Nat)) H3=>
 loopK (Int×Unit) (0,()) H3 fun z4 H5 next6=>
 forkB (decide (z4.1<((x2.2.1:Nat):Int)))
 (loadW H5 false 1 ⟨w,0,none⟩ pSlc fun(x7:(Option Addr×Nat×Nat))=>
   (IxOk x2.1 z4.1 x2.2.1)∧
   loadW H5 false 1 ⟨(blkOf x2.1),(offOf x2.1+z4.1.toNat*1),none⟩ (pInt .i64) fun(x8:Int)=>
   (IxOk x7.1 x8 x7.2.1)∧
   loadW H5 true 6 ⟨(blkOf x7.1),(offOf x7.1+x8.toNat*6),none⟩ ⟨Int×ByteArray×ByteArray×ByteArray×Int×Int,fun x=>(.agg #[(.int .i64 x.1),(.string x.2.1),(.string x.2.2.1),(.string x.2.2.2.1),(.int .i64 x.2.2.2.2.1),(.int .i64 x.2.2.2.2.2)])⟩ fun(x9:Int×ByteArray×ByteArray×ByteArray×Int×Int)=>
   callW PP f #[(.agg #[(.int .i64 x9.1),(.string x9.2.1),(.string x9.2.2.1),(.string x9.2.2.2.1),(.int .i64 x9.2.2.2.2.1),(.int .i64 x9.2.2.2.2.2)])] H5 pBool fun(x10:Bool) H11=>
   forkB x10
   (forkB (!(sign_.toList==(bs []).toList))
     (newB H11 (.cells #[(.string sign_)] tq9) fun b12 H13=>
       callW PP fq40 #[(.pointer (some ⟨w,0,none⟩)),(.slice (some ⟨b12,0,none⟩) 1 1)] H13 ⟨Unit,fun _=>(.tuple #[])⟩ fun(_:Unit) H15=>
       (IxOk x2.1 z4.1 x2.2.1)∧
       loadW H15 false 1 ⟨(blkOf x2.1),(offOf x2.1+z4.1.toNat*1),none⟩ (pInt .i64) fun(x16:Int)=>
       callW PP fq31 #[(.pointer (some ⟨w,0,none⟩)),(.int .i64 x16)] H15 ⟨Unit,fun _=>(.tuple #[])⟩ fun(_:Unit) H18=>
       retK (some []) H18 R)
     ((IxOk x2.1 z4.1 x2.2.1)∧
       loadW H11 false 1 ⟨(blkOf x2.1),(offOf x2.1+z4.1.toNat*1),none⟩ (pInt .i64) fun(x19:Int)=>
       callW PP fq31 #[(.pointer (some ⟨w,0,none⟩)),(.int .i64 x19)] H11 ⟨Unit,fun _=>(.tuple #[])⟩ fun(_:Unit) H21=>
       retK (some []) H21 R))
   (next6 ((IntKind.i64.wrap (z4.1+1)),()) H11))
 (retK (some []) H5 R)
theorem wFirstG_ok (f:FuncId) (is_:Nd→Bool) (hf: ∀n H,Fn PP f #[.agg n.val] H fun v H'=>v= .bool (is_ n)∧Ext [] H H')
 {t:Tr} (hn: ∀k∈t.ks,NodeOk body k) {H0 H:Heap} {w m b o nn:Nat} {ds:List Nd} {ss:List ByteArray} {i:Nat} (h:WAt H0 H w m b o nn ds ss) (hat:At ds i (flat t)) (hws:Ws t)
 (sign_:ByteArray) (hb:ss.length+(firstM sign_ is_ (toksKT body t.ks)).length≤1000000) {R:Value→Heap→Prop}
 (hR: ∀H',KeepT w H H'→WAt H0 H' w m b o nn ds (ss++firstM sign_ is_ (toksKT body t.ks))→R (.tuple #[]) H'):wFirstG f w i sign_ H R:=by
 unfold wFirstG
 obtain⟨cc,hd⟩:=h.d
 refine⟨(some ⟨b,o,none⟩,nn,cc),hd,?_⟩
 refine(Kids_ok b o nn cc ds H h.doc i t hat hws).mono ?_
 rintro _ H2 ⟨a1,m1,k1,ps,rfl,hF,hp⟩
 refine⟨(a1,m1,k1),rfl,?_⟩
 have hS:=SlcAt.of_own hF.own
 have hm1:=hS.1
 simp only[intL,List.length_map] at hm1
 have hlen:=hp.length
 have hkl:=kids_len t
 have hle:=hat.le' (flat_ne _)
 have hdl:=h.doc.len
 have hdt:=h.doc.lt
 have hkt:toksKT body t.ks=t.ks.map fun t=>(t.n,toksOf body t):=toksKT_map body t.ks
 refine⟨fun z H'=>Ext [] H2 H'∧ ∃j:Nat,z.1=j∧j≤m1∧firstM sign_ is_ (toksKT body t.ks)=firstM sign_ is_ ((toksKT body t.ks).drop j),fun z _=>m1 -z.1.toNat,⟨Ext.refl _ _,0,rfl,Nat.zero_le _,rfl⟩,?_⟩
 rintro⟨_,_⟩ H3 ⟨hE3,j,hj,hjm,hfm⟩
 dsimp only at hj⊢
 subst hj
 have hw3:=h.grow (hF.ext.trans hE3)
 refine fkI (fun hlt=>?_) (fun hge=>?_)
 ·have hj':j<t.ks.length:=by simp at hlt;omega
  obtain⟨p,hpj,hatj,hwj⟩:=hp.get j hj'
  have hnj:=hn _ (List.getElem_mem hj')
  have hl:j<(toksKT body t.ks).length:=by rw[hkt];simpa using hj'
  have hdr:(toksKT body t.ks).drop j=(t.ks[j].n,toksOf body t.ks[j])::(toksKT body t.ks).drop (j+1):=by
   rw[List.drop_eq_getElem_cons hl];simp[hkt]
  rw[hdr] at hfm
  generalize t.ks[j]=u at hatj hwj hnj hfm
  have hple:=hatj.le' (flat_ne _)
  have hpos:=flat_pos u
  have hroot:=hatj.root
  obtain⟨cc3,hd3⟩:=hw3.d
  have hL:=(hS.ext hE3 (by simp)).load (i:=j) (v:= .int .i64 (p:Int)) (by simp[intL,hpj])
  refine⟨(some ⟨b,o,none⟩,nn,cc3),hd3,hL.1,_,hL.2,ix_some (by omega) (by dsimp only;omega),(u.n.kind,u.n.name,u.n.alias,u.n.text,u.n.flag,u.n.size),hw3.doc.nodes.all hroot,?_⟩
  refine(hf u.n H3).mono ?_
  rintro _ H4 ⟨rfl,hE4⟩
  have hw4:=hw3.grow hE4
  have hS4:=(hS.ext (hE3.trans hE4) (by simp))
  refine⟨_,rfl,fkI (fun hi=>?_) (fun hi=>?_)⟩
  ·have hfm':firstM sign_ is_ (toksKT body t.ks)=optB sign_++toksOf body u:=by
    rw[hfm];unfold firstM;rw[List.find?_cons_of_pos (by simpa using hi)]
   rw[hfm',List.length_append] at hb
   rw[hfm'] at hR
   refine fkI (fun hs=>?_) (fun hs=>?_)
   ·have hse:sign_≠eB:=by simpa [bytes_beq] using hs
    have ho:optB sign_=[sign_]:=by unfold optB;rw[if_neg hse]
    rw[ho] at hb hR
    simp only[List.length_singleton] at hb
    refine put_step [sign_] hw4 rfl (by simp only[List.length_singleton];omega) ?_
    intro H5 hK5 hw5
    have hS5:SlcAt H5 a1 m1 (intL ps):=by
     refine⟨hS.1,?_⟩
     rcases hF.own.2 with⟨_,h0,_⟩|⟨g,cur,hg,hgc,hnc,_,hs,ht⟩
     ·exact .inl h0
     ·refine .inr ⟨g,0,cur,tq3,(0,0),hg,hK5.get _ _ _ _ ((hE3.trans hE4).get _ _ hgc (by simp)) (by decide) (by decide),fun q s hq=>?_⟩
      have hlt:=(List.getElem?_eq_some_iff.1 hq).1
      have h2:(cur.toList.take (m1*1))[q]?=some s:=by rw[ht];exact hq
      simp only[intL,List.length_map] at hlt
      rw[List.getElem?_take,if_pos (by omega)] at h2
      simpa using h2
    have hL5:=hS5.load (i:=j) (v:= .int .i64 (p:Int)) (by simp[intL,hpj])
    refine⟨hL5.1,_,hL5.2,?_⟩
    refine node_step hnj hw5 hatj hwj (by simp only[List.length_append,List.length_singleton];omega) ?_
    intro H6 hK6 hw6
    refine rkI (hR H6 ?_ ?_)
    ·exact((((hF.ext.trans hE3).trans hE4).keepT h.lt).trans hK5).trans hK6
    ·rw[←List.append_assoc];exact hw6
   ·have hse:sign_=eB:=by simpa [bytes_beq] using hs
    have ho:optB sign_=[]:=by unfold optB;rw[if_pos hse]
    rw[ho] at hb hR
    simp only[List.length_nil,Nat.zero_add,List.nil_append] at hb hR
    have hL4:=hS4.load (i:=j) (v:= .int .i64 (p:Int)) (by simp[intL,hpj])
    refine⟨hL4.1,_,hL4.2,?_⟩
    refine node_step hnj hw4 hatj hwj hb ?_
    intro H6 hK6 hw6
    exact rkI (hR H6 ((((hF.ext.trans hE3).trans hE4).keepT h.lt).trans hK6) hw6)
  ·rw[wrap1 (by omega)]
   refine⟨⟨hE3.trans hE4,j+1,rfl,by omega,?_⟩,by omega⟩
   rw[hfm];unfold firstM;rw[List.find?_cons_of_neg (by simpa using hi)]
 ·have hj':j=t.ks.length:=by simp at hge;omega
  have hnil:(toksKT body t.ks).drop j=[]:=List.drop_eq_nil_of_le (by rw[hkt,List.length_map];omega)
  rw[hnil] at hfm
  have e:firstM sign_ is_ (toksKT body t.ks)=[]:=hfm
  rw[e,List.append_nil] at hR
  exact rkI (hR H3 ((hF.ext.trans hE3).keepT h.lt) hw3)
theorem firstType_step {t:Tr} (hn: ∀k∈t.ks,NodeOk body k) {H0 H:Heap} {w m b o nn:Nat} {ds:List Nd} {ss:List ByteArray} {i:Nat} (h:WAt H0 H w m b o nn ds ss) (hat:At ds i (flat t)) (hws:Ws t)
 (sign_:ByteArray) (hb:ss.length+(firstM sign_ isTypeM (toksKT body t.ks)).length≤1000000) {K:Unit→Heap→Prop}
 (hk: ∀H',KeepT w H H'→WAt H0 H' w m b o nn ds (ss++firstM sign_ isTypeM (toksKT body t.ks))→K () H'):
 callW PP fq43 #[.pointer (some ⟨w,0,none⟩),.int .i64 i,.string sign_,.func (.func fq44) #[] #[]] H ⟨Unit,fun _=> .tuple #[]⟩ fun x H3=>K x H3:=
 wFirstType.enter w i sign_ H _ (wFirstG_ok fq44 isTypeM isType_ok hn h hat hws sign_ hb fun H' h1 h2=>⟨(),rfl,hk H' h1 h2⟩)
theorem firstValue_step {t:Tr} (hn: ∀k∈t.ks,NodeOk body k) {H0 H:Heap} {w m b o nn:Nat} {ds:List Nd} {ss:List ByteArray} {i:Nat} (h:WAt H0 H w m b o nn ds ss) (hat:At ds i (flat t)) (hws:Ws t)
 (sign_:ByteArray) (hb:ss.length+(firstM sign_ isValueM (toksKT body t.ks)).length≤1000000) {K:Unit→Heap→Prop}
 (hk: ∀H',KeepT w H H'→WAt H0 H' w m b o nn ds (ss++firstM sign_ isValueM (toksKT body t.ks))→K () H'):
 callW PP fq43 #[.pointer (some ⟨w,0,none⟩),.int .i64 i,.string sign_,.func (.func fq45) #[] #[]] H ⟨Unit,fun _=> .tuple #[]⟩ fun x H3=>K x H3:=
 wFirstValue.enter w i sign_ H _ (wFirstG_ok fq45 isValueM isValue_ok hn h hat hws sign_ hb fun H' h1 h2=>⟨(),rfl,hk H' h1 h2⟩)
end
def blockGo (s:ByteArray) (i:Nat):ByteArray:=
 if i<s.size then
  if startsM s i quotes3=true then bs [92,34,34,34]++blockGo s (i+3)
  else s.extract i (i+1)++blockGo s (i+1)
 else bs [10,34,34,34]
 termination_by s.size -i
 decreasing_by all_goals omega
def blockTextM (s:ByteArray):ByteArray:=bs [34,34,34,10]++blockGo s 0
theorem Block_ok (s:ByteArray) (H:Heap) (hs:s.size<4294967200):Fn PP fq75 #[.string s] H fun v H'=>v= .string (blockTextM s)∧H=H':=by
 refine Block.enter s H _ ?_
 unfold Block.W
 refine⟨fun z H'=>H=H'∧ ∃k:Nat,z.2.1=k∧k≤s.size+2∧z.1.size≤4*k+4∧blockTextM s=z.1++blockGo s k,fun z _=>s.size -z.2.1.toNat,⟨rfl,0,rfl,by omega,(show(4:Nat)≤4 by decide),rfl⟩,?_⟩
 rintro⟨out,_,_⟩ _ ⟨rfl,k,hk,hks,ho,hb⟩
 dsimp only at hk ho hb⊢
 subst hk
 unfold blockGo at hb
 refine fkI (fun hlt=>?_) (fun hge=>?_)
 ·have hlt':k<s.size:=by simp at hlt;exact hlt
  rw[if_pos hlt'] at hb
  refine(starts_ok s quotes3 k H (by omega) (by omega) (by decide)).mono ?_
  rintro _ _ ⟨rfl,rfl⟩
  have e4:(bs [92,34,34,34]).size=4:=rfl
  refine⟨_,rfl,fkI (fun hst=>?_) (fun hst=>?_)⟩
  ·have hst':=startsM_le hst
   have e3:quotes3.size=3:=rfl
   rw[if_pos hst] at hb
   rw[e4,wrapL (k:=k) 3]
   refine⟨by omega,⟨rfl,k+3,rfl,by omega,?_,?_⟩,by omega⟩
   ·rw[ByteArray.size_append,e4];omega
   ·rw[hb,ByteArray.append_assoc]
  ·rw[if_neg (by rw[hst];simp)] at hb
   rw[wrap1 (by omega)]
   have e1:((k+1:Nat):Int).toNat=k+1:=by omega
   have e2:(k:Int).toNat=k:=by omega
   rw[e1,e2]
   have hz:(s.extract k (k+1)).size=1:=by rw[ByteArray.size_extract];omega
   rw[hz]
   refine⟨by omega,by omega,⟨rfl,k+1,rfl,by omega,?_,?_⟩,by omega⟩
   ·rw[ByteArray.size_append,hz];omega
   ·rw[hb,ByteArray.append_assoc]
 ·have hge': ¬k<s.size:=by simp at hge;omega
  rw[if_neg hge'] at hb
  have e4:(bs [10,34,34,34]).size=4:=rfl
  exact⟨by rw[e4];omega,rkI ⟨by rw[hb];rfl,rfl⟩⟩
def digB:ByteArray:=bs [48,49,50,51,52,53,54,55,56,57,97,98,99,100,101,102]
def hx3 (c:Int):Int:=c.fdiv (2^(min (12:Int).toNat 64))
def hx2 (c:Int):Int:=IntKind.i64.wrap ((BitVec.ofInt 64 (c.fdiv (2^(min (8:Int).toNat 64)))&&&BitVec.ofInt 64 15).toNat:Int)
def hx1 (c:Int):Int:=IntKind.i64.wrap ((BitVec.ofInt 64 (c.fdiv (2^(min (4:Int).toNat 64)))&&&BitVec.ofInt 64 15).toNat:Int)
def hx0 (c:Int):Int:=IntKind.i64.wrap ((BitVec.ofInt 64 c&&&BitVec.ofInt 64 15).toNat:Int)
def digM (e:Int):ByteArray:=digB.extract e.toNat (IntKind.i64.wrap (e+1)).toNat
def escM (c:Int):ByteArray:=((((bs [92,117])++digM (hx3 c))++digM (hx2 c))++digM (hx1 c))++digM (hx0 c)
def escaped (c:Int):Bool:=decide (c<32)||(c==127||c==65279)
theorem hx_range (c:Int) (h0:0≤c) (h:escaped c=true):(0≤hx3 c∧hx3 c≤15)∧(0≤hx2 c∧hx2 c≤15)∧(0≤hx1 c∧hx1 c≤15)∧(0≤hx0 c∧hx0 c≤15):=by
 have key: ∀k:Fin 32,(0≤hx3 (k.val:Int)∧hx3 (k.val:Int)≤15)∧(0≤hx2 (k.val:Int)∧hx2 (k.val:Int)≤15)∧(0≤hx1 (k.val:Int)∧hx1 (k.val:Int)≤15)∧(0≤hx0 (k.val:Int)∧hx0 (k.val:Int)≤15):=by decide
 simp only[escaped,Bool.or_eq_true,decide_eq_true_eq,beq_iff_eq] at h
 rcases h with h|rfl|rfl
 ·have:=key ⟨c.toNat,by omega⟩
  have e:((c.toNat:Nat):Int)=c:=by omega
  simp only[e] at this
  exact this
 ·decide
 ·decide
theorem pointM_nonneg (s:ByteArray) (a:Nat):0≤(pointM s a).1:=by
 have go: ∀(n i:Nat) (c d:Int),0≤c→pointGo s i n c=some d→0≤d:=by
  intro n
  induction n with
  |zero=>intro i c d h0 h;simp[pointGo] at h;omega
  |succ n ih=>
   intro i c d h0 h
   simp only[pointGo] at h
   split at h
   ·cases h
   ·rename_i hb
    exact ih (i+1) _ d (by omega) h
 have hr:=bt_range s a
 unfold pointM
 dsimp only
 split
 ·dsimp only;omega
 ·split
  ·simp
  ·split
   ·simp
   ·rename_i c hc
    have hh:0≤(pointHead (bt s a)).1:=by unfold pointHead;split;(dsimp only;omega);split;(dsimp only;omega);split;(dsimp only;omega);simp
    have:=go _ _ _ _ hh hc
    split
    ·simp
    ·dsimp only;omega
def quoteOne (s:ByteArray) (i:Nat) (c:Int) (n:Nat):ByteArray:=
 if(c==34||c==92)=true then bs [92]++s.extract i (i+1) else if escaped c=true then escM c else s.extract i (i+n)
def quoteGo (s:ByteArray) (i:Nat):ByteArray:=
 if _h:i<s.size then
  if _h2:(pointM s i).2=0 then bs [34]
  else quoteOne s i (pointM s i).1 (pointM s i).2++quoteGo s (i+(pointM s i).2)
 else bs [34]
 termination_by s.size -i
 decreasing_by omega
def quoteM (s:ByteArray):ByteArray:=bs [34]++quoteGo s 0
theorem digM_size (e:Int) (h:0≤e∧e≤15):(digM e).size≤1:=by
 unfold digM
 rw[i64w (by omega),ByteArray.size_extract]
 have:digB.size=16:=rfl
 omega
theorem escM_size (c:Int) (h:(0≤hx3 c∧hx3 c≤15)∧(0≤hx2 c∧hx2 c≤15)∧(0≤hx1 c∧hx1 c≤15)∧(0≤hx0 c∧hx0 c≤15)):(escM c).size≤6:=by
 unfold escM
 rw[ByteArray.size_append,ByteArray.size_append,ByteArray.size_append,ByteArray.size_append]
 have e:(bs [92,117]).size=2:=rfl
 have:=digM_size _ h.1
 have:=digM_size _ h.2.1
 have:=digM_size _ h.2.2.1
 have:=digM_size _ h.2.2.2
 omega
theorem Quote_ok (s:ByteArray) (H:Heap) (hs:s.size<4294967200):Fn PP fq76 #[.string s] H fun v H'=>v= .string (quoteM s)∧H=H':=by
 refine Quote.enter s H _ ?_
 unfold Quote.W
 refine⟨fun z H'=>H=H'∧ ∃k:Nat,z.2.1=k∧k≤s.size∧z.1.size≤6*k+1∧quoteM s=z.1++quoteGo s k,fun z _=>s.size -z.2.1.toNat,⟨rfl,0,rfl,by omega,(show(1:Nat)≤1 by decide),rfl⟩,?_⟩
 rintro⟨out,_,_⟩ _ ⟨rfl,k,hk,hks,ho,hq⟩
 dsimp only at hk ho hq⊢
 subst hk
 unfold quoteGo at hq
 have e1:(bs [34]).size=1:=rfl
 refine fkI (fun hlt=>?_) (fun hge=>?_)
 ·have hlt':k<s.size:=by simp at hlt;exact hlt
  rw[dif_pos hlt'] at hq
  refine(Point_ok s k H hlt' (by omega)).mono ?_
  rintro _ _ ⟨rfl,rfl⟩
  have hpl:=pointM_le s k hlt'
  have hc0:=pointM_nonneg s k
  generalize pointM s k=cn at hpl hc0 hq⊢
  obtain⟨c,n⟩:=cn
  dsimp only at hpl hc0 hq
  refine⟨(c,n),rfl,fkI (fun h0=>?_) (fun h0=>?_)⟩
  ·have h0':n=0:=by simp at h0;omega
   rw[dif_pos h0'] at hq
   exact⟨by rw[e1];omega,rkI ⟨by rw[hq];rfl,rfl⟩⟩
  ·have h0': ¬n=0:=by simp at h0;omega
   rw[dif_neg h0'] at hq
   refine joinPK_or ?_
   have hw:IntKind.i64.wrap ((k:Int)+(n:Int))=((k+n:Nat):Int):=wrapN (by omega) n (by omega)
   have ek:(k:Int).toNat=k:=by omega
   have ek1:((k+1:Nat):Int).toNat=k+1:=by omega
   have ekn:((k+n:Nat):Int).toNat=k+n:=by omega
   refine⟨fun y H'=>H=H'∧y.1=out++quoteOne s k c n∧(quoteOne s k c n).size≤6*n,?_,?_⟩
   ·refine fkI (fun hb=>?_) (fun hb=>?_)
    ·dsimp only at hb
     rw[wrap1 (k:=k) (by omega),ek,ek1]
     have hz:(s.extract k (k+1)).size=1:=by rw[ByteArray.size_extract];omega
     have e92:(bs [92]).size=1:=rfl
     have hz2:(bs [92]++s.extract k (k+1)).size=2:=by rw[ByteArray.size_append,hz,e92]
     have hqo:quoteOne s k c n=bs [92]++s.extract k (k+1):=by unfold quoteOne;rw[if_pos hb]
     rw[hqo,hz,e92,hz2]
     exact⟨by omega,by omega,by omega,rfl,rfl,by omega⟩
    ·dsimp only at hb
     refine⟨(escaped c,()),?_,?_⟩
     ·refine fkI (fun h1=>⟨?_,rfl⟩) (fun h1=>?_)
      ·unfold escaped;rw[show decide (c<32)=true from h1];rfl
      ·refine fkI (fun h2=>⟨?_,rfl⟩) (fun h2=>⟨?_,rfl⟩)
       ·unfold escaped;rw[show decide (c<32)=false from h1,show(c==127)=true from h2];rfl
       ·unfold escaped;rw[show decide (c<32)=false from h1,show(c==127)=false from h2];rfl
     ·refine⟨fun y H'=>H=H'∧y.1=out++quoteOne s k c n∧(quoteOne s k c n).size≤6*n,?_,fun _ _ h=>h⟩
      refine fkI (fun he=>?_) (fun he=>?_)
      ·dsimp only at he⊢
       have hr:=hx_range c hc0 he
       have hes:=escM_size c hr
       have hqo:quoteOne s k c n=escM c:=by unfold quoteOne;rw[if_neg (by rw[hb];simp),if_pos he]
       rw[hqo]
       have e16:(bs [48,49,50,51,52,53,54,55,56,57,97,98,99,100,101,102]).size=16:=rfl
       have eu:(bs [92,117]).size=2:=rfl
       have hm:escM c=((((bs [92,117])++digM (hx3 c))++digM (hx2 c))++digM (hx1 c))++digM (hx0 c):=rfl
       have d3:=digM_size _ hr.1
       have d2:=digM_size _ hr.2.1
       have d1:=digM_size _ hr.2.2.1
       have d0:=digM_size _ hr.2.2.2
       have side: ∀e:Int,0≤e∧e≤15→(((0:Int)≤IntKind.i64.wrap (e+1)∧IntKind.i64.wrap (e+1)≤(((bs [48,49,50,51,52,53,54,55,56,57,97,98,99,100,101,102]).size:Nat):Int))∧((0:Int)≤e∧e≤(((IntKind.i64.wrap (e+1)).toNat:Nat):Int))):=by
        intro e he2
        rw[i64w (by omega),e16];omega
       have sz: ∀(a b:ByteArray) (m1 m2:Nat),a.size≤m1→b.size≤m2→m1+m2≤1000→(((a.size+b.size:Nat):Int)≤9223372036854775807):=by intro a b m1 m2 h1 h2 h3;omega
       have z1:((bs [92,117])++digM (hx3 c)).size≤3:=by rw[ByteArray.size_append,eu];omega
       have z2:(((bs [92,117])++digM (hx3 c))++digM (hx2 c)).size≤4:=by rw[ByteArray.size_append];omega
       have z3:((((bs [92,117])++digM (hx3 c))++digM (hx2 c))++digM (hx1 c)).size≤5:=by rw[ByteArray.size_append];omega
       refine⟨side (hx3 c) hr.1,sz _ (digM (hx3 c)) 2 1 (by rw[eu];omega) d3 (by omega),side (hx2 c) hr.2.1,sz (bs [92,117]++digM (hx3 c)) (digM (hx2 c)) 3 1 z1 d2 (by omega),side (hx1 c) hr.2.2.1,
        sz (bs [92,117]++digM (hx3 c)++digM (hx2 c)) (digM (hx1 c)) 4 1 z2 d1 (by omega),side (hx0 c) hr.2.2.2,sz (bs [92,117]++digM (hx3 c)++digM (hx2 c)++digM (hx1 c)) (digM (hx0 c)) 5 1 z3 d0 (by omega),?_,rfl,rfl,by omega⟩
       show(((out.size+(escM c).size:Nat):Int)≤9223372036854775807)
       omega
      ·dsimp only at he⊢
       have hqo:quoteOne s k c n=s.extract k (k+n):=by unfold quoteOne;rw[if_neg (by rw[hb];simp),if_neg (by rw[he];simp)]
       rw[hw,ek,ekn,hqo]
       have hz:(s.extract k (k+n)).size=n:=by rw[ByteArray.size_extract];omega
       rw[hz]
       exact⟨by omega,by omega,rfl,rfl,by omega⟩
   ·rintro⟨y,_⟩ _ ⟨rfl,hy,hys⟩
    dsimp only at hy⊢
    rw[hw]
    refine⟨⟨rfl,k+n,rfl,by omega,?_,?_⟩,by omega⟩
    ·rw[hy,ByteArray.size_append];omega
    ·rw[hq,hy,ByteArray.append_assoc]
 ·have hge': ¬k<s.size:=by simp at hge;omega
  rw[dif_neg hge'] at hq
  exact⟨by rw[e1];omega,rkI ⟨by rw[hq];rfl,rfl⟩⟩
abbrev sParL:ByteArray:=bs [40]
abbrev sParR:ByteArray:=bs [41]
abbrev sBraL:ByteArray:=bs [123]
abbrev sBraR:ByteArray:=bs [125]
abbrev sSqL:ByteArray:=bs [91]
abbrev sSqR:ByteArray:=bs [93]
abbrev sEq:ByteArray:=bs [61]
abbrev sCol:ByteArray:=bs [58]
abbrev sDol:ByteArray:=bs [36]
abbrev sAt:ByteArray:=bs [64]
abbrev sAmp:ByteArray:=bs [38]
abbrev sPipe:ByteArray:=bs [124]
abbrev sDots:ByteArray:=bs [46,46,46]
abbrev sBang:ByteArray:=bs [33]
abbrev wFragment:ByteArray:=bs [102,114,97,103,109,101,110,116]
abbrev wSchema:ByteArray:=bs [115,99,104,101,109,97]
abbrev wScalar:ByteArray:=bs [115,99,97,108,97,114]
abbrev wType:ByteArray:=bs [116,121,112,101]
abbrev wImplements:ByteArray:=bs [105,109,112,108,101,109,101,110,116,115]
abbrev wInterface:ByteArray:=bs [105,110,116,101,114,102,97,99,101]
abbrev wUnion:ByteArray:=bs [117,110,105,111,110]
abbrev wEnum:ByteArray:=bs [101,110,117,109]
abbrev wInput:ByteArray:=bs [105,110,112,117,116]
abbrev wDirective:ByteArray:=bs [100,105,114,101,99,116,105,118,101]
abbrev wExtend:ByteArray:=bs [101,120,116,101,110,100]
def allM (kt:KT):List ByteArray:=kt.flatMap fun x=>x.2
def dirsM (kt:KT):List ByteArray:=kidsM eB eB eB [10] kt
def selsM (kt:KT):List ByteArray:=kidsM eB eB eB [5] kt
def defM (n:Nd) (kt:KT):List ByteArray:=kidsM eB eB eB [23] kt++
 (if n.kind=24 then[wSchema]++(dirsM kt++(kidsM sBraL sBraR eB [25] kt++[]))
 else if n.kind=25 then[n.text,sCol,n.name]++[]
 else if n.kind=26 then[wScalar,n.name]++(dirsM kt++[])
 else if n.kind=27 then[wType,n.name]++(kidsM wImplements eB sAmp [28] kt++(dirsM kt++(kidsM sBraL sBraR eB [29] kt++[])))
 else if n.kind=31 then[wInterface,n.name]++(dirsM kt++(kidsM sBraL sBraR eB [29] kt++[]))
 else if n.kind=29 then[n.name]++(kidsM sParL sParR eB [30] kt++(firstM sCol isTypeM kt++(dirsM kt++[])))
 else if n.kind=30 then[n.name]++(firstM sCol isTypeM kt++(firstM sEq isValueM kt++(dirsM kt++[])))
 else if n.kind=32 then[wUnion,n.name]++(dirsM kt++(kidsM sEq eB sPipe [33] kt++[]))
 else if n.kind=34 then[wEnum,n.name]++(dirsM kt++(kidsM sBraL sBraR eB [35] kt++[]))
 else if n.kind=35 then[n.name]++(dirsM kt++[])
 else if n.kind=36 then[wInput,n.name]++(dirsM kt++(kidsM sBraL sBraR eB [30] kt++[]))
 else if n.kind=37 then[wDirective,sAt,n.name]++(kidsM sParL sParR eB [30] kt++(kidsM onB eB sPipe [38] kt++[]))
 else if n.kind=39 then[wExtend]++(allM kt++[])
 else[])
def restM (n:Nd) (kt:KT):List ByteArray:=
 if n.kind=11 then[sDol,n.name]++[]
 else if n.kind=12∨n.kind=13 then[n.text]++[]
 else if n.kind=14∨n.kind=23 then[if n.flag=1 then blockTextM n.text else quoteM n.text]++[]
 else if n.kind=15 then[if n.flag=0 then falseB else trueB]++[]
 else if n.kind=17 then[sSqL]++(allM kt++([sSqR]++[]))
 else if n.kind=18 then[sBraL]++(allM kt++([sBraR]++[]))
 else if n.kind=21 then[sSqL]++(allM kt++([sSqR]++[]))
 else if n.kind=22 then allM kt++([sBang]++[])
 else if n.kind=16∨n.kind=20∨n.kind=28∨n.kind=33∨n.kind=38 then[n.name]++[]
 else defM n kt
def bodyM (n:Nd) (kt:KT):List ByteArray:=
 if n.kind=1 then allM kt++[]
 else if n.kind=2 then(if n.flag=0 then[n.text]++optB n.name else[])++(kidsM sParL sParR eB [4] kt++(dirsM kt++(selsM kt++[])))
 else if n.kind=3 then[wFragment,n.name,onB,n.text]++(dirsM kt++(selsM kt++[]))
 else if n.kind=4 then[sDol,n.name,sCol]++(firstM eB isTypeM kt++(firstM sEq isValueM kt++[]))
 else if n.kind=5 then kidsM sBraL sBraR eB [6,7,8] kt++[]
 else if n.kind=6 then(if n.alias=eB then[] else[n.alias,sCol])++([n.name]++(kidsM sParL sParR eB [9] kt++(dirsM kt++(selsM kt++[]))))
 else if n.kind=7 then[sDots,n.name]++(dirsM kt++[])
 else if n.kind=8 then[sDots]++((if n.text=eB then[] else[onB,n.text])++(dirsM kt++(selsM kt++[])))
 else if n.kind=9∨n.kind=19 then[n.name,sCol]++(firstM eB isValueM kt++[])
 else if n.kind=10 then[sAt,n.name]++(kidsM sParL sParR eB [9] kt++[])
 else restM n kt
abbrev toks (t:Tr):List ByteArray:=toksOf bodyM t
abbrev ktOf (t:Tr):KT:=toksKT bodyM t.ks
theorem toks_eq (t:Tr):toks t=bodyM t.n (ktOf t):=by cases t;simp[toks,toksOf,ktOf,Tr.n,Tr.ks]
structure NCtx (t:Tr) (H0:Heap) (w m b o nn:Nat) (ds:List Nd) (ss:List ByteArray) (i:Nat):Prop where
 kids: ∀k∈t.ks,NodeOk bodyM k
 at_:At ds i (flat t)
 ws:Ws t
 few:ss.length+(toks t).length≤1000000
def TS (t:Tr) (H0 Hs:Heap) (w m b o nn:Nat) (ds:List Nd) (ss:List ByteArray) (H:Heap) (rest:List ByteArray):Prop:=
 ∃acc,toks t=acc++rest∧KeepT w Hs H∧WAt H0 H w m b o nn ds (ss++acc)
section
variable {t:Tr} {H0 Hs H:Heap} {w m b o nn i:Nat} {ds:List Nd} {ss rest:List ByteArray}
theorem TS.few (c:NCtx t H0 w m b o nn ds ss i) {acc xs rest:List ByteArray} (h:toks t=acc++(xs++rest)):(ss++acc).length+xs.length≤1000000:=by
 have h1:=c.few
 rw[h] at h1
 simp only[List.length_append] at h1⊢;omega
theorem TS.get {rest:List ByteArray} (h:TS t H0 Hs w m b o nn ds ss H rest) {k:Nat} {cs:Array Value} {e:TypeId} {fr:Nat×Nat} (hk:Hs[k]?=some (.cells cs e fr)) (h1:e≠tq49) (h2:e≠tq9):H[k]?=some (.cells cs e fr):=by
 obtain⟨_,_,hK,_⟩:=h
 exact hK.get _ _ _ _ hk h1 h2
theorem TS.done {acc xs:List ByteArray} {H':Heap} (hs:toks t=acc++(xs++rest)) (hK:KeepT w Hs H) (hk:KeepT w H H') (hw:WAt H0 H' w m b o nn ds (ss++acc++xs)):TS t H0 Hs w m b o nn ds ss H' rest:=
 ⟨acc++xs,by rw[hs,List.append_assoc],hK.trans hk,by rw[←List.append_assoc];exact hw⟩
theorem put_ts (c:NCtx t H0 w m b o nn ds ss i) (xs:List ByteArray) (h:TS t H0 Hs w m b o nn ds ss H (xs++rest)) {N C:Nat} (hN:N=xs.length) {K:Unit→Heap→Prop} (hk: ∀H',TS t H0 Hs w m b o nn ds ss H' rest→K () H'):
 newB H (.cells (xs.map .string).toArray tq9) fun lb H2=>callW PP fq40 #[.pointer (some ⟨w,0,none⟩),.slice (some ⟨lb,0,none⟩) N C] H2 ⟨Unit,fun _=> .tuple #[]⟩ fun x H3=>K x H3:=by
 obtain⟨acc,hs,hK,hw⟩:=h
 refine put_step xs hw hN (TS.few c hs) ?_
 intro H' hK' hw'
 exact hk H' (TS.done hs hK hK' hw')
theorem kids_ts (c:NCtx t H0 w m b o nn ds ss i) (begin_ end_ between:ByteArray) (kinds:List Int) (hnd:kinds.Nodup) (h:TS t H0 Hs w m b o nn ds ss H (kidsM begin_ end_ between kinds (ktOf t)++rest)) {N C:Nat} (hN:N=kinds.length)
 (hN2:N<1000) {K:Unit→Heap→Prop} (hk: ∀H',TS t H0 Hs w m b o nn ds ss H' rest→K () H'):
 newB H (.cells (kinds.map (.int .i64 ·)).toArray tq3) fun kb H2=>callW PP fq41 #[.pointer (some ⟨w,0,none⟩),.int .i64 i,.string begin_,.string end_,.string between,.slice (some ⟨kb,0,none⟩) N C] H2
  ⟨Unit,fun _=> .tuple #[]⟩ fun x H3=>K x H3:=by
 obtain⟨acc,hs,hK,hw⟩:=h
 refine kids_step c.kids hw c.at_ c.ws begin_ end_ between kinds hnd hN hN2 (TS.few c hs) ?_
 intro H' hK' hw'
 exact hk H' (TS.done hs hK hK' hw')
theorem dirs_ts (c:NCtx t H0 w m b o nn ds ss i) (h:TS t H0 Hs w m b o nn ds ss H (dirsM (ktOf t)++rest)) {K:Unit→Heap→Prop} (hk: ∀H',TS t H0 Hs w m b o nn ds ss H' rest→K () H'):
 callW PP fq42 #[.pointer (some ⟨w,0,none⟩),.int .i64 i] H ⟨Unit,fun _=> .tuple #[]⟩ fun x H3=>K x H3:=by
 obtain⟨acc,hs,hK,hw⟩:=h
 refine directives_step c.kids hw c.at_ c.ws (TS.few c hs) ?_
 intro H' hK' hw'
 exact hk H' (TS.done hs hK hK' hw')
theorem about_ts (c:NCtx t H0 w m b o nn ds ss i) (h:TS t H0 Hs w m b o nn ds ss H (kidsM eB eB eB [23] (ktOf t)++rest)) {K:Unit→Heap→Prop} (hk: ∀H',TS t H0 Hs w m b o nn ds ss H' rest→K () H'):
 callW PP fq131 #[.pointer (some ⟨w,0,none⟩),.int .i64 i] H ⟨Unit,fun _=> .tuple #[]⟩ fun x H3=>K x H3:=by
 obtain⟨acc,hs,hK,hw⟩:=h
 refine about_step c.kids hw c.at_ c.ws (TS.few c hs) ?_
 intro H' hK' hw'
 exact hk H' (TS.done hs hK hK' hw')
theorem firstType_ts (c:NCtx t H0 w m b o nn ds ss i) (sign_:ByteArray) (h:TS t H0 Hs w m b o nn ds ss H (firstM sign_ isTypeM (ktOf t)++rest)) {K:Unit→Heap→Prop} (hk: ∀H',TS t H0 Hs w m b o nn ds ss H' rest→K () H'):
 callW PP fq43 #[.pointer (some ⟨w,0,none⟩),.int .i64 i,.string sign_,.func (.func fq44) #[] #[]] H ⟨Unit,fun _=> .tuple #[]⟩ fun x H3=>K x H3:=by
 obtain⟨acc,hs,hK,hw⟩:=h
 refine firstType_step c.kids hw c.at_ c.ws sign_ (TS.few c hs) ?_
 intro H' hK' hw'
 exact hk H' (TS.done hs hK hK' hw')
theorem firstValue_ts (c:NCtx t H0 w m b o nn ds ss i) (sign_:ByteArray) (h:TS t H0 Hs w m b o nn ds ss H (firstM sign_ isValueM (ktOf t)++rest)) {K:Unit→Heap→Prop} (hk: ∀H',TS t H0 Hs w m b o nn ds ss H' rest→K () H'):
 callW PP fq43 #[.pointer (some ⟨w,0,none⟩),.int .i64 i,.string sign_,.func (.func fq45) #[] #[]] H ⟨Unit,fun _=> .tuple #[]⟩ fun x H3=>K x H3:=by
 obtain⟨acc,hs,hK,hw⟩:=h
 refine firstValue_step c.kids hw c.at_ c.ws sign_ (TS.few c hs) ?_
 intro H' hK' hw'
 exact hk H' (TS.done hs hK hK' hw')
theorem TS.grow (h:TS t H0 Hs w m b o nn ds ss H rest) {H':Heap} (he:Ext [] H H'):TS t H0 Hs w m b o nn ds ss H' rest:=by
 obtain⟨acc,hs,hK,hw⟩:=h
 exact⟨acc,hs,hK.trans (he.keepT hw.lt),hw.grow he⟩
theorem TS.start (h:WAt H0 Hs w m b o nn ds ss) (hr:toks t=rest):TS t H0 Hs w m b o nn ds ss Hs rest:=
 ⟨[],by rw[hr];rfl,KeepT.refl _ _,by rw[List.append_nil];exact h⟩
theorem TS.fin (h:TS t H0 Hs w m b o nn ds ss H []):KeepT w Hs H∧WAt H0 H w m b o nn ds (ss++toks t):=by
 obtain⟨acc,hs,hK,hw⟩:=h
 rw[List.append_nil] at hs
 exact⟨hK,by rw[hs];exact hw⟩
end
end Go.Vx
