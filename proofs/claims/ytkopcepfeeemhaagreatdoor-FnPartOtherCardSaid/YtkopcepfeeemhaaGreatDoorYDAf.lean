/- A part of the proof of what the last text of this claim says: PB7, PC1, PC2, PC3, PC4, PC5, PC6, PC7, PC8. Conditions: none. -/
import Derived.Test.YtkopcepfeeemhaaGreatDoorYDAe
set_option maxRecDepth 10000
namespace Go.Vx
open Go Go.Proofs
def k1c (n:Nd):Nat:=n.text.size+n.name.size+n.alias.size
def k36:List Nd→Nat
 |[]=>0
 |n::r=>k1c n+k36 r
theorem kkr (a b:List Nd):k36 (a++b)=k36 a+k36 b:=by
 induction a with
 |nil=>simp[k36]
 |cons x r ih=>simp[k36,ih];omega
def Good (t:Tr):Prop:= ∀u∈preT t,k2H u.n∧ShapedP u
structure DocP (ds:List Nd) (t:Tr):Prop where
 flat:ds=flat t
 ws:Ws t
 good:Good t
 len:ds.length≤400
 bytes:k36 ds≤4000
def k4C (ds:List Nd):Prop:= ∀n∈ds,n.name.size≤2147483647∧n.alias.size≤2147483647∧n.text.size≤2147483647
theorem kjQ (b o n c:Nat) (ds:List Nd) (H:Heap) (h:Doc H b o n ds) (hs:k4C ds):
 Fn PP fq29 #[.slice (some ⟨b,o,none⟩) n c] H fun v H'=> ∃r,v= .bool r∧Ext [] H H'∧(r=true→0<n∧ ∃t,DocP ds t):=by
 refine rightFrom.enter b o n c H _ ?_
 unfold rightFrom.W
 have no: ∀ {H'},Ext [] H H'→rk [.bool false] H' fun v H'=> ∃r,v= .bool r∧Ext [] H H'∧(r=true→0<n∧ ∃t,DocP ds t):=fun h=>rkI ⟨false,rfl,h,by simp⟩
 have hn:=h.len
 refine fkI (fun _=>no (Ext.refl _ _)) (fun h0=>fkI (fun _=>no (Ext.refl _ _)) (fun h4=>?_))
 have h0':0<n:=by simp at h0;omega
 have h4':n≤400:=by simp at h4;omega
 obtain⟨nd,hnd⟩: ∃nd,ds[0]?=some nd:=⟨ds[0]'(by omega),List.getElem?_eq_getElem (by omega)⟩
 refine⟨k0k (by omega) (by omega),_,h.nodes.size (i:=0) hnd,fkI (fun _=>no (Ext.refl _ _)) (fun h1=>?_)⟩
 have h1':nd.size=n:=by simpa using h1
 refine(kkc b o n c ds H h 42 0 n 0 (by omega) h0' (Nat.le_refl _) (by omega)).mono ?_
 rintro _ _ ⟨r,rfl,rfl,hr⟩
 refine⟨r,rfl,fkI (fun _=>no (Ext.refl _ _)) (fun hr1=>?_)⟩
 obtain⟨t,hat,hw,hle⟩:=hr (by simpa using hr1)
 have hroot:=hat.root
 rw[hnd] at hroot
 have hfl:(flat t).length=n:=by
  have:=hw.size
  cases hroot
  omega
 have hds:ds=flat t:=by
  obtain⟨post,hp⟩:=hat
  rw[List.drop_zero] at hp
  have:post=[]:=by
   have:=congrArg List.length hp
   rw[List.length_append] at this
   exact List.eq_nil_of_length_eq_zero (by omega)
  rw[hp,this,List.append_nil]
 have hpl:=k8f t
 refine⟨fun z H'=>Ext [] H H'∧ ∃(k m:Nat),z.1=m∧z.2.1=k∧k≤n∧m≤4000∧m=k36 (ds.take k)∧ ∀j,j<k→ ∀u,(preT t)[j]?=some u→k2H u.n∧ShapedP u,
  fun z _=>n -z.2.1.toNat,⟨Ext.refl _ _,0,0,rfl,rfl,Nat.zero_le _,by omega,rfl,fun j hj=>by omega⟩,?_⟩
 rintro⟨_,_,_⟩ H3 ⟨hE,k,m,hm,hk,hkn,hm4,hms,hall⟩
 dsimp only at hm hk⊢
 subst hm hk
 have hD:=h.ext hE (by simp)
 refine fkI (fun hlt=>?_) (fun hge=>?_)
 ·have hk':k<(preT t).length:=by simp at hlt;omega
  have hu:(preT t)[k]?=some (preT t)[k]:=List.getElem?_eq_getElem hk'
  have hpa:=kaq t k _ hu
  have hwu:=k8g t hw _ (List.getElem_mem hk')
  generalize (preT t)[k]=u at hu hpa hwu
  have hatu:At ds k (flat u):=by rw[hds];exact hpa
  have hru:=hatu.root
  have hmem:u.n∈ds:=List.mem_of_getElem? hru
  obtain⟨s1,s2,s3⟩:=hs _ hmem
  have f3:=hD.nodes.fld hru 3 (by decide)
  have f1:=hD.nodes.fld hru 1 (by decide)
  have f2:=hD.nodes.fld hru 2 (by decide)
  have ek:(k:Int).toNat=k:=by omega
  rw[ek]
  refine⟨k0k (by omega) (by omega),u.n.text,by simpa [Nd.val,pStr] using f3,k0k (by omega) (by omega),u.n.name,by simpa [Nd.val,pStr] using f1,k0k (by omega) (by omega),u.n.alias,by simpa [Nd.val,pStr] using f2,?_⟩
  dsimp only
  have e1:IntKind.i64.wrap (IntKind.i64.wrap ((u.n.text.size:Int)+(u.n.name.size:Int))+(u.n.alias.size:Int))=((k1c u.n:Nat):Int):=by
   rw[i64w (n:=(u.n.text.size:Int)+(u.n.name.size:Int)) (by omega),i64w (by omega)];unfold k1c;omega
  rw[e1]
  have hnb:k1c u.n≤6442450941:=by unfold k1c;omega
  have e2:IntKind.i64.wrap ((m:Int)+(if(4001:Int)<(k1c u.n:Int) then 4001 else(k1c u.n:Int)))=(m:Int)+(if(4001:Int)<(k1c u.n:Int) then 4001 else(k1c u.n:Int)):=by
   rw[i64w];split<;>omega
  rw[e2]
  refine fkI (fun _=>no hE) (fun hb=>?_)
  have hb':m+k1c u.n≤4000:=by
   simp at hb;split at hb<;>omega
  have e3:(m:Int)+(if(4001:Int)<(k1c u.n:Int) then 4001 else(k1c u.n:Int))=((m+k1c u.n:Nat):Int):=by
   rw[if_neg (by omega)];omega
  rw[e3]
  refine⟨k0k (by omega) (by omega),(u.n.kind,u.n.name,u.n.alias,u.n.text,u.n.flag,u.n.size),hD.nodes.all hru,?_⟩
  have hts:u.n.text.size≤4000:=by unfold k1c at hb';omega
  refine(kgn u.n H3 (by omega) (by omega) (by omega) (by omega)).mono ?_
  rintro _ H4 ⟨fb,rfl,hE4,hfo⟩
  refine⟨fb,rfl,fkI (fun _=>no (hE.trans hE4)) (fun hfb=>?_)⟩
  refine(kk9 b o n c ds H4 (hD.ext hE4 (by simp)) k u hatu hwu).mono ?_
  rintro _ H5 ⟨sb,rfl,hE5,hsh⟩
  refine⟨sb,rfl,fkI (fun _=>no ((hE.trans hE4).trans hE5)) (fun hsb=>?_)⟩
  rw[k0h (by omega)]
  refine⟨⟨(hE.trans hE4).trans hE5,k+1,m+k1c u.n,rfl,rfl,by omega,hb',?_,fun j hj u' hu'=>?_⟩,by omega⟩
  ·have hkd:k<ds.length:=by omega
   rw[List.take_succ_eq_append_getElem hkd,kkr,←hms]
   have:ds[k]=u.n:=by rw[List.getElem?_eq_getElem hkd] at hru;exact Option.some.inj hru
   rw[this];simp[k36]
  ·rcases Nat.lt_succ_iff_lt_or_eq.1 hj with h5|rfl
   ·exact hall j h5 u' hu'
   ·rw[hu] at hu';cases hu'
    exact⟨hfo (by simpa using hfb),hsh (by simpa using hsb)⟩
 ·have hk':k=n:=by simp at hge;omega
  refine rkI ⟨true,rfl,hE,fun _=>⟨h0',t,hds,hw,fun u hu=>?_,by omega,?_⟩⟩
  ·obtain⟨j,hj,rfl⟩:=List.getElem_of_mem hu
   exact hall j (by omega) _ (List.getElem?_eq_getElem hj)
  ·rw[hk',hn,List.take_length] at hms;omega
theorem kaZ (b o n c:Nat) (ds:List Nd) (H:Heap) (h:Doc H b o n ds) (hs:k4C ds):
 Fn PP fq16 #[.slice (some ⟨b,o,none⟩) n c] H fun v H'=> ∃r,v= .bool r∧Ext [] H H'∧(r=true→ ∃t,DocP ds t∧t.n.kind=1):=by
 refine AnyDocument.enter b o n c H _ ?_
 unfold AnyDocument.W
 refine(kjQ b o n c ds H h hs).mono ?_
 rintro _ H2 ⟨r,rfl,hE,hr⟩
 refine⟨r,rfl,fkI (fun hr1=>?_) (fun _=>rkI ⟨false,rfl,hE,by simp⟩)⟩
 obtain⟨hn0,t,ht⟩:=hr hr1
 have hnd:ds[0]?=some t.n:=by rw[ht.flat];cases t;simp[flat,Tr.n]
 refine⟨k0k (by omega) (by omega),_,(h.ext hE (by simp)).nodes.kind (i:=0) hnd,rkI ⟨_,rfl,hE,fun hk=>⟨t,ht,by simpa using hk⟩⟩⟩
theorem klp (x:Nd) (H:Heap):Fn PP fq28 #[.agg x.val] H fun v H'=> ∃r,v= .bool r∧Ext [] H H'∧(r=true→x.name.size≤2147483647∧x.alias.size≤2147483647∧x.text.size≤2147483647):=by
 refine zzFits4.enter x H _ ?_
 unfold zzFits4.W
 refine nbI fun H2 _ hb2 ext2 _=>?_
 have no:rk [.bool false] H2 fun v H'=> ∃r,v= .bool r∧Ext [] H H'∧(r=true→x.name.size≤2147483647∧x.alias.size≤2147483647∧x.text.size≤2147483647):=rkI ⟨false,rfl,ext2,by simp⟩
 refine⟨_,lcO hb2 rfl,?_⟩
 refine fkI (fun _=>no) (fun h1=>?_)
 refine⟨_,lcO hb2 rfl,?_⟩
 refine fkI (fun _=>no) (fun h2=>?_)
 refine⟨_,lcO hb2 rfl,?_⟩
 refine fkI (fun _=>no) (fun h3=>rkI ⟨true,rfl,ext2,fun _=>?_⟩)
 have h1:=of_decide_eq_false h1
 have h2:=of_decide_eq_false h2
 have h3:=of_decide_eq_false h3
 omega
theorem keI (b o n c:Nat) (ds:List Nd) (H:Heap) (h:k0X H b o ds) (hn:n=ds.length):
 Fn PP fq15 #[.slice (some ⟨b,o,none⟩) n c] H fun v H'=> ∃r,v= .bool r∧Ext [] H H'∧(r=true→k4C ds∧n<2147483648):=by
 refine zzFits3.enter b o n c H _ ?_
 unfold zzFits3.W
 refine fkI (fun _=>rkI ⟨false,rfl,Ext.refl _ _,by simp⟩) (fun h0=>?_)
 have hlt:n<2147483648:=by have:=of_decide_eq_false h0;omega
 refine⟨fun z H'=>Ext [] H H'∧ ∃k:Nat,z.1=k∧k≤n∧ ∀j,j<k→ ∀x,ds[j]?=some x→x.name.size≤2147483647∧x.alias.size≤2147483647∧x.text.size≤2147483647,
  fun z _=>n -z.1.toNat,⟨Ext.refl _ _,0,rfl,Nat.zero_le _,fun j hj=>by omega⟩,?_⟩
 rintro⟨_,_⟩ H2 ⟨hE,k,hk,hkn,hall⟩
 dsimp only at hk⊢
 subst hk
 refine fkI (fun hlt2=>?_) (fun hge=>?_)
 ·have hk':k<ds.length:=by simp at hlt2;omega
  have hx:ds[k]?=some ds[k]:=List.getElem?_eq_getElem hk'
  generalize ds[k]=x at hx
  have ek:(k:Int).toNat=k:=by omega
  rw[ek]
  refine⟨k0k (by omega) (by omega),(x.kind,x.name,x.alias,x.text,x.flag,x.size),(h.ext hE (by simp)).all hx,?_⟩
  refine nbI fun H7 e7 hb7 ext7 hs7=>?_
  refine swI hb7 (by simp) rfl rfl fun H8 e8 hb8 ext8 hs8=>?_
  have hE8:Ext [] H H8:=Ext.newer (hE.trans ext7) ext8 hE.size
  refine⟨(x.kind,x.name,x.alias,x.text,x.flag,x.size),lcO hb8 rfl,?_⟩
  refine(klp x H8).mono ?_
  rintro _ H9 ⟨r,rfl,hE9,hr⟩
  refine⟨r,rfl,fkI (fun _=>rkI ⟨false,rfl,hE8.trans hE9,by simp⟩) (fun hr1=>?_)⟩
  rw[k0h (by omega)]
  refine⟨⟨hE8.trans hE9,k+1,rfl,by omega,fun j hj y hy=>?_⟩,by omega⟩
  rcases Nat.lt_succ_iff_lt_or_eq.1 hj with h5|rfl
  ·exact hall j h5 y hy
  ·rw[hx] at hy;cases hy;exact hr (by simpa using hr1)
 ·have hk':k=ds.length:=by simp at hge;omega
  refine rkI ⟨true,rfl,hE,fun _=>⟨fun x hx=>?_,hlt⟩⟩
  obtain⟨j,hj,rfl⟩:=List.getElem_of_mem hx
  exact hall j (by omega) _ (List.getElem?_eq_getElem hj)
abbrev KT:=List (Nd×List BA)
def optB (b:BA):List BA:=if b=eB then[] else[b]
def selM (kinds:List Int) (kt:KT):KT:=kt.filter fun x=>decide (x.1.kind∈kinds)
def sepM (between:BA):KT→List BA
 |[]=> []
 |[x]=>x.2
 |x::y::r=>x.2++(optB between++sepM between (y::r))
def preM (k0m between:BA) (sel:KT):List BA:=match sel with
 |[]=> []
 |x::r=>optB k0m++sepM between (x::r)
def k0F (k0m end_ between:BA) (kinds:List Int) (kt:KT):List BA:=match selM kinds kt with
 |[]=> []
 |x::r=>optB k0m++sepM between (x::r)++optB end_
def k1o (sign_:BA) (is_:Nd→Bool) (kt:KT):List BA:=match kt.find? fun x=>is_ x.1 with
 |none=> []
 |some x=>optB sign_++x.2
theorem ke3 (between:BA) (x:Nd×List BA): ∀(l:KT),l≠ []→sepM between (l++[x])=sepM between l++(optB between++x.2)
 |[],h=>absurd rfl h
 |[y],_=>by simp[sepM]
 |y::z::r,_=>by
  have:=ke3 between x (z::r) (by simp)
  simp only[List.cons_append] at this⊢
  simp only[sepM,this,List.append_assoc]
theorem kap (k0m between:BA) (l:KT) (x:Nd×List BA):preM k0m between (l++[x])=preM k0m between l++((if l=[] then optB k0m else optB between)++x.2):=by
 cases l with
 |nil=>simp[preM,sepM]
 |cons y r=>
  have:=ke3 between x (y::r) (by simp)
  simp only[List.cons_append] at this
  simp only[preM,List.cons_append,this,List.append_assoc]
  simp
structure WAt (H0 H:Heap) (w m b o nn:Nat) (ds:List Nd) (ss:List BA):Prop where
 ext:Ext [] H0 H
 doc:Doc H b o nn ds
 old:b<H0.size
 wnew:H0.size≤w
 mnew:H0.size≤m
 st: ∃a n c cc,H[w]?=some (.cells #[.slice (some ⟨b,o,none⟩) nn cc,.slice a n c,.map (some m)] tq49)∧OwnS H tq9 1 a n c (ss.map .string)∧ ∀r,k0u a=some r→H0.size≤r
 mp: ∃es clock,H[m]?=some (.map es clock)∧k91 es .i64
def k2N (H:Heap) (w:Nat):Option Nat:=
 match H[w]? with
 |some (Obj.cells c _ _)=>match(c[1]?:Option Value) with
  |some (Value.slice a _ _)=>k0u a
  |_=>none
 |_=>none
structure KeepT (w:Nat) (H H':Heap):Prop where
 size:H.size≤H'.size
 get: ∀(k:Nat) (c:Array Value) (e:TypeId) (fr:Nat×Nat),H[k]?=some (Obj.cells c e fr)→e≠tq49→e≠tq9→H'[k]?=some (Obj.cells c e fr)
 strs: ∀(k:Nat) (c:Array Value) (fr:Nat×Nat),H[k]?=some (Obj.cells c tq9 fr)→k2N H w≠some k→H'[k]?=some (Obj.cells c tq9 fr)
 row: ∀r,k2N H' w=some r→k2N H w=some r∨H.size≤r
theorem KeepT.refl (w:Nat) (H:Heap):KeepT w H H:=⟨Nat.le_refl _,fun _ _ _ _ h _ _=>h,fun _ _ _ h _=>h,fun _ h=> .inl h⟩
theorem KeepT.trans {w:Nat} {A B C:Heap} (h:KeepT w A B) (k:KeepT w B C):KeepT w A C:=by
 refine⟨Nat.le_trans h.size k.size,fun i c e fr hi h1 h2=>k.get i c e fr (h.get i c e fr hi h1 h2) h1 h2,fun i c fr hi hr=>?_,fun r hr=>?_⟩
 ·refine k.strs i c fr (h.strs i c fr hi hr) fun e=>?_
  rcases h.row i e with h1|h1
  ·exact hr h1
  ·have:=k0l hi;omega
 ·rcases k.row r hr with h1|h1
  ·exact h.row r h1
  ·exact .inr (Nat.le_trans h.size h1)
theorem Ext.keepT {w:Nat} {H H':Heap} (h:Ext [] H H') (hw:w<H.size):KeepT w H H':=by
 refine⟨h.size,fun _ _ _ _ hk _ _=>h.get _ _ hk (by simp),fun _ _ _ hk _=>h.get _ _ hk (by simp),fun r hr=> .inl ?_⟩
 have e:H'[w]?=H[w]?:=by
  rw[Array.getElem?_eq_getElem hw]
  exact h.get _ _ (Array.getElem?_eq_getElem hw) (by simp)
 unfold k2N at hr⊢
 rw[e] at hr;exact hr
theorem WAt.lt {H0 H:Heap} {w m b o nn:Nat} {ds:List Nd} {ss:List BA} (h:WAt H0 H w m b o nn ds ss):w<H.size:=by
 obtain⟨a,n,c,cc,hw,_⟩:=h.st;exact k0l hw
theorem WAt.grow {H0 H H':Heap} {w m b o nn:Nat} {ds:List Nd} {ss:List BA} (h:WAt H0 H w m b o nn ds ss) (he:Ext [] H H'):WAt H0 H' w m b o nn ds ss:=by
 obtain⟨a,n,c,cc,hw,ho,hr⟩:=h.st
 obtain⟨es,clock,hm,hk⟩:=h.mp
 exact⟨h.ext.trans he,h.doc.ext he (by simp),h.old,h.wnew,h.mnew,⟨a,n,c,cc,he.get _ _ hw (by simp),ho.ext he (by simp),hr⟩,⟨es,clock,he.get _ _ hm (by simp),hk⟩⟩
theorem WAt.d {H0 H:Heap} {w m b o nn:Nat} {ds:List Nd} {ss:List BA} (h:WAt H0 H w m b o nn ds ss): ∃cc,k07 H false 1 ⟨w,0,none⟩=some (.slice (some ⟨b,o,none⟩) nn cc):=by
 obtain⟨a,n,c,cc,hw,_⟩:=h.st
 exact⟨cc,lcO hw rfl⟩
theorem klk {H0 H:Heap} {w m b o nn:Nat} {ds:List Nd} {ss:List BA} (h:WAt H0 H w m b o nn ds ss) {lb N C:Nat} {xs:List BA} {fr:Nat×Nat}
 (hl:H[lb]?=some (.cells (xs.map .string).toArray tq9 fr)) (_hlw:H0.size≤lb) (hN:N=xs.length) (hb:ss.length+xs.length≤1000000):
 Fn PP fq40 #[.pointer (some ⟨w,0,none⟩),.slice (some ⟨lb,0,none⟩) N C] H fun v H'=>v= .tuple #[]∧KeepT w H H'∧WAt H0 H' w m b o nn ds (ss++xs):=by
 refine wPut.enter w lb 0 N C H _ ?_
 unfold wPut.W
 obtain⟨a,n,c,cc,hw,ho,hr⟩:=h.st
 obtain⟨es,clock,hm,hk⟩:=h.mp
 have hn:n=ss.length:=by have:=ho.1;simp at this;omega
 refine⟨(a,n,c),lcO hw rfl,?_⟩
 have hF:Fresh H0 H tq9 1 a n c (ss.map .string):=⟨h.ext,ho,hr⟩
 refine hF.append hl (by simp[hN]) (by simp[Value.oneCell']) (by omega) (by omega) ?_
 intro a' c' H4 hF4 grow hrw
 have hrow: ∀(k:Nat) (cs:Array Value) (e:TypeId) (f2:Nat×Nat),H[k]?=some (.cells cs e f2)→e≠tq9→H4[k]?=some (.cells cs e f2):=by
  intro k cs e f2 hk he
  refine grow.ext.get _ _ hk ?_
  intro hmem
  rw[Option.mem_toList] at hmem
  exact ho.ne hk (fun e'=>he e'.symm) hmem rfl
 have hw4:=hrow w _ _ _ hw (by decide)
 have hm4:H4[m]?=some (.map es clock):=by
  refine grow.ext.get _ _ hm ?_
  intro hmem
  rw[Option.mem_toList] at hmem
  obtain⟨cur,_,hg,_⟩:=ho.row hmem
  rw[hm] at hg;cases hg
 have hd4:Doc H4 b o nn ds:=by
  obtain⟨⟨dc,de,df,hdc,hdr⟩,h1,h2⟩:=h.doc
  refine⟨⟨dc,de,df,?_,hdr⟩,h1,h2⟩
  refine grow.ext.get _ _ hdc ?_
  intro hmem
  rw[Option.mem_toList] at hmem
  have:=hr _ hmem
  have:=h.old
  omega
 refine swI hw4 (by simp) rfl rfl fun H5 e5 hw5 ext5 _=>?_
 have hget: ∀(k:Nat) (c:Array Value) (e:TypeId) (fr:Nat×Nat),H[k]?=some (Obj.cells c e fr)→e≠tq49→e≠tq9→H5[k]?=some (Obj.cells c e fr):=by
  intro k cs e f2 hk h1 h2
  refine ext5.get _ _ (hrow k _ _ _ hk h2) ?_
  intro hmem
  simp at hmem
  subst hmem
  rw[hw] at hk
  cases hk
  exact h1 rfl
 have hout:k2N H w=k0u a:=by unfold k2N;rw[hw];rfl
 have hout5:k2N H5 w=k0u a':=by unfold k2N;rw[hw5];rfl
 have hkt:KeepT w H H5:=by
  refine⟨Nat.le_trans grow.size ext5.size,hget,fun k cs f2 hk hr2=>?_,fun r hr2=>?_⟩
  ·refine ext5.get _ _ (grow.ext.get _ _ hk ?_) ?_
   ·intro hmem
    rw[Option.mem_toList] at hmem
    rw[hout] at hr2
    exact hr2 hmem
   ·intro hmem
    simp at hmem
    subst hmem
    rw[hw] at hk;cases hk
  ·rw[hout5] at hr2
   rw[hout]
   rcases hrw with h1|h1
   ·exact .inl (by rw[←h1];exact hr2)
   ·have:=hr2.symm.trans h1
    exact .inr (by simp at this;omega)
 refine rkI ⟨rfl,hkt,?_⟩
 ·have hE5:Ext [] H0 H5:=Ext.newer hF4.ext ext5 h.wnew
  refine⟨hE5,hd4.ext ext5 (by have:=h.old;have:=h.wnew;simp;omega),h.old,h.wnew,h.mnew,⟨a',n+N,c',cc,hw5,?_,hF4.row⟩,⟨es,clock,ext5.get _ _ hm4 ?_,hk⟩⟩
  ·have hcs:(ss++xs).map Value.string=ss.map .string++(xs.map Value.string).toArray.toList:=by simp
   rw[hcs]
   refine hF4.own.ext ext5 fun r hr' hmem=>?_
   exact hF4.own.ne hw4 (by decide) hr' (by simpa using hmem)
  ·simp only[List.mem_singleton]
   rintro rfl
   rw[hw] at hm;cases hm
theorem k6z {H0 H:Heap} {w m b o nn:Nat} {ds:List Nd} {ss:List BA} (xs:List BA) (h:WAt H0 H w m b o nn ds ss) {N C:Nat} (hN:N=xs.length) (hb:ss.length+xs.length≤1000000)
 {K:Unit→Heap→Prop} (hk: ∀H',KeepT w H H'→WAt H0 H' w m b o nn ds (ss++xs)→K () H'):
 newB H (.cells (xs.map .string).toArray tq9) fun lb H2=>k00 PP fq40 #[.pointer (some ⟨w,0,none⟩),.slice (some ⟨lb,0,none⟩) N C] H2 ⟨Unit,fun _=> .tuple #[]⟩ fun x H3=>K x H3:=by
 refine nbI fun H2 _ hb2 ext2 _=>?_
 refine(klk (h.grow ext2) hb2 h.ext.size hN hb).mono ?_
 rintro _ H3 ⟨rfl,hk3,hw3⟩
 exact⟨(),rfl,hk H3 ((ext2.keepT h.lt).trans hk3) hw3⟩
mutual
def k28 (body:Nd→KT→List BA):Tr→List BA
 | .node n ks=>body n (k0i body ks)
def k0i (body:Nd→KT→List BA):List Tr→KT
 |[]=> []
 |t::r=>(t.n,k28 body t)::k0i body r
end
theorem k74 (body:Nd→KT→List BA) (l:List Tr):k0i body l=l.map fun t=>(t.n,k28 body t):=by
 induction l with
 |nil=>rfl
 |cons t r ih=>simp[k0i,ih]
section
variable (body:Nd→KT→List BA)
def k23 (t:Tr):Prop:= ∀(H0 H:Heap) (w m b o nn:Nat) (ds:List Nd) (ss:List BA) (i:Nat),WAt H0 H w m b o nn ds ss→At ds i (flat t)→Ws t→ss.length+(k28 body t).length≤1000000→
 Fn PP fq31 #[.pointer (some ⟨w,0,none⟩),.int .i64 i] H fun v H'=>v= .tuple #[]∧KeepT w H H'∧WAt H0 H' w m b o nn ds (ss++k28 body t)
variable {body}
theorem k4T {t:Tr} (hn:k23 body t) {H0 H:Heap} {w m b o nn:Nat} {ds:List Nd} {ss:List BA} {i:Nat} (h:WAt H0 H w m b o nn ds ss) (hat:At ds i (flat t)) (hws:Ws t)
 (hb:ss.length+(k28 body t).length≤1000000) {K:Unit→Heap→Prop} (hk: ∀H',KeepT w H H'→WAt H0 H' w m b o nn ds (ss++k28 body t)→K () H'):
 k00 PP fq31 #[.pointer (some ⟨w,0,none⟩),.int .i64 i] H ⟨Unit,fun _=> .tuple #[]⟩ fun x H3=>K x H3:=by
 refine(hn H0 H w m b o nn ds ss i h hat hws hb).mono ?_
 rintro _ H' ⟨rfl,h1,h2⟩
 exact⟨(),rfl,hk H' h1 h2⟩
theorem k6a (t:Tr):t.ks.length≤(flat t).length:=by
 obtain⟨nd,ks⟩:=t
 rw[k4f]
 show ks.length≤1+(k0a ks).length
 induction ks with
 |nil=>simp
 |cons x r ih=>simp only[k0a,List.length_cons,List.length_append];have:=k1z x;omega
theorem klh {t:Tr} (hn: ∀k∈t.ks,k23 body k) {H0 H:Heap} {w m b o nn:Nat} {ds:List Nd} {ss:List BA} {i:Nat} (h:WAt H0 H w m b o nn ds ss) (hat:At ds i (flat t)) (hws:Ws t)
 (k0m end_ between:BA) {kinds:List Int} (hnd:kinds.Nodup) {kb N C:Nat} {fr:Nat×Nat} (hkb:H[kb]?=some (.cells (kinds.map (.int .i64 ·)).toArray tq3 fr)) (hN:N=kinds.length) (hN2:N<1000)
 (hb:ss.length+(k0F k0m end_ between kinds (k0i body t.ks)).length≤1000000):
 Fn PP fq41 #[.pointer (some ⟨w,0,none⟩),.int .i64 i,.string k0m,.string end_,.string between,.slice (some ⟨kb,0,none⟩) N C] H fun v H'=>
  v= .tuple #[]∧KeepT w H H'∧WAt H0 H' w m b o nn ds (ss++k0F k0m end_ between kinds (k0i body t.ks)):=by
 refine k7A.enter w i k0m end_ between kb 0 N C H _ ?_
 unfold k7A.W
 obtain⟨cc,hd⟩:=h.d
 refine⟨(some ⟨b,o,none⟩,nn,cc),hd,?_⟩
 refine(k3W b o nn cc ds H h.doc i t hat hws).mono ?_
 rintro _ H2 ⟨a1,m1,k1,ps,rfl,hf,hp⟩
 refine⟨(a1,m1,k1),rfl,?_⟩
 have hS:=k0G.of_own hf.own
 have hm1:=hS.1
 simp only[intL,List.length_map] at hm1
 have hlen:=hp.length
 have hkl:=k6a t
 have hle:=hat.le' (k1i _)
 have hdl:=h.doc.len
 have hdt:=h.doc.lt
 have hw2:=h.grow hf.ext
 have hkb2:=hf.ext.get _ _ hkb (by simp)
 -- the row of the kids stays
 have slc: ∀ {H':Heap},KeepT w H2 H'→k0G H' a1 m1 (intL ps):=by
  intro H' hK
  refine⟨hS.1,?_⟩
  rcases hf.own.2 with⟨_,h0,_⟩|⟨g,cur,hg,hgc,hnc,_,hs,ht⟩
  ·exact .inl h0
  ·refine .inr ⟨g,0,cur,tq3,(0,0),hg,hK.get _ _ _ _ hgc (by decide) (by decide),fun q s hq=>?_⟩
   have hlt:=(List.getElem?_eq_some_iff.1 hq).1
   have h2:(cur.toList.take (m1*1))[q]?=some s:=by rw[ht];exact hq
   simp only[intL,List.length_map] at hlt
   rw[List.getElem?_take,if_pos (by omega)] at h2
   simpa using h2
 have hkt:k0i body t.ks=t.ks.map fun t=>(t.n,k28 body t):=k74 body t.ks
 have hsel: ∀j,selM kinds ((k0i body t.ks).take j)=((t.ks.take j).map fun t=>(t.n,k28 body t)).filter fun x=>decide (x.1.kind∈kinds):=by
  intro j;rw[hkt,←List.map_take];rfl
 have hpre: ∀j,(preM k0m between (selM kinds ((k0i body t.ks).take j))).length≤(k0F k0m end_ between kinds (k0i body t.ks)).length:=by
  intro j
  have h1:selM kinds (k0i body t.ks)=selM kinds ((k0i body t.ks).take j)++selM kinds ((k0i body t.ks).drop j):=by
   unfold selM;rw[←List.filter_append,List.take_append_drop]
  have h2: ∀(r l:KT),(preM k0m between l).length≤(preM k0m between (l++r)).length:=by
   intro r
   induction r with
   |nil=>intro l;simp
   |cons x r ih=>
    intro l
    have h3:=ih (l++[x])
    rw[kap] at h3
    simp only[List.length_append,List.append_assoc,List.cons_append,List.nil_append] at h3⊢
    omega
  have h3:=h2 (selM kinds ((k0i body t.ks).drop j)) (selM kinds ((k0i body t.ks).take j))
  rw[←h1] at h3
  refine Nat.le_trans h3 ?_
  unfold preM k0F
  split
  ·simp
  ·simp
 refine⟨fun z H'=>KeepT w H2 H'∧ ∃j:Nat,z.2.1=j∧j≤m1∧z.1=((selM kinds ((k0i body t.ks).take j)).length:Int)∧WAt H0 H' w m b o nn ds (ss++preM k0m between (selM kinds ((k0i body t.ks).take j))),
  fun z _=>m1 -z.2.1.toNat,⟨KeepT.refl _ _,0,rfl,Nat.zero_le _,by simp[selM],by simpa [selM,preM] using hw2⟩,?_⟩
 rintro⟨_,_,_⟩ H3 ⟨hK3,j,hj,hjm,hs,hw3⟩
 dsimp only at hj hs⊢
 subst hj hs
 refine fkI (fun hlt=>?_) (fun hge=>?_)
 ·have hj':j<t.ks.length:=by simp at hlt;omega
  obtain⟨p,hpj,hatj,hwj⟩:=hp.get j hj'
  have hnj:=hn _ (List.getElem_mem hj')
  have htk:(k0i body t.ks).take (j+1)=(k0i body t.ks).take j++[(t.ks[j].n,k28 body t.ks[j])]:=by
   have hl:j<(k0i body t.ks).length:=by rw[hkt];simpa using hj'
   rw[List.take_succ_eq_append_getElem hl]
   simp[hkt]
  have hbj:=hpre (j+1)
  have hsl:(selM kinds ((k0i body t.ks).take j)).length≤j:=by
   unfold selM;refine Nat.le_trans (List.length_filter_le _ _) ?_
   rw[List.length_take];omega
  generalize t.ks[j]=u at hatj hwj hnj htk
  have hple:=hatj.le' (k1i _)
  have hpos:=k1z u
  have hroot:=hatj.root
  refine⟨fun z H'=>KeepT w H2 H'∧ ∃q:Nat,z.2.1=q∧q≤N∧
   ((u.n.kind∉kinds.take q∧z.1=((selM kinds ((k0i body t.ks).take j)).length:Int)∧WAt H0 H' w m b o nn ds (ss++preM k0m between (selM kinds ((k0i body t.ks).take j))))∨
    (u.n.kind∈kinds.take q∧z.1=((selM kinds ((k0i body t.ks).take (j+1))).length:Int)∧WAt H0 H' w m b o nn ds (ss++preM k0m between (selM kinds ((k0i body t.ks).take (j+1)))))),
   fun z _=>N -z.2.1.toNat,⟨hK3,0,rfl,Nat.zero_le _,.inl ⟨by simp,rfl,hw3⟩⟩,?_⟩
  rintro⟨s',_,_⟩ H4 ⟨hK4,q,hq,hqN,hst⟩
  dsimp only at hq hst⊢
  subst hq
  have hselj:selM kinds ((k0i body t.ks).take (j+1))=selM kinds ((k0i body t.ks).take j)++(if u.n.kind∈kinds then[(u.n,k28 body u)] else[]):=by
   rw[htk];unfold selM;rw[List.filter_append];congr 1
   simp only[List.filter_cons,List.filter_nil]
   split<;>simp_all
  refine fkI (fun hlt2=>?_) (fun hge2=>?_)
  ·have hq':q<kinds.length:=by simp at hlt2;omega
   have hdoc: ∃cc4,k07 H4 false 1 ⟨w,0,none⟩=some (.slice (some ⟨b,o,none⟩) nn cc4)∧Doc H4 b o nn ds:=by
    rcases hst with⟨_,_,h4⟩|⟨_,_,h4⟩
    ·obtain⟨c4,h5⟩:=h4.d;exact⟨c4,h5,h4.doc⟩
    ·obtain⟨c4,h5⟩:=h4.d;exact⟨c4,h5,h4.doc⟩
   obtain⟨cc4,hd4,hdoc4⟩:=hdoc
   have hL:=(slc hK4).load (i:=j) (v:= .int .i64 (p:Int)) (by simp[intL,hpj])
   have hkl4:k07 H4 false 1 ⟨kb,0+(q:Int).toNat*1,none⟩=some (.int .i64 kinds[q]):=by
    have hkc:=hK4.get _ _ _ _ hkb2 (by decide) (by decide)
    have e1:0+(q:Int).toNat*1=q:=by omega
    rw[e1]
    simp only[k07,k1a,hkc]
    simp[hq']
   have htq:kinds.take (q+1)=kinds.take q++[kinds[q]]:=List.take_succ_eq_append_getElem hq'
   refine⟨(some ⟨b,o,none⟩,nn,cc4),hd4,hL.1,_,hL.2,k0k (by omega) (by dsimp only;omega),_,hdoc4.nodes.kind hroot,k0k (by omega) (by omega),_,hkl4,?_⟩
   rw[k0h (k:=q) (by omega)]
   refine fkI (fun hne=>?_) (fun heq=>?_)
   ·have hne':u.n.kind≠kinds[q]:=by simpa using hne
    refine⟨⟨hK4,q+1,rfl,by omega,?_⟩,by omega⟩
    rw[htq]
    rcases hst with⟨h1,h2,h3⟩|⟨h1,h2,h3⟩
    ·exact .inl ⟨fun hm=>(List.mem_append.1 hm).elim h1 fun hm=>hne' (List.mem_singleton.1 hm),h2,h3⟩
    ·exact .inr ⟨List.mem_append_left _ h1,h2,h3⟩
   ·have heq':u.n.kind=kinds[q]:=by simpa using heq
    have hnot:u.n.kind∉kinds.take q:=by
     intro h1
     rw[heq'] at h1
     obtain⟨q2,hq2,he⟩:=List.getElem_of_mem h1
     rw[List.length_take] at hq2
     rw[List.getElem_take] at he
     exact(List.pairwise_iff_getElem.1 hnd) q2 q (by omega) hq' (by omega) he
    obtain⟨h2,h3⟩:s'=((selM kinds ((k0i body t.ks).take j)).length:Int)∧WAt H0 H4 w m b o nn ds (ss++preM k0m between (selM kinds ((k0i body t.ks).take j))):=by
     rcases hst with⟨_,h2,h3⟩|⟨h1,_,_⟩
     ·exact⟨h2,h3⟩
     ·exact absurd h1 hnot
    subst h2
    have hin:u.n.kind∈kinds:=by rw[heq'];exact List.getElem_mem hq'
    rw[if_pos hin] at hselj
    rw[hselj,kap] at hbj
    simp only[List.length_append] at hbj
    refine k2w ?_
    -- the sign ahead of the first, or between
    refine⟨fun _ H'=>KeepT w H2 H'∧WAt H0 H' w m b o nn ds (ss++preM k0m between (selM kinds ((k0i body t.ks).take j))++(if selM kinds ((k0i body t.ks).take j)=[] then optB k0m else[])),?_,?_⟩
    ·refine fkI (fun hc=>?_) (fun hc=>?_)
     ·simp only[Bool.and_eq_true,k0t] at hc
      have hz:selM kinds ((k0i body t.ks).take j)=[]:=List.eq_nil_of_length_eq_zero (by have h9:((selM kinds ((k0i body t.ks).take j)).length:Int)=0:=eq_of_beq hc.1;omega)
      have hbe:k0m≠eB:=by simpa using hc.2
      have ho:optB k0m=[k0m]:=by unfold optB;rw[if_neg hbe]
      have hy:(if selM kinds ((k0i body t.ks).take j)=[] then optB k0m else optB between).length=1:=by rw[if_pos hz,ho];rfl
      rw[if_pos hz,ho]
      refine k6z [k0m] h3 rfl (by simp only[List.length_append,List.length_singleton];omega) ?_
      intro H5 hK5 hw5
      exact⟨hK4.trans hK5,hw5⟩
     ·refine⟨hK4,?_⟩
      have:(if selM kinds ((k0i body t.ks).take j)=[] then optB k0m else[])=[]:=by
       split
       ·rename_i hz
        rw[hz] at hc
        have hbe:k0m=eB:=by simpa [k0t] using hc
        unfold optB;rw[if_pos hbe]
       ·rfl
      rw[this,List.append_nil];exact h3
    ·rintro _ H5 ⟨hK5,hw5⟩
     refine k2w ?_
     refine⟨fun _ H'=>KeepT w H2 H'∧WAt H0 H' w m b o nn ds (ss++preM k0m between (selM kinds ((k0i body t.ks).take j))++(if selM kinds ((k0i body t.ks).take j)=[] then optB k0m else optB between)),?_,?_⟩
     ·refine fkI (fun hc=>?_) (fun hc=>?_)
      ·simp only[Bool.and_eq_true,k0t] at hc
       have hz:selM kinds ((k0i body t.ks).take j)≠ []:=by
        intro hz;rw[hz] at hc;simp at hc
       have hbe:between≠eB:=by simpa using hc.2
       have ho:optB between=[between]:=by unfold optB;rw[if_neg hbe]
       have hy:(if selM kinds ((k0i body t.ks).take j)=[] then optB k0m else optB between).length=1:=by rw[if_neg hz,ho];rfl
       rw[if_neg hz,List.append_nil] at hw5
       rw[if_neg hz,ho]
       refine k6z [between] hw5 rfl (by simp only[List.length_append,List.length_singleton];omega) ?_
       intro H6 hK6 hw6
       exact⟨hK5.trans hK6,hw6⟩
      ·refine⟨hK5,?_⟩
       have:(if selM kinds ((k0i body t.ks).take j)=[] then optB k0m else optB between)=(if selM kinds ((k0i body t.ks).take j)=[] then optB k0m else[]):=by
        split
        ·rfl
        ·rename_i hz
         have hz':0<(selM kinds ((k0i body t.ks).take j)).length:=List.length_pos_iff.2 hz
         have hbe:between=eB:=by simpa [k0t,hz'] using hc
         unfold optB;rw[if_pos hbe]
       rw[this];exact hw5
     ·rintro _ H6 ⟨hK6,hw6⟩
      have hL6:=(slc hK6).load (i:=j) (v:= .int .i64 (p:Int)) (by simp[intL,hpj])
      refine⟨hL6.1,_,hL6.2,?_⟩
      refine k4T hnj hw6 hatj hwj (by simp only[List.length_append] at hbj⊢;omega) ?_
      intro H7 hK7 hw7
      rw[k0h (by omega)]
      refine⟨⟨hK6.trans hK7,q+1,rfl,by omega,.inr ⟨by rw[htq,heq'];exact List.mem_append_right _ (List.mem_singleton.2 rfl),?_,?_⟩⟩,by omega⟩
      ·rw[hselj];simp
      ·rw[hselj,kap,←List.append_assoc,←List.append_assoc];exact hw7
  ·have hq':q=kinds.length:=by simp at hge2;omega
   rw[hq',List.take_length] at hst
   rw[k0h (by omega)]
   refine⟨⟨hK4,j+1,rfl,by omega,?_⟩,by omega⟩
   rcases hst with⟨h1,h2,h3⟩|⟨h1,h2,h3⟩
   ·rw[if_neg h1,List.append_nil] at hselj
    rw[hselj];exact⟨h2,h3⟩
   ·exact⟨h2,h3⟩
 ·have hj':j=t.ks.length:=by simp at hge;omega
  have htk:(k0i body t.ks).take j=k0i body t.ks:=List.take_of_length_le (by rw[hkt,List.length_map];omega)
  rw[htk] at hw3⊢
  refine k2w ?_
  refine⟨fun _ H'=>KeepT w H2 H'∧WAt H0 H' w m b o nn ds (ss++k0F k0m end_ between kinds (k0i body t.ks)),?_,?_⟩
  ·refine fkI (fun hc=>?_) (fun hc=>?_)
   ·simp only[Bool.and_eq_true,k0t] at hc
    have hbe:end_≠eB:=by simpa using hc.2
    have ho:optB end_=[end_]:=by unfold optB;rw[if_neg hbe]
    have hkm:k0F k0m end_ between kinds (k0i body t.ks)=preM k0m between (selM kinds (k0i body t.ks))++[end_]:=by
     unfold k0F preM
     split
     ·rename_i hz;rw[hz] at hc;simp at hc
     ·rw[ho]
    rw[hkm] at hb⊢
    rw[←List.append_assoc]
    refine k6z [end_] hw3 rfl (by simp only[List.length_append,List.length_singleton] at hb⊢;omega) ?_
    intro H5 hK5 hw5
    exact⟨hK3.trans hK5,hw5⟩
   ·have hkm:k0F k0m end_ between kinds (k0i body t.ks)=preM k0m between (selM kinds (k0i body t.ks)):=by
     unfold k0F preM
     split
     ·rfl
     ·rename_i hz
      rw[hz] at hc
      have hbe:end_=eB:=by simpa [k0t] using hc
      unfold optB;rw[if_pos hbe];simp
    rw[hkm]
    exact⟨hK3,hw3⟩
  ·rintro _ H5 ⟨hK5,hw5⟩
   exact rkI ⟨rfl,(hf.ext.keepT h.lt).trans hK5,hw5⟩
end
section
variable {body:Nd→KT→List BA}
theorem k9C {t:Tr} (hn: ∀k∈t.ks,k23 body k) {H0 H:Heap} {w m b o nn:Nat} {ds:List Nd} {ss:List BA} {i:Nat} (h:WAt H0 H w m b o nn ds ss) (hat:At ds i (flat t)) (hws:Ws t)
 (k0m end_ between:BA) (kinds:List Int) (hnd:kinds.Nodup) {N C:Nat} (hN:N=kinds.length) (hN2:N<1000)
 (hb:ss.length+(k0F k0m end_ between kinds (k0i body t.ks)).length≤1000000) {K:Unit→Heap→Prop}
 (hk: ∀H',KeepT w H H'→WAt H0 H' w m b o nn ds (ss++k0F k0m end_ between kinds (k0i body t.ks))→K () H'):
 newB H (.cells (kinds.map (.int .i64 ·)).toArray tq3) fun kb H2=>k00 PP fq41 #[.pointer (some ⟨w,0,none⟩),.int .i64 i,.string k0m,.string end_,.string between,.slice (some ⟨kb,0,none⟩) N C] H2
  ⟨Unit,fun _=> .tuple #[]⟩ fun x H3=>K x H3:=by
 refine nbI fun H2 _ hb2 ext2 _=>?_
 refine(klh hn (h.grow ext2) hat hws k0m end_ between hnd hb2 hN hN2 hb).mono ?_
 rintro _ H3 ⟨rfl,hk3,hw3⟩
 exact⟨(),rfl,hk H3 ((ext2.keepT h.lt).trans hk3) hw3⟩
theorem kfy {t:Tr} (hn: ∀k∈t.ks,k23 body k) {H0 H:Heap} {w m b o nn:Nat} {ds:List Nd} {ss:List BA} {i:Nat} (h:WAt H0 H w m b o nn ds ss) (hat:At ds i (flat t)) (hws:Ws t)
 (hb:ss.length+(k0F eB eB eB [23] (k0i body t.ks)).length≤1000000) {K:Unit→Heap→Prop}
 (hk: ∀H',KeepT w H H'→WAt H0 H' w m b o nn ds (ss++k0F eB eB eB [23] (k0i body t.ks))→K () H'):
 k00 PP fq131 #[.pointer (some ⟨w,0,none⟩),.int .i64 i] H ⟨Unit,fun _=> .tuple #[]⟩ fun x H3=>K x H3:=by
 refine k7x.enter w i H _ ?_
 unfold k7x.W
 refine k9C hn h hat hws eB eB eB [23] (by decide) rfl (by decide) hb ?_
 intro H' h1 h2
 exact rkI ⟨(),rfl,hk H' h1 h2⟩
theorem kg9 {t:Tr} (hn: ∀k∈t.ks,k23 body k) {H0 H:Heap} {w m b o nn:Nat} {ds:List Nd} {ss:List BA} {i:Nat} (h:WAt H0 H w m b o nn ds ss) (hat:At ds i (flat t)) (hws:Ws t)
 (hb:ss.length+(k0F eB eB eB [10] (k0i body t.ks)).length≤1000000) {K:Unit→Heap→Prop}
 (hk: ∀H',KeepT w H H'→WAt H0 H' w m b o nn ds (ss++k0F eB eB eB [10] (k0i body t.ks))→K () H'):
 k00 PP fq42 #[.pointer (some ⟨w,0,none⟩),.int .i64 i] H ⟨Unit,fun _=> .tuple #[]⟩ fun x H3=>K x H3:=by
 refine k7z.enter w i H _ ?_
 unfold k7z.W
 refine k9C hn h hat hws eB eB eB [10] (by decide) rfl (by decide) hb ?_
 intro H' h1 h2
 exact rkI ⟨(),rfl,hk H' h1 h2⟩
def kex (f:FuncId) (w:Nat) (i:Int) (sign_:BA) (H:Heap) (R:Value→Heap→Prop):Prop:=
 k01 H false 1 ⟨w,0,none⟩ pSlc fun(x1:(OA×Nat×Nat))=>
 k00 PP fq26 #[(.slice x1.1 x1.2.1 x1.2.2),(.int .i64 i)] H pSlc fun(x2:(OA×Nat×Nat)) H3=>
 k0e (Int×Unit) (0,()) H3 fun z4 H5 next6=>
 k02 (decide (z4.1<((x2.2.1:Nat):Int)))
 (k01 H5 false 1 ⟨w,0,none⟩ pSlc fun(x7:(OA×Nat×Nat))=>
   (IxOk x2.1 z4.1 x2.2.1)∧
   k01 H5 false 1 ⟨(k0c x2.1),(k0b x2.1+z4.1.toNat*1),none⟩ (pInt .i64) fun(x8:Int)=>
   (IxOk x7.1 x8 x7.2.1)∧
   k01 H5 true 6 ⟨(k0c x7.1),(k0b x7.1+x8.toNat*6),none⟩ ⟨Int×BA×BA×BA×Int×Int,fun x=>(.agg #[(.int .i64 x.1),(.string x.2.1),(.string x.2.2.1),(.string x.2.2.2.1),(.int .i64 x.2.2.2.2.1),(.int .i64 x.2.2.2.2.2)])⟩ fun(x9:Int×BA×BA×BA×Int×Int)=>
   k00 PP f #[(.agg #[(.int .i64 x9.1),(.string x9.2.1),(.string x9.2.2.1),(.string x9.2.2.2.1),(.int .i64 x9.2.2.2.2.1),(.int .i64 x9.2.2.2.2.2)])] H5 k04 fun(x10:Bool) H11=>
   k02 x10
   (k02 (!(sign_.toList==(bs []).toList))
     (newB H11 (.cells #[(.string sign_)] tq9) fun b12 H13=>
       k00 PP fq40 #[(.pointer (some ⟨w,0,none⟩)),(.slice (some ⟨b12,0,none⟩) 1 1)] H13 ⟨Unit,fun _=>(.tuple #[])⟩ fun(_:Unit) H15=>
       (IxOk x2.1 z4.1 x2.2.1)∧
       k01 H15 false 1 ⟨(k0c x2.1),(k0b x2.1+z4.1.toNat*1),none⟩ (pInt .i64) fun(x16:Int)=>
       k00 PP fq31 #[(.pointer (some ⟨w,0,none⟩)),(.int .i64 x16)] H15 ⟨Unit,fun _=>(.tuple #[])⟩ fun(_:Unit) H18=>
       rk [] H18 R)
     ((IxOk x2.1 z4.1 x2.2.1)∧
       k01 H11 false 1 ⟨(k0c x2.1),(k0b x2.1+z4.1.toNat*1),none⟩ (pInt .i64) fun(x19:Int)=>
       k00 PP fq31 #[(.pointer (some ⟨w,0,none⟩)),(.int .i64 x19)] H11 ⟨Unit,fun _=>(.tuple #[])⟩ fun(_:Unit) H21=>
       rk [] H21 R))
   (next6 ((IntKind.i64.wrap (z4.1+1)),()) H11))
 (rk [] H5 R)
theorem kez (f:FuncId) (is_:Nd→Bool) (hf: ∀n H,Fn PP f #[.agg n.val] H fun v H'=>v= .bool (is_ n)∧Ext [] H H')
 {t:Tr} (hn: ∀k∈t.ks,k23 body k) {H0 H:Heap} {w m b o nn:Nat} {ds:List Nd} {ss:List BA} {i:Nat} (h:WAt H0 H w m b o nn ds ss) (hat:At ds i (flat t)) (hws:Ws t)
 (sign_:BA) (hb:ss.length+(k1o sign_ is_ (k0i body t.ks)).length≤1000000) {R:Value→Heap→Prop}
 (hR: ∀H',KeepT w H H'→WAt H0 H' w m b o nn ds (ss++k1o sign_ is_ (k0i body t.ks))→R (.tuple #[]) H'):kex f w i sign_ H R:=by
 unfold kex
 obtain⟨cc,hd⟩:=h.d
 refine⟨(some ⟨b,o,none⟩,nn,cc),hd,?_⟩
 refine(k3W b o nn cc ds H h.doc i t hat hws).mono ?_
 rintro _ H2 ⟨a1,m1,k1,ps,rfl,hF,hp⟩
 refine⟨(a1,m1,k1),rfl,?_⟩
 have hS:=k0G.of_own hF.own
 have hm1:=hS.1
 simp only[intL,List.length_map] at hm1
 have hlen:=hp.length
 have hkl:=k6a t
 have hle:=hat.le' (k1i _)
 have hdl:=h.doc.len
 have hdt:=h.doc.lt
 have hkt:k0i body t.ks=t.ks.map fun t=>(t.n,k28 body t):=k74 body t.ks
 refine⟨fun z H'=>Ext [] H2 H'∧ ∃j:Nat,z.1=j∧j≤m1∧k1o sign_ is_ (k0i body t.ks)=k1o sign_ is_ ((k0i body t.ks).drop j),fun z _=>m1 -z.1.toNat,⟨Ext.refl _ _,0,rfl,Nat.zero_le _,rfl⟩,?_⟩
 rintro⟨_,_⟩ H3 ⟨hE3,j,hj,hjm,hfm⟩
 dsimp only at hj⊢
 subst hj
 have hw3:=h.grow (hF.ext.trans hE3)
 refine fkI (fun hlt=>?_) (fun hge=>?_)
 ·have hj':j<t.ks.length:=by simp at hlt;omega
  obtain⟨p,hpj,hatj,hwj⟩:=hp.get j hj'
  have hnj:=hn _ (List.getElem_mem hj')
  have hl:j<(k0i body t.ks).length:=by rw[hkt];simpa using hj'
  have hdr:(k0i body t.ks).drop j=(t.ks[j].n,k28 body t.ks[j])::(k0i body t.ks).drop (j+1):=by
   rw[List.drop_eq_getElem_cons hl];simp[hkt]
  rw[hdr] at hfm
  generalize t.ks[j]=u at hatj hwj hnj hfm
  have hple:=hatj.le' (k1i _)
  have hpos:=k1z u
  have hroot:=hatj.root
  obtain⟨cc3,hd3⟩:=hw3.d
  have hL:=(hS.ext hE3 (by simp)).load (i:=j) (v:= .int .i64 (p:Int)) (by simp[intL,hpj])
  refine⟨(some ⟨b,o,none⟩,nn,cc3),hd3,hL.1,_,hL.2,k0k (by omega) (by dsimp only;omega),(u.n.kind,u.n.name,u.n.alias,u.n.text,u.n.flag,u.n.size),hw3.doc.nodes.all hroot,?_⟩
  refine(hf u.n H3).mono ?_
  rintro _ H4 ⟨rfl,hE4⟩
  have hw4:=hw3.grow hE4
  have hS4:=(hS.ext (hE3.trans hE4) (by simp))
  refine⟨_,rfl,fkI (fun hi=>?_) (fun hi=>?_)⟩
  ·have hfm':k1o sign_ is_ (k0i body t.ks)=optB sign_++k28 body u:=by
    rw[hfm];unfold k1o;rw[List.find?_cons_of_pos (by simpa using hi)]
   rw[hfm',List.length_append] at hb
   rw[hfm'] at hR
   refine fkI (fun hs=>?_) (fun hs=>?_)
   ·have hse:sign_≠eB:=by simpa [k0t] using hs
    have ho:optB sign_=[sign_]:=by unfold optB;rw[if_neg hse]
    rw[ho] at hb hR
    simp only[List.length_singleton] at hb
    refine k6z [sign_] hw4 rfl (by simp only[List.length_singleton];omega) ?_
    intro H5 hK5 hw5
    have hS5:k0G H5 a1 m1 (intL ps):=by
     refine⟨hS.1,?_⟩
     rcases hF.own.2 with⟨_,h0,_⟩|⟨g,cur,hg,hgc,hnc,_,hs,ht⟩
     ·exact .inl h0
     ·refine .inr ⟨g,0,cur,tq3,(0,0),hg,hK5.get _ _ _ _ ((hE3.trans hE4).get _ _ hgc (by simp)) (by decide) (by decide),fun q s hq=>?_⟩
      have hlt:=(List.getElem?_eq_some_iff.1 hq).1
      have h2:(cur.toList.take (m1*1))[q]?=some s:=by rw[ht];exact hq
      simp only[intL,List.length_map] at hlt
      rw[List.getElem?_take,if_pos (by omega)] at h2
      simpa using h2
    have hL5:=hS5.load (i:=j) (v:= .int .i64 (p:Int)) (by simp[intL,hpj])
    refine⟨hL5.1,_,hL5.2,?_⟩
    refine k4T hnj hw5 hatj hwj (by simp only[List.length_append,List.length_singleton];omega) ?_
    intro H6 hK6 hw6
    refine rkI (hR H6 ?_ ?_)
    ·exact((((hF.ext.trans hE3).trans hE4).keepT h.lt).trans hK5).trans hK6
    ·rw[←List.append_assoc];exact hw6
   ·have hse:sign_=eB:=by simpa [k0t] using hs
    have ho:optB sign_=[]:=by unfold optB;rw[if_pos hse]
    rw[ho] at hb hR
    simp only[List.length_nil,Nat.zero_add,List.nil_append] at hb hR
    have hL4:=hS4.load (i:=j) (v:= .int .i64 (p:Int)) (by simp[intL,hpj])
    refine⟨hL4.1,_,hL4.2,?_⟩
    refine k4T hnj hw4 hatj hwj hb ?_
    intro H6 hK6 hw6
    exact rkI (hR H6 ((((hF.ext.trans hE3).trans hE4).keepT h.lt).trans hK6) hw6)
  ·rw[k0h (by omega)]
   refine⟨⟨hE3.trans hE4,j+1,rfl,by omega,?_⟩,by omega⟩
   rw[hfm];unfold k1o;rw[List.find?_cons_of_neg (by simpa using hi)]
 ·have hj':j=t.ks.length:=by simp at hge;omega
  have hnil:(k0i body t.ks).drop j=[]:=List.drop_eq_nil_of_le (by rw[hkt,List.length_map];omega)
  rw[hnil] at hfm
  have e:k1o sign_ is_ (k0i body t.ks)=[]:=hfm
  rw[e,List.append_nil] at hR
  exact rkI (hR H3 ((hF.ext.trans hE3).keepT h.lt) hw3)
theorem kgi {t:Tr} (hn: ∀k∈t.ks,k23 body k) {H0 H:Heap} {w m b o nn:Nat} {ds:List Nd} {ss:List BA} {i:Nat} (h:WAt H0 H w m b o nn ds ss) (hat:At ds i (flat t)) (hws:Ws t)
 (sign_:BA) (hb:ss.length+(k1o sign_ k0q (k0i body t.ks)).length≤1000000) {K:Unit→Heap→Prop}
 (hk: ∀H',KeepT w H H'→WAt H0 H' w m b o nn ds (ss++k1o sign_ k0q (k0i body t.ks))→K () H'):
 k00 PP fq43 #[.pointer (some ⟨w,0,none⟩),.int .i64 i,.string sign_,.func (.func fq44) #[] #[]] H ⟨Unit,fun _=> .tuple #[]⟩ fun x H3=>K x H3:=
 k8L.enter w i sign_ H _ (kez fq44 k0q k9w hn h hat hws sign_ hb fun H' h1 h2=>⟨(),rfl,hk H' h1 h2⟩)
theorem kgj {t:Tr} (hn: ∀k∈t.ks,k23 body k) {H0 H:Heap} {w m b o nn:Nat} {ds:List Nd} {ss:List BA} {i:Nat} (h:WAt H0 H w m b o nn ds ss) (hat:At ds i (flat t)) (hws:Ws t)
 (sign_:BA) (hb:ss.length+(k1o sign_ k0n (k0i body t.ks)).length≤1000000) {K:Unit→Heap→Prop}
 (hk: ∀H',KeepT w H H'→WAt H0 H' w m b o nn ds (ss++k1o sign_ k0n (k0i body t.ks))→K () H'):
 k00 PP fq43 #[.pointer (some ⟨w,0,none⟩),.int .i64 i,.string sign_,.func (.func fq45) #[] #[]] H ⟨Unit,fun _=> .tuple #[]⟩ fun x H3=>K x H3:=
 k8M.enter w i sign_ H _ (kez fq45 k0n kcb hn h hat hws sign_ hb fun H' h1 h2=>⟨(),rfl,hk H' h1 h2⟩)
end
def k3B (s:BA) (i:Nat):BA:=
 if i<s.size then
  if k2D s i k32=true then bs [92,34,34,34]++k3B s (i+3)
  else s.extract i (i+1)++k3B s (i+1)
 else bs [10,34,34,34]
 termination_by s.size -i
 decreasing_by all_goals omega
def k1C (s:BA):BA:=bs [34,34,34,10]++k3B s 0
theorem keL (s:BA) (H:Heap) (hs:s.size<4294967200):Fn PP fq75 #[.string s] H fun v H'=>v= .string (k1C s)∧H=H':=by
 refine Block.enter s H _ ?_
 unfold Block.W
 refine⟨fun z H'=>H=H'∧ ∃k:Nat,z.2.1=k∧k≤s.size+2∧z.1.size≤4*k+4∧k1C s=z.1++k3B s k,fun z _=>s.size -z.2.1.toNat,⟨rfl,0,rfl,by omega,(show(4:Nat)≤4 by decide),rfl⟩,?_⟩
 rintro⟨out,_,_⟩ _ ⟨rfl,k,hk,hks,ho,hb⟩
 dsimp only at hk ho hb⊢
 subst hk
 unfold k3B at hb
 refine fkI (fun hlt=>?_) (fun hge=>?_)
 ·have hlt':k<s.size:=by simp at hlt;exact hlt
  rw[if_pos hlt'] at hb
  refine(k4s s k32 k H (by omega) (by omega) (by decide)).mono ?_
  rintro _ _ ⟨rfl,rfl⟩
  have e4:(bs [92,34,34,34]).size=4:=rfl
  refine⟨_,rfl,fkI (fun hst=>?_) (fun hst=>?_)⟩
  ·have hst':=k58 hst
   have e3:k32.size=3:=rfl
   rw[if_pos hst] at hb
   rw[e4,k2S (k:=k) 3]
   refine⟨by omega,⟨rfl,k+3,rfl,by omega,?_,?_⟩,by omega⟩
   ·rw[ByteArray.size_append,e4];omega
   ·rw[hb,ByteArray.append_assoc]
  ·rw[if_neg (by rw[hst];simp)] at hb
   rw[k0h (by omega)]
   have e1:((k+1:Nat):Int).toNat=k+1:=by omega
   have e2:(k:Int).toNat=k:=by omega
   rw[e1,e2]
   have hz:(s.extract k (k+1)).size=1:=by rw[ByteArray.size_extract];omega
   rw[hz]
   refine⟨by omega,by omega,⟨rfl,k+1,rfl,by omega,?_,?_⟩,by omega⟩
   ·rw[ByteArray.size_append,hz];omega
   ·rw[hb,ByteArray.append_assoc]
 ·have hge': ¬k<s.size:=by simp at hge;omega
  rw[if_neg hge'] at hb
  have e4:(bs [10,34,34,34]).size=4:=rfl
  exact⟨by rw[e4];omega,rkI ⟨by rw[hb];rfl,rfl⟩⟩
def digB:BA:=bs [48,49,50,51,52,53,54,55,56,57,97,98,99,100,101,102]
def hx3 (c:Int):Int:=c.fdiv (2^(min (12:Int).toNat 64))
def hx2 (c:Int):Int:=IntKind.i64.wrap ((BitVec.ofInt 64 (c.fdiv (2^(min (8:Int).toNat 64)))&&&BitVec.ofInt 64 15).toNat:Int)
def hx1 (c:Int):Int:=IntKind.i64.wrap ((BitVec.ofInt 64 (c.fdiv (2^(min (4:Int).toNat 64)))&&&BitVec.ofInt 64 15).toNat:Int)
def hx0 (c:Int):Int:=IntKind.i64.wrap ((BitVec.ofInt 64 c&&&BitVec.ofInt 64 15).toNat:Int)
def digM (e:Int):BA:=digB.extract e.toNat (IntKind.i64.wrap (e+1)).toNat
def escM (c:Int):BA:=((((bs [92,117])++digM (hx3 c))++digM (hx2 c))++digM (hx1 c))++digM (hx0 c)
def k2t (c:Int):Bool:=decide (c<32)||(c==127||c==65279)
theorem kca (c:Int) (h0:0≤c) (h:k2t c=true):(0≤hx3 c∧hx3 c≤15)∧(0≤hx2 c∧hx2 c≤15)∧(0≤hx1 c∧hx1 c≤15)∧(0≤hx0 c∧hx0 c≤15):=by
 have key: ∀k:Fin 32,(0≤hx3 (k.val:Int)∧hx3 (k.val:Int)≤15)∧(0≤hx2 (k.val:Int)∧hx2 (k.val:Int)≤15)∧(0≤hx1 (k.val:Int)∧hx1 (k.val:Int)≤15)∧(0≤hx0 (k.val:Int)∧hx0 (k.val:Int)≤15):=by decide
 simp only[k2t,Bool.or_eq_true,decide_eq_true_eq,beq_iff_eq] at h
 rcases h with h|rfl|rfl
 ·have:=key ⟨c.toNat,by omega⟩
  have e:((c.toNat:Nat):Int)=c:=by omega
  simp only[e] at this
  exact this
 ·decide
 ·decide
theorem kao (s:BA) (a:Nat):0≤(k0A s a).1:=by
 have go: ∀(n i:Nat) (c d:Int),0≤c→k1U s i n c=some d→0≤d:=by
  intro n
  induction n with
  |zero=>intro i c d h0 h;simp[k1U] at h;omega
  |succ n ih=>
   intro i c d h0 h
   simp only[k1U] at h
   split at h
   ·cases h
   ·rename_i hb
    exact ih (i+1) _ d (by omega) h
 have hr:=k2s s a
 unfold k0A
 dsimp only
 split
 ·dsimp only;omega
 ·split
  ·simp
  ·split
   ·simp
   ·rename_i c hc
    have hh:0≤(k16 (bt s a)).1:=by unfold k16;split;(dsimp only;omega);split;(dsimp only;omega);split;(dsimp only;omega);simp
    have:=go _ _ _ _ hh hc
    split
    ·simp
    ·dsimp only;omega
def k1d (s:BA) (i:Nat) (c:Int) (n:Nat):BA:=
 if(c==34||c==92)=true then bs [92]++s.extract i (i+1) else if k2t c=true then escM c else s.extract i (i+n)
def k17 (s:BA) (i:Nat):BA:=
 if _h:i<s.size then
  if _h2:(k0A s i).2=0 then bs [34]
  else k1d s i (k0A s i).1 (k0A s i).2++k17 s (i+(k0A s i).2)
 else bs [34]
 termination_by s.size -i
 decreasing_by omega
def k1v (s:BA):BA:=bs [34]++k17 s 0
theorem k3E (e:Int) (h:0≤e∧e≤15):(digM e).size≤1:=by
 unfold digM
 rw[i64w (by omega),ByteArray.size_extract]
 have:digB.size=16:=rfl
 omega
theorem kbU (c:Int) (h:(0≤hx3 c∧hx3 c≤15)∧(0≤hx2 c∧hx2 c≤15)∧(0≤hx1 c∧hx1 c≤15)∧(0≤hx0 c∧hx0 c≤15)):(escM c).size≤6:=by
 unfold escM
 rw[ByteArray.size_append,ByteArray.size_append,ByteArray.size_append,ByteArray.size_append]
 have e:(bs [92,117]).size=2:=rfl
 have:=k3E _ h.1
 have:=k3E _ h.2.1
 have:=k3E _ h.2.2.1
 have:=k3E _ h.2.2.2
 omega
theorem kfs (s:BA) (H:Heap) (hs:s.size<4294967200):Fn PP fq76 #[.string s] H fun v H'=>v= .string (k1v s)∧H=H':=by
 refine Quote.enter s H _ ?_
 unfold Quote.W
 refine⟨fun z H'=>H=H'∧ ∃k:Nat,z.2.1=k∧k≤s.size∧z.1.size≤6*k+1∧k1v s=z.1++k17 s k,fun z _=>s.size -z.2.1.toNat,⟨rfl,0,rfl,by omega,(show(1:Nat)≤1 by decide),rfl⟩,?_⟩
 rintro⟨out,_,_⟩ _ ⟨rfl,k,hk,hks,ho,hq⟩
 dsimp only at hk ho hq⊢
 subst hk
 unfold k17 at hq
 have e1:(bs [34]).size=1:=rfl
 refine fkI (fun hlt=>?_) (fun hge=>?_)
 ·have hlt':k<s.size:=by simp at hlt;exact hlt
  rw[dif_pos hlt'] at hq
  refine(k4A s k H hlt' (by omega)).mono ?_
  rintro _ _ ⟨rfl,rfl⟩
  have hpl:=k4Z s k hlt'
  have hc0:=kao s k
  generalize k0A s k=cn at hpl hc0 hq⊢
  obtain⟨c,n⟩:=cn
  dsimp only at hpl hc0 hq
  refine⟨(c,n),rfl,fkI (fun h0=>?_) (fun h0=>?_)⟩
  ·have h0':n=0:=by simp at h0;omega
   rw[dif_pos h0'] at hq
   exact⟨by rw[e1];omega,rkI ⟨by rw[hq];rfl,rfl⟩⟩
  ·have h0': ¬n=0:=by simp at h0;omega
   rw[dif_neg h0'] at hq
   refine k3r ?_
   have hw:IntKind.i64.wrap ((k:Int)+(n:Int))=((k+n:Nat):Int):=k38 (by omega) n (by omega)
   have ek:(k:Int).toNat=k:=by omega
   have ek1:((k+1:Nat):Int).toNat=k+1:=by omega
   have ekn:((k+n:Nat):Int).toNat=k+n:=by omega
   refine⟨fun y H'=>H=H'∧y.1=out++k1d s k c n∧(k1d s k c n).size≤6*n,?_,?_⟩
   ·refine fkI (fun hb=>?_) (fun hb=>?_)
    ·dsimp only at hb
     rw[k0h (k:=k) (by omega),ek,ek1]
     have hz:(s.extract k (k+1)).size=1:=by rw[ByteArray.size_extract];omega
     have e92:(bs [92]).size=1:=rfl
     have hz2:(bs [92]++s.extract k (k+1)).size=2:=by rw[ByteArray.size_append,hz,e92]
     have hqo:k1d s k c n=bs [92]++s.extract k (k+1):=by unfold k1d;rw[if_pos hb]
     rw[hqo,hz,e92,hz2]
     exact⟨by omega,by omega,by omega,rfl,rfl,by omega⟩
    ·dsimp only at hb
     refine⟨(k2t c,()),?_,?_⟩
     ·refine fkI (fun h1=>⟨?_,rfl⟩) (fun h1=>?_)
      ·unfold k2t;rw[show decide (c<32)=true from h1];rfl
      ·refine fkI (fun h2=>⟨?_,rfl⟩) (fun h2=>⟨?_,rfl⟩)
       ·unfold k2t;rw[show decide (c<32)=false from h1,show(c==127)=true from h2];rfl
       ·unfold k2t;rw[show decide (c<32)=false from h1,show(c==127)=false from h2];rfl
     ·refine⟨fun y H'=>H=H'∧y.1=out++k1d s k c n∧(k1d s k c n).size≤6*n,?_,fun _ _ h=>h⟩
      refine fkI (fun he=>?_) (fun he=>?_)
      ·dsimp only at he⊢
       have hr:=kca c hc0 he
       have hes:=kbU c hr
       have hqo:k1d s k c n=escM c:=by unfold k1d;rw[if_neg (by rw[hb];simp),if_pos he]
       rw[hqo]
       have e16:(bs [48,49,50,51,52,53,54,55,56,57,97,98,99,100,101,102]).size=16:=rfl
       have eu:(bs [92,117]).size=2:=rfl
       have hm:escM c=((((bs [92,117])++digM (hx3 c))++digM (hx2 c))++digM (hx1 c))++digM (hx0 c):=rfl
       have d3:=k3E _ hr.1
       have d2:=k3E _ hr.2.1
       have d1:=k3E _ hr.2.2.1
       have d0:=k3E _ hr.2.2.2
       have side: ∀e:Int,0≤e∧e≤15→(((0:Int)≤IntKind.i64.wrap (e+1)∧IntKind.i64.wrap (e+1)≤(((bs [48,49,50,51,52,53,54,55,56,57,97,98,99,100,101,102]).size:Nat):Int))∧((0:Int)≤e∧e≤(((IntKind.i64.wrap (e+1)).toNat:Nat):Int))):=by
        intro e he2
        rw[i64w (by omega),e16];omega
       have sz: ∀(a b:BA) (m1 m2:Nat),a.size≤m1→b.size≤m2→m1+m2≤1000→(((a.size+b.size:Nat):Int)≤9223372036854775807):=by intro a b m1 m2 h1 h2 h3;omega
       have z1:((bs [92,117])++digM (hx3 c)).size≤3:=by rw[ByteArray.size_append,eu];omega
       have z2:(((bs [92,117])++digM (hx3 c))++digM (hx2 c)).size≤4:=by rw[ByteArray.size_append];omega
       have z3:((((bs [92,117])++digM (hx3 c))++digM (hx2 c))++digM (hx1 c)).size≤5:=by rw[ByteArray.size_append];omega
       refine⟨side (hx3 c) hr.1,sz _ (digM (hx3 c)) 2 1 (by rw[eu];omega) d3 (by omega),side (hx2 c) hr.2.1,sz (bs [92,117]++digM (hx3 c)) (digM (hx2 c)) 3 1 z1 d2 (by omega),side (hx1 c) hr.2.2.1,
        sz (bs [92,117]++digM (hx3 c)++digM (hx2 c)) (digM (hx1 c)) 4 1 z2 d1 (by omega),side (hx0 c) hr.2.2.2,sz (bs [92,117]++digM (hx3 c)++digM (hx2 c)++digM (hx1 c)) (digM (hx0 c)) 5 1 z3 d0 (by omega),?_,rfl,rfl,by omega⟩
       show(((out.size+(escM c).size:Nat):Int)≤9223372036854775807)
       omega
      ·dsimp only at he⊢
       have hqo:k1d s k c n=s.extract k (k+n):=by unfold k1d;rw[if_neg (by rw[hb];simp),if_neg (by rw[he];simp)]
       rw[hw,ek,ekn,hqo]
       have hz:(s.extract k (k+n)).size=n:=by rw[ByteArray.size_extract];omega
       rw[hz]
       exact⟨by omega,by omega,rfl,rfl,by omega⟩
   ·rintro⟨y,_⟩ _ ⟨rfl,hy,hys⟩
    dsimp only at hy⊢
    rw[hw]
    refine⟨⟨rfl,k+n,rfl,by omega,?_,?_⟩,by omega⟩
    ·rw[hy,ByteArray.size_append];omega
    ·rw[hq,hy,ByteArray.append_assoc]
 ·have hge': ¬k<s.size:=by simp at hge;omega
  rw[dif_neg hge'] at hq
  exact⟨by rw[e1];omega,rkI ⟨by rw[hq];rfl,rfl⟩⟩
abbrev k2d:BA:=bs [40]
abbrev k2e:BA:=bs [41]
abbrev k1Z:BA:=bs [123]
abbrev k20:BA:=bs [125]
abbrev sSqL:BA:=bs [91]
abbrev sSqR:BA:=bs [93]
abbrev sEq:BA:=bs [61]
abbrev sCol:BA:=bs [58]
abbrev sDol:BA:=bs [36]
abbrev sAt:BA:=bs [64]
abbrev sAmp:BA:=bs [38]
abbrev k8s:BA:=bs [124]
abbrev k55:BA:=bs [46,46,46]
abbrev kdX:BA:=bs [33]
abbrev k3h:BA:=bs [102,114,97,103,109,101,110,116]
abbrev k2F:BA:=bs [115,99,104,101,109,97]
abbrev k1f:BA:=bs [115,99,97,108,97,114]
abbrev k2k:BA:=bs [116,121,112,101]
abbrev k1H:BA:=bs [105,109,112,108,101,109,101,110,116,115]
abbrev k2j:BA:=bs [105,110,116,101,114,102,97,99,101]
abbrev k2l:BA:=bs [117,110,105,111,110]
abbrev k2h:BA:=bs [101,110,117,109]
abbrev k2i:BA:=bs [105,110,112,117,116]
abbrev k3g:BA:=bs [100,105,114,101,99,116,105,118,101]
abbrev k2E:BA:=bs [101,120,116,101,110,100]
def allM (kt:KT):List BA:=kt.flatMap fun x=>x.2
def k1n (kt:KT):List BA:=k0F eB eB eB [10] kt
def k3f (kt:KT):List BA:=k0F eB eB eB [5] kt
def defM (n:Nd) (kt:KT):List BA:=k0F eB eB eB [23] kt++
 (if n.kind=24 then[k2F]++(k1n kt++(k0F k1Z k20 eB [25] kt++[]))
 else if n.kind=25 then[n.text,sCol,n.name]++[]
 else if n.kind=26 then[k1f,n.name]++(k1n kt++[])
 else if n.kind=27 then[k2k,n.name]++(k0F k1H eB sAmp [28] kt++(k1n kt++(k0F k1Z k20 eB [29] kt++[])))
 else if n.kind=31 then[k2j,n.name]++(k1n kt++(k0F k1Z k20 eB [29] kt++[]))
 else if n.kind=29 then[n.name]++(k0F k2d k2e eB [30] kt++(k1o sCol k0q kt++(k1n kt++[])))
 else if n.kind=30 then[n.name]++(k1o sCol k0q kt++(k1o sEq k0n kt++(k1n kt++[])))
 else if n.kind=32 then[k2l,n.name]++(k1n kt++(k0F sEq eB k8s [33] kt++[]))
 else if n.kind=34 then[k2h,n.name]++(k1n kt++(k0F k1Z k20 eB [35] kt++[]))
 else if n.kind=35 then[n.name]++(k1n kt++[])
 else if n.kind=36 then[k2i,n.name]++(k1n kt++(k0F k1Z k20 eB [30] kt++[]))
 else if n.kind=37 then[k3g,sAt,n.name]++(k0F k2d k2e eB [30] kt++(k0F onB eB k8s [38] kt++[]))
 else if n.kind=39 then[k2E]++(allM kt++[])
 else[])
def k6F (n:Nd) (kt:KT):List BA:=
 if n.kind=11 then[sDol,n.name]++[]
 else if n.kind=12∨n.kind=13 then[n.text]++[]
 else if n.kind=14∨n.kind=23 then[if n.flag=1 then k1C n.text else k1v n.text]++[]
 else if n.kind=15 then[if n.flag=0 then k2I else k37]++[]
 else if n.kind=17 then[sSqL]++(allM kt++([sSqR]++[]))
 else if n.kind=18 then[k1Z]++(allM kt++([k20]++[]))
 else if n.kind=21 then[sSqL]++(allM kt++([sSqR]++[]))
 else if n.kind=22 then allM kt++([kdX]++[])
 else if n.kind=16∨n.kind=20∨n.kind=28∨n.kind=33∨n.kind=38 then[n.name]++[]
 else defM n kt
def k1E (n:Nd) (kt:KT):List BA:=
 if n.kind=1 then allM kt++[]
 else if n.kind=2 then(if n.flag=0 then[n.text]++optB n.name else[])++(k0F k2d k2e eB [4] kt++(k1n kt++(k3f kt++[])))
 else if n.kind=3 then[k3h,n.name,onB,n.text]++(k1n kt++(k3f kt++[]))
 else if n.kind=4 then[sDol,n.name,sCol]++(k1o eB k0q kt++(k1o sEq k0n kt++[]))
 else if n.kind=5 then k0F k1Z k20 eB [6,7,8] kt++[]
 else if n.kind=6 then(if n.alias=eB then[] else[n.alias,sCol])++([n.name]++(k0F k2d k2e eB [9] kt++(k1n kt++(k3f kt++[]))))
 else if n.kind=7 then[k55,n.name]++(k1n kt++[])
 else if n.kind=8 then[k55]++((if n.text=eB then[] else[onB,n.text])++(k1n kt++(k3f kt++[])))
 else if n.kind=9∨n.kind=19 then[n.name,sCol]++(k1o eB k0n kt++[])
 else if n.kind=10 then[sAt,n.name]++(k0F k2d k2e eB [9] kt++[])
 else k6F n kt
abbrev toks (t:Tr):List BA:=k28 k1E t
abbrev ktOf (t:Tr):KT:=k0i k1E t.ks
theorem kaS (t:Tr):toks t=k1E t.n (ktOf t):=by cases t;simp[toks,k28,ktOf,Tr.n,Tr.ks]
structure NCtx (t:Tr) (H0:Heap) (w m b o nn:Nat) (ds:List Nd) (ss:List BA) (i:Nat):Prop where
 kids: ∀k∈t.ks,k23 k1E k
 at_:At ds i (flat t)
 ws:Ws t
 few:ss.length+(toks t).length≤1000000
def TS (t:Tr) (H0 Hs:Heap) (w m b o nn:Nat) (ds:List Nd) (ss:List BA) (H:Heap) (rest:List BA):Prop:=
 ∃acc,toks t=acc++rest∧KeepT w Hs H∧WAt H0 H w m b o nn ds (ss++acc)
section
variable {t:Tr} {H0 Hs H:Heap} {w m b o nn i:Nat} {ds:List Nd} {ss rest:List BA}
theorem TS.few (c:NCtx t H0 w m b o nn ds ss i) {acc xs rest:List BA} (h:toks t=acc++(xs++rest)):(ss++acc).length+xs.length≤1000000:=by
 have h1:=c.few
 rw[h] at h1
 simp only[List.length_append] at h1⊢;omega
theorem TS.get {rest:List BA} (h:TS t H0 Hs w m b o nn ds ss H rest) {k:Nat} {cs:Array Value} {e:TypeId} {fr:Nat×Nat} (hk:Hs[k]?=some (.cells cs e fr)) (h1:e≠tq49) (h2:e≠tq9):H[k]?=some (.cells cs e fr):=by
 obtain⟨_,_,hK,_⟩:=h
 exact hK.get _ _ _ _ hk h1 h2
theorem TS.done {acc xs:List BA} {H':Heap} (hs:toks t=acc++(xs++rest)) (hK:KeepT w Hs H) (hk:KeepT w H H') (hw:WAt H0 H' w m b o nn ds (ss++acc++xs)):TS t H0 Hs w m b o nn ds ss H' rest:=
 ⟨acc++xs,by rw[hs,List.append_assoc],hK.trans hk,by rw[←List.append_assoc];exact hw⟩
theorem k0K (c:NCtx t H0 w m b o nn ds ss i) (xs:List BA) (h:TS t H0 Hs w m b o nn ds ss H (xs++rest)) {N C:Nat} (hN:N=xs.length) {K:Unit→Heap→Prop} (hk: ∀H',TS t H0 Hs w m b o nn ds ss H' rest→K () H'):
 newB H (.cells (xs.map .string).toArray tq9) fun lb H2=>k00 PP fq40 #[.pointer (some ⟨w,0,none⟩),.slice (some ⟨lb,0,none⟩) N C] H2 ⟨Unit,fun _=> .tuple #[]⟩ fun x H3=>K x H3:=by
 obtain⟨acc,hs,hK,hw⟩:=h
 refine k6z xs hw hN (TS.few c hs) ?_
 intro H' hK' hw'
 exact hk H' (TS.done hs hK hK' hw')
theorem k1M (c:NCtx t H0 w m b o nn ds ss i) (k0m end_ between:BA) (kinds:List Int) (hnd:kinds.Nodup) (h:TS t H0 Hs w m b o nn ds ss H (k0F k0m end_ between kinds (ktOf t)++rest)) {N C:Nat} (hN:N=kinds.length)
 (hN2:N<1000) {K:Unit→Heap→Prop} (hk: ∀H',TS t H0 Hs w m b o nn ds ss H' rest→K () H'):
 newB H (.cells (kinds.map (.int .i64 ·)).toArray tq3) fun kb H2=>k00 PP fq41 #[.pointer (some ⟨w,0,none⟩),.int .i64 i,.string k0m,.string end_,.string between,.slice (some ⟨kb,0,none⟩) N C] H2
  ⟨Unit,fun _=> .tuple #[]⟩ fun x H3=>K x H3:=by
 obtain⟨acc,hs,hK,hw⟩:=h
 refine k9C c.kids hw c.at_ c.ws k0m end_ between kinds hnd hN hN2 (TS.few c hs) ?_
 intro H' hK' hw'
 exact hk H' (TS.done hs hK hK' hw')
theorem k25 (c:NCtx t H0 w m b o nn ds ss i) (h:TS t H0 Hs w m b o nn ds ss H (k1n (ktOf t)++rest)) {K:Unit→Heap→Prop} (hk: ∀H',TS t H0 Hs w m b o nn ds ss H' rest→K () H'):
 k00 PP fq42 #[.pointer (some ⟨w,0,none⟩),.int .i64 i] H ⟨Unit,fun _=> .tuple #[]⟩ fun x H3=>K x H3:=by
 obtain⟨acc,hs,hK,hw⟩:=h
 refine kg9 c.kids hw c.at_ c.ws (TS.few c hs) ?_
 intro H' hK' hw'
 exact hk H' (TS.done hs hK hK' hw')
theorem kfz (c:NCtx t H0 w m b o nn ds ss i) (h:TS t H0 Hs w m b o nn ds ss H (k0F eB eB eB [23] (ktOf t)++rest)) {K:Unit→Heap→Prop} (hk: ∀H',TS t H0 Hs w m b o nn ds ss H' rest→K () H'):
 k00 PP fq131 #[.pointer (some ⟨w,0,none⟩),.int .i64 i] H ⟨Unit,fun _=> .tuple #[]⟩ fun x H3=>K x H3:=by
 obtain⟨acc,hs,hK,hw⟩:=h
 refine kfy c.kids hw c.at_ c.ws (TS.few c hs) ?_
 intro H' hK' hw'
 exact hk H' (TS.done hs hK hK' hw')
theorem k9l (c:NCtx t H0 w m b o nn ds ss i) (sign_:BA) (h:TS t H0 Hs w m b o nn ds ss H (k1o sign_ k0q (ktOf t)++rest)) {K:Unit→Heap→Prop} (hk: ∀H',TS t H0 Hs w m b o nn ds ss H' rest→K () H'):
 k00 PP fq43 #[.pointer (some ⟨w,0,none⟩),.int .i64 i,.string sign_,.func (.func fq44) #[] #[]] H ⟨Unit,fun _=> .tuple #[]⟩ fun x H3=>K x H3:=by
 obtain⟨acc,hs,hK,hw⟩:=h
 refine kgi c.kids hw c.at_ c.ws sign_ (TS.few c hs) ?_
 intro H' hK' hw'
 exact hk H' (TS.done hs hK hK' hw')
theorem k9m (c:NCtx t H0 w m b o nn ds ss i) (sign_:BA) (h:TS t H0 Hs w m b o nn ds ss H (k1o sign_ k0n (ktOf t)++rest)) {K:Unit→Heap→Prop} (hk: ∀H',TS t H0 Hs w m b o nn ds ss H' rest→K () H'):
 k00 PP fq43 #[.pointer (some ⟨w,0,none⟩),.int .i64 i,.string sign_,.func (.func fq45) #[] #[]] H ⟨Unit,fun _=> .tuple #[]⟩ fun x H3=>K x H3:=by
 obtain⟨acc,hs,hK,hw⟩:=h
 refine kgj c.kids hw c.at_ c.ws sign_ (TS.few c hs) ?_
 intro H' hK' hw'
 exact hk H' (TS.done hs hK hK' hw')
theorem TS.grow (h:TS t H0 Hs w m b o nn ds ss H rest) {H':Heap} (he:Ext [] H H'):TS t H0 Hs w m b o nn ds ss H' rest:=by
 obtain⟨acc,hs,hK,hw⟩:=h
 exact⟨acc,hs,hK.trans (he.keepT hw.lt),hw.grow he⟩
theorem TS.start (h:WAt H0 Hs w m b o nn ds ss) (hr:toks t=rest):TS t H0 Hs w m b o nn ds ss Hs rest:=
 ⟨[],by rw[hr];rfl,KeepT.refl _ _,by rw[List.append_nil];exact h⟩
theorem TS.fin (h:TS t H0 Hs w m b o nn ds ss H []):KeepT w Hs H∧WAt H0 H w m b o nn ds (ss++toks t):=by
 obtain⟨acc,hs,hK,hw⟩:=h
 rw[List.append_nil] at hs
 exact⟨hK,by rw[hs];exact hw⟩
end
section
variable {t:Tr} {H0 Hs H H':Heap} {w m b o nn i:Nat} {ds:List Nd} {ss rest rest':List BA}
theorem TS.rebase (h:TS t H0 Hs w m b o nn ds ss H rest):TS t H0 H w m b o nn ds ss H rest:=by
 obtain⟨acc,hs,_,hw⟩:=h;exact⟨acc,hs,KeepT.refl _ _,hw⟩
theorem TS.back (h:TS t H0 Hs w m b o nn ds ss H rest) (k:TS t H0 H w m b o nn ds ss H' rest'):TS t H0 Hs w m b o nn ds ss H' rest':=by
 obtain⟨acc,_,hK,_⟩:=h
 obtain⟨acc',hs',hK',hw'⟩:=k
 exact⟨acc',hs',hK.trans hK',hw'⟩
theorem ka8 (c:NCtx t H0 w m b o nn ds ss i) {k:Tr} (hks:t.ks=[k]) (h:TS t H0 Hs w m b o nn ds ss H (allM (ktOf t)++rest)) {K:Unit→Heap→Prop} (hk: ∀H',TS t H0 Hs w m b o nn ds ss H' rest→K () H'):
 k00 PP fq31 #[.pointer (some ⟨w,0,none⟩),.int .i64 (IntKind.i64.wrap ((i:Int)+1))] H ⟨Unit,fun _=> .tuple #[]⟩ fun x H3=>K x H3:=by
 obtain⟨acc,hs,hK,hw⟩:=h
 have hle:=c.at_.le' (k1i _)
 have h1:=hw.doc.len
 have h2:=hw.doc.lt
 have hpos:=k1z t
 rw[k0h (by omega)]
 have hat1:At ds (i+1) (flat k):=by
  have:=c.at_
  obtain⟨nd,ks⟩:=t
  have hks':ks=[k]:=hks
  have:=this.kids
  rw[hks'] at this
  simpa [k0a] using this
 have hw1:Ws k:=c.ws.kids.mem k (by rw[hks];simp)
 have he:allM (ktOf t)=toks k:=by unfold ktOf allM;rw[hks];simp[k0i]
 rw[he] at hs
 refine k4T (c.kids k (by rw[hks];simp)) hw hat1 hw1 (TS.few c hs) ?_
 intro H' hK' hw'
 exact hk H' (TS.done hs hK hK' hw')
end
theorem klg {t:Tr} {H0 H:Heap} {w m b o nn i:Nat} {ds:List Nd} {ss:List BA} (c:NCtx t H0 w m b o nn ds ss i) (h:TS t H0 H w m b o nn ds ss H (defM t.n (ktOf t))) (hone:t.n.kind=39→ ∃k,t.ks=[k]):
 Fn PP fq77 #[.pointer (some ⟨w,0,none⟩),.int .i64 i] H fun v H'=>v= .tuple #[]∧TS t H0 H w m b o nn ds ss H' []:=by
 refine k7y.enter w i H _ ?_
 unfold k7y.W
 obtain⟨acc,hs,hK,hw⟩:=id h
 obtain⟨cc,hd⟩:=hw.d
 have hle:=c.at_.le' (k1i _)
 have h1:=hw.doc.len
 have h2:=hw.doc.lt
 have hpos:=k1z t
 refine⟨(some ⟨b,o,none⟩,nn,cc),hd,k0k (by omega) (by dsimp only;omega),(t.n.kind,t.n.name,t.n.alias,t.n.text,t.n.flag,t.n.size),hw.doc.nodes.all c.at_.root,?_⟩
 refine nbI fun H4 e4 hb4 ext4 hs4=>?_
 refine swI hb4 (by simp) rfl rfl fun H5 e5 hb5 ext5 hs5=>?_
 have hb5:H5[H4.size -1]?=some (.cells #[.int .i64 t.n.kind,.string t.n.name,.string t.n.alias,.string t.n.text,.int .i64 t.n.flag,.int .i64 t.n.size] tq41 (0,0)):=by
  rw[hs4,Nat.add_sub_cancel];exact hb5
 have hE5:Ext [] H H5:=Ext.newer ext4 ext5 (Nat.le_refl _)
 have h5:=(h.grow hE5).rebase
 have hback: ∀ {H':Heap},TS t H0 H5 w m b o nn ds ss H' []→TS t H0 H w m b o nn ds ss H' []:=fun k=>(h.grow hE5).back k
 have hbk:H4.size -1=H.size:=by omega
 rw[hbk] at hb5
 clear e4 hb4 ext4 e5 ext5 hs5
 generalize H.size=bk at hb5⊢
 refine kfz c h5 ?_
 intro H7 h7
 refine⟨_,lcO (h7.get hb5 (by decide) (by decide)) rfl,?_⟩
 refine fkI (fun hk=>?_) (fun hk=>?_)
 ·have hk':t.n.kind=24:=eq_of_beq hk
  rw[if_pos hk'] at h7
  refine k0K c [k2F] h7 rfl ?_
  intro _ g1
  refine k25 c g1 ?_
  intro _ g2
  refine k1M c k1Z k20 eB [25] (by decide) g2 rfl (by decide) ?_
  intro _ g3
  exact rkI ⟨rfl,hback g3⟩
 rw[if_neg (by simpa using hk)] at h7
 refine fkI (fun hk=>?_) (fun hk=>?_)
 ·have hk':t.n.kind=25:=eq_of_beq hk
  rw[if_pos hk'] at h7
  refine⟨_,lcO (h7.get hb5 (by decide) (by decide)) rfl,?_⟩
  refine⟨_,lcO (h7.get hb5 (by decide) (by decide)) rfl,?_⟩
  refine k0K c [t.n.text,sCol,t.n.name] h7 rfl ?_
  intro _ g1
  exact rkI ⟨rfl,hback g1⟩
 rw[if_neg (by simpa using hk)] at h7
 refine fkI (fun hk=>?_) (fun hk=>?_)
 ·have hk':t.n.kind=26:=eq_of_beq hk
  rw[if_pos hk'] at h7
  refine⟨_,lcO (h7.get hb5 (by decide) (by decide)) rfl,?_⟩
  refine k0K c [k1f,t.n.name] h7 rfl ?_
  intro _ g1
  refine k25 c g1 ?_
  intro _ g2
  exact rkI ⟨rfl,hback g2⟩
 rw[if_neg (by simpa using hk)] at h7
 refine fkI (fun hk=>?_) (fun hk=>?_)
 ·have hk':t.n.kind=27:=eq_of_beq hk
  rw[if_pos hk'] at h7
  refine⟨_,lcO (h7.get hb5 (by decide) (by decide)) rfl,?_⟩
  refine k0K c [k2k,t.n.name] h7 rfl ?_
  intro _ g1
  refine k1M c k1H eB sAmp [28] (by decide) g1 rfl (by decide) ?_
  intro _ g2
  refine k25 c g2 ?_
  intro _ g3
  refine k1M c k1Z k20 eB [29] (by decide) g3 rfl (by decide) ?_
  intro _ g4
  exact rkI ⟨rfl,hback g4⟩
 rw[if_neg (by simpa using hk)] at h7
 refine fkI (fun hk=>?_) (fun hk=>?_)
 ·have hk':t.n.kind=31:=eq_of_beq hk
  rw[if_pos hk'] at h7
  refine⟨_,lcO (h7.get hb5 (by decide) (by decide)) rfl,?_⟩
  refine k0K c [k2j,t.n.name] h7 rfl ?_
  intro _ g1
  refine k25 c g1 ?_
  intro _ g2
  refine k1M c k1Z k20 eB [29] (by decide) g2 rfl (by decide) ?_
  intro _ g3
  exact rkI ⟨rfl,hback g3⟩
 rw[if_neg (by simpa using hk)] at h7
 refine fkI (fun hk=>?_) (fun hk=>?_)
 ·have hk':t.n.kind=29:=eq_of_beq hk
  rw[if_pos hk'] at h7
  refine⟨_,lcO (h7.get hb5 (by decide) (by decide)) rfl,?_⟩
  refine k0K c [t.n.name] h7 rfl ?_
  intro _ g1
  refine k1M c k2d k2e eB [30] (by decide) g1 rfl (by decide) ?_
  intro _ g2
  refine k9l c sCol g2 ?_
  intro _ g3
  refine k25 c g3 ?_
  intro _ g4
  exact rkI ⟨rfl,hback g4⟩
 rw[if_neg (by simpa using hk)] at h7
 refine fkI (fun hk=>?_) (fun hk=>?_)
 ·have hk':t.n.kind=30:=eq_of_beq hk
  rw[if_pos hk'] at h7
  refine⟨_,lcO (h7.get hb5 (by decide) (by decide)) rfl,?_⟩
  refine k0K c [t.n.name] h7 rfl ?_
  intro _ g1
  refine k9l c sCol g1 ?_
  intro _ g2
  refine k9m c sEq g2 ?_
  intro _ g3
  refine k25 c g3 ?_
  intro _ g4
  exact rkI ⟨rfl,hback g4⟩
 rw[if_neg (by simpa using hk)] at h7
 refine fkI (fun hk=>?_) (fun hk=>?_)
 ·have hk':t.n.kind=32:=eq_of_beq hk
  rw[if_pos hk'] at h7
  refine⟨_,lcO (h7.get hb5 (by decide) (by decide)) rfl,?_⟩
  refine k0K c [k2l,t.n.name] h7 rfl ?_
  intro _ g1
  refine k25 c g1 ?_
  intro _ g2
  refine k1M c sEq eB k8s [33] (by decide) g2 rfl (by decide) ?_
  intro _ g3
  exact rkI ⟨rfl,hback g3⟩
 rw[if_neg (by simpa using hk)] at h7
 refine fkI (fun hk=>?_) (fun hk=>?_)
 ·have hk':t.n.kind=34:=eq_of_beq hk
  rw[if_pos hk'] at h7
  refine⟨_,lcO (h7.get hb5 (by decide) (by decide)) rfl,?_⟩
  refine k0K c [k2h,t.n.name] h7 rfl ?_
  intro _ g1
  refine k25 c g1 ?_
  intro _ g2
  refine k1M c k1Z k20 eB [35] (by decide) g2 rfl (by decide) ?_
  intro _ g3
  exact rkI ⟨rfl,hback g3⟩
 rw[if_neg (by simpa using hk)] at h7
 refine fkI (fun hk=>?_) (fun hk=>?_)
 ·have hk':t.n.kind=35:=eq_of_beq hk
  rw[if_pos hk'] at h7
  refine⟨_,lcO (h7.get hb5 (by decide) (by decide)) rfl,?_⟩
  refine k0K c [t.n.name] h7 rfl ?_
  intro _ g1
  refine k25 c g1 ?_
  intro _ g2
  exact rkI ⟨rfl,hback g2⟩
 rw[if_neg (by simpa using hk)] at h7
 refine fkI (fun hk=>?_) (fun hk=>?_)
 ·have hk':t.n.kind=36:=eq_of_beq hk
  rw[if_pos hk'] at h7
  refine⟨_,lcO (h7.get hb5 (by decide) (by decide)) rfl,?_⟩
  refine k0K c [k2i,t.n.name] h7 rfl ?_
  intro _ g1
  refine k25 c g1 ?_
  intro _ g2
  refine k1M c k1Z k20 eB [30] (by decide) g2 rfl (by decide) ?_
  intro _ g3
  exact rkI ⟨rfl,hback g3⟩
 rw[if_neg (by simpa using hk)] at h7
 refine fkI (fun hk=>?_) (fun hk=>?_)
 ·have hk':t.n.kind=37:=eq_of_beq hk
  rw[if_pos hk'] at h7
  refine⟨_,lcO (h7.get hb5 (by decide) (by decide)) rfl,?_⟩
  refine k0K c [k3g,sAt,t.n.name] h7 rfl ?_
  intro _ g1
  refine k1M c k2d k2e eB [30] (by decide) g1 rfl (by decide) ?_
  intro _ g2
  refine k1M c onB eB k8s [38] (by decide) g2 rfl (by decide) ?_
  intro _ g3
  exact rkI ⟨rfl,hback g3⟩
 rw[if_neg (by simpa using hk)] at h7
 refine fkI (fun hk=>?_) (fun hk=>?_)
 ·have hk':t.n.kind=39:=eq_of_beq hk
  rw[if_pos hk'] at h7
  refine k0K c [k2E] h7 rfl ?_
  intro _ g1
  obtain⟨k,hks⟩:=hone hk'
  refine ka8 c hks g1 ?_
  intro _ g2
  exact rkI ⟨rfl,hback g2⟩
 rw[if_neg (by simpa using hk)] at h7
 exact rkI ⟨rfl,hback h7⟩
section
variable {t:Tr} {H0 Hs H H':Heap} {w m b o nn i:Nat} {ds:List Nd} {ss rest rest':List BA}
theorem KeepT.ints {w:Nat} {A H H':Heap} {a:OA} {n c:Nat} {ps:List Nat} (hK:KeepT w H H') (hF:Fresh A H tq3 1 a n c (intL ps)):k0G H' a n (intL ps):=by
 have hS:=k0G.of_own hF.own
 refine⟨hS.1,?_⟩
 rcases hF.own.2 with⟨_,h0,_⟩|⟨g,cur,hg,hgc,hnc,_,hs,ht⟩
 ·exact .inl h0
 ·refine .inr ⟨g,0,cur,tq3,(0,0),hg,hK.get _ _ _ _ hgc (by decide) (by decide),fun q s hq=>?_⟩
  have hlt:=(List.getElem?_eq_some_iff.1 hq).1
  have h2:(cur.toList.take (n*1))[q]?=some s:=by rw[ht];exact hq
  have hl:=hS.1
  rw[List.getElem?_take,if_pos (by omega)] at h2
  simpa using h2
theorem kbm (t:Tr) (j:Nat) (hj:j<t.ks.length):allM ((ktOf t).drop j)=toks t.ks[j]++allM ((ktOf t).drop (j+1)):=by
 have hkt:ktOf t=t.ks.map fun t=>(t.n,toks t):=k74 k1E t.ks
 have hl:j<(ktOf t).length:=by rw[hkt];simpa using hj
 rw[List.drop_eq_getElem_cons hl]
 unfold allM
 simp[hkt]
theorem kbo (c:NCtx t H0 w m b o nn ds ss i) (h:TS t H0 Hs w m b o nn ds ss H (allM (ktOf t)++rest)) {K:Heap→Prop} (hk: ∀H',TS t H0 Hs w m b o nn ds ss H' rest→K H'):
 k01 H false 1 ⟨w,0,none⟩ pSlc fun(x70:(OA×Nat×Nat))=>k00 PP fq26 #[(.slice x70.1 x70.2.1 x70.2.2),(.int .i64 i)] H pSlc fun(x71:(OA×Nat×Nat)) H72=>
  k0e (Int×Unit) (0,()) H72 fun z73 H74 next75=>k02 (decide (z73.1<((x71.2.1:Nat):Int)))
   ((IxOk x71.1 z73.1 x71.2.1)∧k01 H74 false 1 ⟨(k0c x71.1),(k0b x71.1+z73.1.toNat*1),none⟩ (pInt .i64) fun(x76:Int)=>
     k00 PP fq31 #[(.pointer (some ⟨w,0,none⟩)),(.int .i64 x76)] H74 ⟨Unit,fun _=>(.tuple #[])⟩ fun(_:Unit) H78=>next75 ((IntKind.i64.wrap (z73.1+1)),()) H78)
   (K H74):=by
 obtain⟨acc,hs,hK,hw⟩:=id h
 obtain⟨cc,hd⟩:=hw.d
 refine⟨(some ⟨b,o,none⟩,nn,cc),hd,?_⟩
 refine(k3W b o nn cc ds H hw.doc i t c.at_ c.ws).mono ?_
 rintro _ H2 ⟨a1,m1,k1,ps,rfl,hF,hp⟩
 refine⟨(a1,m1,k1),rfl,?_⟩
 have hm1:=(k0G.of_own hF.own).1
 simp only[intL,List.length_map] at hm1
 have hlen:=hp.length
 have hkl:=k6a t
 have hle:=c.at_.le' (k1i _)
 have hdl:=hw.doc.len
 have hdt:=hw.doc.lt
 have h2:=h.grow hF.ext
 refine⟨fun z H'=>KeepT w H2 H'∧ ∃j:Nat,z.1=j∧j≤m1∧TS t H0 Hs w m b o nn ds ss H' (allM ((ktOf t).drop j)++rest),fun z _=>m1 -z.1.toNat,⟨KeepT.refl _ _,0,rfl,Nat.zero_le _,h2⟩,?_⟩
 rintro⟨_,_⟩ H3 ⟨hK3,j,hj,hjm,h3⟩
 dsimp only at hj⊢
 subst hj
 refine fkI (fun hlt=>?_) (fun hge=>?_)
 ·have hj':j<t.ks.length:=by simp at hlt;omega
  obtain⟨p,hpj,hatj,hwj⟩:=hp.get j hj'
  have hL:=(hK3.ints hF).load (i:=j) (v:= .int .i64 (p:Int)) (by simp[intL,hpj])
  rw[kbm t j hj',List.append_assoc] at h3
  obtain⟨acc3,hs3,hKs,hw3⟩:=h3
  refine⟨hL.1,_,hL.2,?_⟩
  refine k4T (c.kids _ (List.getElem_mem hj')) hw3 hatj hwj (TS.few c hs3) ?_
  intro H4 hK4 hw4
  rw[k0h (by omega)]
  exact⟨⟨hK3.trans hK4,j+1,rfl,by omega,TS.done hs3 hKs hK4 hw4⟩,by omega⟩
 ·have hj':j=t.ks.length:=by simp at hge;omega
  have hnil:(ktOf t).drop j=[]:=List.drop_eq_nil_of_le (by rw[show ktOf t=t.ks.map fun t=>(t.n,toks t) from k74 k1E t.ks,List.length_map];omega)
  rw[hnil] at h3
  exact hk H3 h3
theorem WAt.outRow_ne {H0 H:Heap} {w m b o nn:Nat} {ds:List Nd} {ss:List BA} (h:WAt H0 H w m b o nn ds ss) {H':Heap} (he:Ext [] H H'):k2N H' w≠some H.size:=by
 obtain⟨a,n,c,cc,hw,ho,hr⟩:=h.st
 have hw':=he.get _ _ hw (by simp)
 have e:k2N H' w=k0u a:=by unfold k2N;rw[hw'];rfl
 rw[e]
 intro hrow
 obtain⟨cur,_,hg,_⟩:=ho.row hrow
 have:=k0l hg
 omega
end
theorem kll {t:Tr} {H0 H:Heap} {w m b o nn i:Nat} {ds:List Nd} {ss:List BA} (c:NCtx t H0 w m b o nn ds ss i) (h:TS t H0 H w m b o nn ds ss H (k6F t.n (ktOf t)))
 (hone:(t.n.kind=21∨t.n.kind=22∨t.n.kind=39)→ ∃k,t.ks=[k]) (hflag:t.n.kind=15→t.n.flag=0∨t.n.flag=1) (hsz:t.n.text.size<4294967200):
 Fn PP fq46 #[.pointer (some ⟨w,0,none⟩),.int .i64 i] H fun v H'=>v= .tuple #[]∧TS t H0 H w m b o nn ds ss H' []:=by
 refine k7C.enter w i H _ ?_
 unfold k7C.W
 obtain⟨acc,hs,hK,hw⟩:=id h
 obtain⟨cc,hd⟩:=hw.d
 have hle:=c.at_.le' (k1i _)
 have h1:=hw.doc.len
 have h2:=hw.doc.lt
 have hpos:=k1z t
 refine⟨(some ⟨b,o,none⟩,nn,cc),hd,k0k (by omega) (by dsimp only;omega),(t.n.kind,t.n.name,t.n.alias,t.n.text,t.n.flag,t.n.size),hw.doc.nodes.all c.at_.root,?_⟩
 refine nbI fun H4 e4 hb4 ext4 hs4=>?_
 refine swI hb4 (by simp) rfl rfl fun H5 e5 hb5 ext5 hs5=>?_
 have hb5:H5[H4.size -1]?=some (.cells #[.int .i64 t.n.kind,.string t.n.name,.string t.n.alias,.string t.n.text,.int .i64 t.n.flag,.int .i64 t.n.size] tq41 (0,0)):=by
  rw[hs4,Nat.add_sub_cancel];exact hb5
 have hE5:Ext [] H H5:=Ext.newer ext4 ext5 (Nat.le_refl _)
 have h7:=(h.grow hE5).rebase
 have hback: ∀ {H':Heap},TS t H0 H5 w m b o nn ds ss H' []→TS t H0 H w m b o nn ds ss H' []:=fun k=>(h.grow hE5).back k
 have hbk:H4.size -1=H.size:=by omega
 rw[hbk] at hb5
 clear e4 hb4 ext4 e5 ext5 hs5
 generalize H.size=bk at hb5⊢
 have ld: ∀ {H':Heap} {rest:List BA},TS t H0 H5 w m b o nn ds ss H' rest→H'[bk]?=some (.cells #[.int .i64 t.n.kind,.string t.n.name,.string t.n.alias,.string t.n.text,.int .i64 t.n.flag,.int .i64 t.n.size] tq41 (0,0)):=
  fun h=>h.get hb5 (by decide) (by decide)
 unfold k6F at h7
 refine⟨_,lcO hb5 rfl,?_⟩
 refine fkI (fun hk=>?_) (fun hk=>?_)
 ·rw[if_pos (eq_of_beq hk)] at h7
  refine⟨_,lcO hb5 rfl,?_⟩
  refine k0K c [sDol,t.n.name] h7 rfl ?_
  intro _ g1
  exact rkI ⟨rfl,hback g1⟩
 rw[if_neg (by simpa using hk)] at h7
 have num:(t.n.kind=12∨t.n.kind=13)→k01 H5 false 1 ⟨bk,3,none⟩ pStr fun(x12:BA)=>newB H5 (.cells #[(.string x12)] tq9) fun b13 H14=>
  k00 PP fq40 #[(.pointer (some ⟨w,0,none⟩)),(.slice (some ⟨b13,0,none⟩) 1 1)] H14 ⟨Unit,fun _=>(.tuple #[])⟩ fun(_:Unit) H16=>
  rk [] H16 fun v H'=>v= .tuple #[]∧TS t H0 H w m b o nn ds ss H' []:=by
  intro hk
  rw[if_pos hk] at h7
  refine⟨_,lcO hb5 rfl,?_⟩
  refine k0K c [t.n.text] h7 rfl ?_
  intro _ g1
  exact rkI ⟨rfl,hback g1⟩
 refine fkI (fun hk=>num (.inl (eq_of_beq hk))) (fun hk12=>?_)
 refine fkI (fun hk=>num (.inr (eq_of_beq hk))) (fun hk13=>?_)
 rw[if_neg (by simp at hk12 hk13;omega)] at h7
 have str:(t.n.kind=14∨t.n.kind=23)→k01 H5 false 1 ⟨bk,4,none⟩ (pInt .i64) fun(x22:Int)=>
  k02 (x22==1)
  (k01 H5 false 1 ⟨bk,3,none⟩ pStr fun(x23:BA)=>
    k00 PP fq75 #[(.string x23)] H5 pStr fun(x24:BA) H25=>
    newB H25 (.cells #[(.string x24)] tq9) fun b26 H27=>
    k00 PP fq40 #[(.pointer (some ⟨w,0,none⟩)),(.slice (some ⟨b26,0,none⟩) 1 1)] H27 ⟨Unit,fun _=>(.tuple #[])⟩ fun(_:Unit) H29=>
    rk [] H29 fun v H'=>v= .tuple #[]∧TS t H0 H w m b o nn ds ss H' [])
  (k01 H5 false 1 ⟨bk,3,none⟩ pStr fun(x30:BA)=>
    k00 PP fq76 #[(.string x30)] H5 pStr fun(x31:BA) H32=>
    newB H32 (.cells #[(.string x31)] tq9) fun b33 H34=>
    k00 PP fq40 #[(.pointer (some ⟨w,0,none⟩)),(.slice (some ⟨b33,0,none⟩) 1 1)] H34 ⟨Unit,fun _=>(.tuple #[])⟩ fun(_:Unit) H36=>
    rk [] H36 fun v H'=>v= .tuple #[]∧TS t H0 H w m b o nn ds ss H' []):=by
  intro hk
  rw[if_pos hk] at h7
  refine⟨_,lcO hb5 rfl,fkI (fun hf=>?_) (fun hf=>?_)⟩
  ·rw[if_pos (eq_of_beq hf)] at h7
   refine⟨_,lcO hb5 rfl,?_⟩
   refine(keL _ H5 hsz).mono ?_
   rintro _ _ ⟨rfl,rfl⟩
   refine⟨_,rfl,?_⟩
   refine k0K c [k1C t.n.text] h7 rfl ?_
   intro _ g1
   exact rkI ⟨rfl,hback g1⟩
  ·rw[if_neg (by simpa using hf)] at h7
   refine⟨_,lcO hb5 rfl,?_⟩
   refine(kfs _ H5 hsz).mono ?_
   rintro _ _ ⟨rfl,rfl⟩
   refine⟨_,rfl,?_⟩
   refine k0K c [k1v t.n.text] h7 rfl ?_
   intro _ g1
   exact rkI ⟨rfl,hback g1⟩
 refine fkI (fun hk=>str (.inl (eq_of_beq hk))) (fun hk14=>?_)
 refine fkI (fun hk=>str (.inr (eq_of_beq hk))) (fun hk23=>?_)
 rw[if_neg (by simp at hk14 hk23;omega)] at h7
 refine fkI (fun hk=>?_) (fun hk15=>?_)
 ·have hfl:=hflag (eq_of_beq hk)
  rw[if_pos (eq_of_beq hk)] at h7
  refine nbI fun H6 e6 hb6 ext6 hs6=>?_
  have g0:=h7.grow ext6
  have hb5':=ext6.get _ _ hb5 (by simp)
  refine⟨_,lcO hb5' rfl,?_⟩
  rcases hfl with hfl|hfl
  ·rw[hfl] at g0⊢
   refine⟨k0k (by omega) (by omega),k2I,lcO hb6 rfl,?_⟩
   refine k0K c [k2I] g0 rfl ?_
   intro _ g1
   exact rkI ⟨rfl,hback g1⟩
  ·rw[hfl] at g0⊢
   refine⟨k0k (by omega) (by omega),k37,lcO hb6 rfl,?_⟩
   refine k0K c [k37] g0 rfl ?_
   intro _ g1
   exact rkI ⟨rfl,hback g1⟩
 rw[if_neg (by simpa using hk15)] at h7
 refine fkI (fun hk=>?_) (fun hk17=>?_)
 ·have hk':t.n.kind=17:=eq_of_beq hk
  rw[if_pos hk'] at h7
  refine nbI fun H6 e6 hb6 ext6 hs6=>?_
  have g0:=h7.grow ext6
  have hb5':=ext6.get _ _ hb5 (by simp)
  refine⟨_,lcO hb5' rfl,fkI (fun hx=>?_) (fun _=>?_)⟩
  ·have:=eq_of_beq hx;rw[hk'] at this;cases this
  obtain⟨_,_,_,hw7⟩:=id h7
  have hne:=hw7.outRow_ne ext6
  refine⟨k0k (by omega) (by omega),sSqL,lcO hb6 rfl,?_⟩
  have g0':=g0.rebase
  refine k0K c [sSqL] g0' rfl ?_
  intro _ g1
  refine kbo c g1 ?_
  intro H8 g2
  obtain⟨_,_,hK2,_⟩:=id g2
  have hb8:=hK2.strs _ _ _ hb6 hne
  refine⟨k0k (by omega) (by omega),sSqR,lcO hb8 rfl,?_⟩
  refine k0K c [sSqR] g2 rfl ?_
  intro _ g3
  exact rkI ⟨rfl,hback (g0.back g3)⟩
 rw[if_neg (by simpa using hk17)] at h7
 refine fkI (fun hk=>?_) (fun hk18=>?_)
 ·have hk':t.n.kind=18:=eq_of_beq hk
  rw[if_pos hk'] at h7
  refine nbI fun H6 e6 hb6 ext6 hs6=>?_
  have g0:=h7.grow ext6
  have hb5':=ext6.get _ _ hb5 (by simp)
  refine⟨_,lcO hb5' rfl,fkI (fun _=>?_) (fun hx=>?_)⟩
  rotate_left
  ·rw[hk'] at hx;cases hx
  refine nbI fun H7 e7 hb7 ext7 hs7=>?_
  obtain⟨_,_,_,hw7⟩:=id g0
  have hne:=hw7.outRow_ne ext7
  refine⟨k0k (by omega) (by omega),k1Z,lcO hb7 rfl,?_⟩
  have g0':=(g0.grow ext7).rebase
  refine k0K c [k1Z] g0' rfl ?_
  intro _ g1
  refine kbo c g1 ?_
  intro H8 g2
  obtain⟨_,_,hK2,_⟩:=id g2
  have hb8:=hK2.strs _ _ _ hb7 hne
  refine⟨k0k (by omega) (by omega),k20,lcO hb8 rfl,?_⟩
  refine k0K c [k20] g2 rfl ?_
  intro _ g3
  exact rkI ⟨rfl,hback ((g0.grow ext7).back g3)⟩
 rw[if_neg (by simpa using hk18)] at h7
 refine fkI (fun hk=>?_) (fun hk21=>?_)
 ·obtain⟨k,hks⟩:=hone (.inl (eq_of_beq hk))
  rw[if_pos (eq_of_beq hk)] at h7
  refine k0K c [sSqL] h7 rfl ?_
  intro _ g1
  refine ka8 c hks g1 ?_
  intro _ g2
  refine k0K c [sSqR] g2 rfl ?_
  intro _ g3
  exact rkI ⟨rfl,hback g3⟩
 rw[if_neg (by simpa using hk21)] at h7
 refine fkI (fun hk=>?_) (fun hk22=>?_)
 ·obtain⟨k,hks⟩:=hone (.inr (.inl (eq_of_beq hk)))
  rw[if_pos (eq_of_beq hk)] at h7
  refine ka8 c hks h7 ?_
  intro _ g2
  refine k0K c [kdX] g2 rfl ?_
  intro _ g3
  exact rkI ⟨rfl,hback g3⟩
 rw[if_neg (by simpa using hk22)] at h7
 have nam:(t.n.kind=16∨t.n.kind=20∨t.n.kind=28∨t.n.kind=33∨t.n.kind=38)→k01 H5 false 1 ⟨bk,1,none⟩ pStr fun(x12:BA)=>newB H5 (.cells #[(.string x12)] tq9) fun b13 H14=>
  k00 PP fq40 #[(.pointer (some ⟨w,0,none⟩)),(.slice (some ⟨b13,0,none⟩) 1 1)] H14 ⟨Unit,fun _=>(.tuple #[])⟩ fun(_:Unit) H16=>
  rk [] H16 fun v H'=>v= .tuple #[]∧TS t H0 H w m b o nn ds ss H' []:=by
  intro hk
  rw[if_pos hk] at h7
  refine⟨_,lcO hb5 rfl,?_⟩
  refine k0K c [t.n.name] h7 rfl ?_
  intro _ g1
  exact rkI ⟨rfl,hback g1⟩
 refine fkI (fun hk=>nam (.inl (eq_of_beq hk))) (fun hk16=>?_)
 refine fkI (fun hk=>nam (.inr (.inl (eq_of_beq hk)))) (fun hk20=>?_)
 refine fkI (fun hk=>nam (.inr (.inr (.inl (eq_of_beq hk))))) (fun hk28=>?_)
 refine fkI (fun hk=>nam (.inr (.inr (.inr (.inl (eq_of_beq hk)))))) (fun hk33=>?_)
 refine fkI (fun hk=>nam (.inr (.inr (.inr (.inr (eq_of_beq hk)))))) (fun hk38=>?_)
 rw[if_neg (by simp at hk16 hk20 hk28 hk33 hk38;omega)] at h7
 refine(klg c h7 (fun hk=>hone (.inr (.inr hk)))).mono ?_
 rintro _ H8 ⟨rfl,h8⟩
 exact⟨(),rfl,rkI ⟨rfl,hback h8⟩⟩
theorem kli {H0 H:Heap} {w m b o nn:Nat} {ds:List Nd} {ss:List BA} (h:WAt H0 H w m b o nn ds ss) {b1 b3 b7:Nat} {v7:Int} {i:Nat} {e1 e3 e7:TypeId} {f1 f3 f7:Nat×Nat}
 (hb1:H[b1]?=some (.cells #[.pointer (some ⟨w,0,none⟩)] e1 f1)) (hb3:H[b3]?=some (.cells #[.int .i64 (i:Int)] e3 f3)) (hb7:H[b7]?=some (.cells #[.int .i64 v7] e7 f7)):
 FnC PP fq39 #[.pointer (some ⟨b7,0,none⟩),.pointer (some ⟨b1,0,none⟩),.pointer (some ⟨b3,0,none⟩)] H fun _ H'=>KeepT w H H'∧WAt H0 H' w m b o nn ds ss:=by
 refine k3T.enterC b7 b1 b3 H _ ?_
 unfold k3T.W
 obtain⟨a,n,c,cc,hw,ho,hr⟩:=h.st
 obtain⟨es,clock,hm,hk⟩:=h.mp
 refine⟨w,lcO hb1 rfl,m,lcO hw rfl,_,lcO hb3 rfl,_,lcO hb7 rfl,w,lcO hb1 rfl,(a,n,c),lcO hw rfl,rfl,es,clock,hm,hk,?_⟩
 intro es' clock' hk'
 refine rkI ?_
 have ext:Ext [m] H (H.setIfInBounds m (.map es' clock')):=Ext.set (by simp) _
 have hget: ∀(k:Nat) (cs:Array Value) (e:TypeId) (fr:Nat×Nat),H[k]?=some (Obj.cells cs e fr)→(H.setIfInBounds m (.map es' clock'))[k]?=some (Obj.cells cs e fr):=by
  intro k cs e fr hk2
  refine ext.get _ _ hk2 ?_
  simp only[List.mem_singleton]
  rintro rfl
  rw[hm] at hk2;cases hk2
 have hw':=hget _ _ _ _ hw
 refine⟨⟨ext.size,fun k cs e fr hk2 _ _=>hget k cs e fr hk2,fun k cs fr hk2 _=>hget k cs _ fr hk2,fun r hr2=> .inl ?_⟩,?_⟩
 ·unfold k2N at hr2⊢
  rw[hw'] at hr2;rw[hw];exact hr2
 ·refine⟨Ext.newer h.ext ext h.mnew,?_,h.old,h.wnew,h.mnew,⟨a,n,c,cc,hw',?_,hr⟩,⟨es',clock',k2b _ _ _ _ hm,hk'⟩⟩
  ·refine h.doc.ext ext ?_
   have:=h.old;have:=h.mnew
   simp;omega
  ·refine ho.ext ext fun r hr2 hmem=>?_
   obtain⟨cur,_,hg,_⟩:=ho.row hr2
   simp at hmem;subst hmem
   rw[hm] at hg;cases hg
theorem klj (t:Tr) (hkids: ∀k∈t.ks,k23 k1E k) (hone:(t.n.kind=21∨t.n.kind=22∨t.n.kind=39)→ ∃k,t.ks=[k]) (hflag:t.n.kind=15→t.n.flag=0∨t.n.flag=1) (hsz:t.n.text.size<4294967200):
 k23 k1E t:=by
 intro H0 H w m b o nn ds ss i hw hat hws hfew
 have c:NCtx t H0 w m b o nn ds ss i:=⟨hkids,hat,hws,hfew⟩
 refine k7B.enter w i H _ ?_
 unfold k7B.W
 have hle:=hat.le' (k1i _)
 have h1:=hw.doc.len
 have h2:=hw.doc.lt
 have hpos:=k1z t
 refine nbI fun H2 e2 hb1 ext2 hs2=>?_
 refine nbI fun H4 e4 hb3 ext4 hs4=>?_
 have hw4:=(hw.grow ext2).grow ext4
 obtain⟨a,n,cp,cc,hwc,ho,hr⟩:=hw4.st
 have hb1:=ext4.get _ _ hb1 (by simp)
 refine⟨w,lcO hb1 rfl,(a,n,cp),lcO hwc rfl,?_⟩
 refine nbI fun H8 e8 hb7 ext8 hs8=>?_
 refine swI hb7 (by simp) rfl rfl fun H9 e9 hb7 ext9 hs9=>?_
 have hE9:Ext [] H4 H9:=Ext.newer ext8 ext9 (Nat.le_refl _)
 have hb1:=hE9.get _ _ hb1 (by simp)
 have hb3:=hE9.get _ _ hb3 (by simp)
 have hw9:=hw4.grow hE9
 have hwc9:=hE9.get _ _ hwc (by simp)
 have hnode:=hw9.doc.nodes.all hat.root
 refine⟨w,lcO hb1 rfl,(some ⟨b,o,none⟩,nn,cc),lcO hwc9 rfl,_,lcO hb3 rfl,k0k (by omega) (by dsimp only;omega),(t.n.kind,t.n.name,t.n.alias,t.n.text,t.n.flag,t.n.size),hnode,?_⟩
 refine nbI fun H15 e15 hb14 ext15 hs15=>?_
 have hb1:=ext15.get _ _ hb1 (by simp)
 have hb3:=ext15.get _ _ hb3 (by simp)
 have hb7:=ext15.get _ _ hb7 (by simp)
 have hwc15:=ext15.get _ _ hwc9 (by simp)
 refine⟨k2L ext15 hnode (by simp),lcO hb3 rfl,lcO hwc15 rfl,lcO hb1 rfl,?_⟩
 refine swI hb14 (by simp) rfl rfl fun H16 e16 hb14 ext16 hs16=>?_
 have hE16:Ext [] H9 H16:=Ext.newer ext15 ext16 (Nat.le_refl _)
 have l9: ∀ {k:Nat} {ob:Obj},H15[k]?=some ob→k<H9.size→H16[k]?=some ob:=fun h hl=>ext16.get _ _ h (by simp;omega)
 have z4:H4.size=H.size+2:=by omega
 have z9:H9.size=H.size+3:=by omega
 have hb1:H16[H.size]?=some (.cells #[.pointer (some ⟨w,0,none⟩)] tq46 (0,0)):=l9 hb1 (by omega)
 have hb3:H16[H2.size]?=some (.cells #[.int .i64 (i:Int)] tq3 (0,0)):=l9 hb3 (by omega)
 have hb7:H16[H4.size]?=some (.cells #[.int .i64 ((n:Nat):Int)] tq3 (0,0)):=l9 hb7 (by omega)
 have hb14:H16[H9.size]?=some (.cells #[.int .i64 t.n.kind,.string t.n.name,.string t.n.alias,.string t.n.text,.int .i64 t.n.flag,.int .i64 t.n.size] tq41 (0,0)):=hb14
 have hw16:=hw9.grow hE16
 have hEE:Ext [] H H16:=((ext2.trans ext4).trans hE9).trans hE16
 have hwlt:=hw.lt
 clear e2 e4 e8 e9 e15 e16 ext2 ext4 ext8 ext9 ext15 ext16 hE9 hE16 hwc hwc9 hwc15 ho hr hw4 hw9 hnode l9 hs2 hs4 hs8 hs9 hs15 hs16
 generalize H9.size=b14 at hb14⊢
 generalize H4.size=b7 at hb7 z4⊢
 generalize H2.size=b3 at hb3⊢
 generalize hbe:H.size=b1 at hb1 z4 z9⊢
 have h16:TS t H0 H16 w m b o nn ds ss H16 (k1E t.n (ktOf t)):=TS.start hw16 (kaS t)
 have l1: ∀ {H':Heap} {rest:List BA},TS t H0 H16 w m b o nn ds ss H' rest→H'[b1]?=some (.cells #[.pointer (some ⟨w,0,none⟩)] tq46 (0,0)):=fun h=>h.get hb1 (by decide) (by decide)
 have l3: ∀ {H':Heap} {rest:List BA},TS t H0 H16 w m b o nn ds ss H' rest→H'[b3]?=some (.cells #[.int .i64 (i:Int)] tq3 (0,0)):=fun h=>h.get hb3 (by decide) (by decide)
 have l14: ∀ {H':Heap} {rest:List BA},TS t H0 H16 w m b o nn ds ss H' rest→H'[b14]?=some (.cells #[.int .i64 t.n.kind,.string t.n.name,.string t.n.alias,.string t.n.text,.int .i64 t.n.flag,.int .i64 t.n.size] tq41 (0,0)):=
  fun h=>h.get hb14 (by decide) (by decide)
 unfold k1E at h16
 refine⟨_,lcO hb14 rfl,?_⟩
 refine⟨fun _ H'=>TS t H0 H16 w m b o nn ds ss H' [],?_,?_⟩
 rotate_left
 ·rintro _ H20 h20
  obtain⟨hK20,hw20⟩:=h20.fin
  refine(kli hw20 (l1 h20) (l3 h20) (h20.get hb7 (by decide) (by decide))).mono ?_
  rintro _ H21 ⟨hK21,hw21⟩
  exact rkI ⟨rfl,((hEE.keepT (hbe▸hwlt)).trans hK20).trans hK21,hw21⟩
 -- documents
 refine fkI (fun hk=>?_) (fun hk=>?_)
 ·rw[if_pos (eq_of_beq hk)] at h16
  obtain⟨cc2,hd2⟩:=hw16.d
  refine⟨w,lcO hb1 rfl,(some ⟨b,o,none⟩,nn,cc2),hd2,_,lcO hb3 rfl,?_⟩
  refine(k3W b o nn cc2 ds H16 hw16.doc i t hat hws).mono ?_
  rintro _ H2' ⟨a1,m1,k1,ps,rfl,hF,hp⟩
  refine⟨(a1,m1,k1),rfl,?_⟩
  have hm1:=(k0G.of_own hF.own).1
  simp only[intL,List.length_map] at hm1
  have hlen:=hp.length
  have hkl:=k6a t
  have g2:=h16.grow hF.ext
  refine⟨fun z H'=>KeepT w H2' H'∧ ∃j:Nat,z.1=j∧j≤m1∧TS t H0 H16 w m b o nn ds ss H' (allM ((ktOf t).drop j)++[]),fun z _=>m1 -z.1.toNat,⟨KeepT.refl _ _,0,rfl,Nat.zero_le _,g2⟩,?_⟩
  rintro⟨_,_⟩ H3 ⟨hK3,j,hj,hjm,h3⟩
  dsimp only at hj⊢
  subst hj
  refine fkI (fun hlt=>?_) (fun hge=>?_)
  ·have hj':j<t.ks.length:=by simp at hlt;omega
   obtain⟨p,hpj,hatj,hwj⟩:=hp.get j hj'
   have hL:=(hK3.ints hF).load (i:=j) (v:= .int .i64 (p:Int)) (by simp[intL,hpj])
   rw[kbm t j hj',List.append_assoc] at h3
   have hl1:=l1 h3
   obtain⟨acc3,hs3,hKs,hw3⟩:=h3
   refine⟨w,lcO hl1 rfl,hL.1,_,hL.2,?_⟩
   refine k4T (c.kids _ (List.getElem_mem hj')) hw3 hatj hwj (TS.few c hs3) ?_
   intro H4 hK4 hw4
   rw[k0h (by omega)]
   exact⟨⟨hK3.trans hK4,j+1,rfl,by omega,TS.done hs3 hKs hK4 hw4⟩,by omega⟩
  ·have hj':j=t.ks.length:=by simp at hge;omega
   have hnil:(ktOf t).drop j=[]:=List.drop_eq_nil_of_le (by rw[show ktOf t=t.ks.map fun t=>(t.n,toks t) from k74 k1E t.ks,List.length_map];omega)
   rw[hnil] at h3
   exact h3
 rw[if_neg (by simpa using hk)] at h16
 -- operations
 refine⟨fun _ H'=>TS t H0 H16 w m b o nn ds ss H' [],?_,fun _ _ h=>h⟩
 refine fkI (fun hk=>?_) (fun hk=>?_)
 ·rw[if_pos (eq_of_beq hk)] at h16
  refine⟨_,lcO hb14 rfl,?_⟩
  refine⟨fun _ H'=>TS t H0 H16 w m b o nn ds ss H' (k0F k2d k2e eB [4] (ktOf t)++(k1n (ktOf t)++(k3f (ktOf t)++[]))),?_,?_⟩
  ·refine fkI (fun hf=>?_) (fun hf=>?_)
   ·rw[if_pos (eq_of_beq hf),List.append_assoc] at h16
    refine⟨w,lcO hb1 rfl,_,lcO hb14 rfl,?_⟩
    refine k0K c [t.n.text] h16 rfl ?_
    intro _ g1
    refine⟨_,lcO (l14 g1) rfl,?_⟩
    refine⟨fun _ H'=>TS t H0 H16 w m b o nn ds ss H' (k0F k2d k2e eB [4] (ktOf t)++(k1n (ktOf t)++(k3f (ktOf t)++[]))),?_,fun _ _ h=>h⟩
    refine fkI (fun hn=>?_) (fun hn=>?_)
    ·have hne:t.n.name≠eB:=by simpa [k0t] using hn
     have ho:optB t.n.name=[t.n.name]:=by unfold optB;rw[if_neg hne]
     rw[ho] at g1
     refine⟨w,lcO (l1 g1) rfl,_,lcO (l14 g1) rfl,?_⟩
     refine k0K c [t.n.name] g1 rfl ?_
     intro _ g2
     exact g2
    ·have hne:t.n.name=eB:=by simpa [k0t] using hn
     have ho:optB t.n.name=[]:=by unfold optB;rw[if_pos hne]
     rw[ho] at g1
     exact g1
   ·rw[if_neg (by simpa using hf)] at h16
    exact h16
  ·rintro _ H3 g1
   refine⟨w,lcO (l1 g1) rfl,_,lcO (l3 g1) rfl,?_⟩
   refine k1M c k2d k2e eB [4] (by decide) g1 rfl (by decide) ?_
   intro _ g2
   refine⟨w,lcO (l1 g2) rfl,_,lcO (l3 g2) rfl,?_⟩
   refine k25 c g2 ?_
   intro _ g3
   refine⟨w,lcO (l1 g3) rfl,_,lcO (l3 g3) rfl,?_⟩
   refine k1M c eB eB eB [5] (by decide) g3 rfl (by decide) ?_
   intro _ g4
   exact g4
 rw[if_neg (by simpa using hk)] at h16
 -- fragments
 refine⟨fun _ H'=>TS t H0 H16 w m b o nn ds ss H' [],?_,fun _ _ h=>h⟩
 refine fkI (fun hk=>?_) (fun hk=>?_)
 ·rw[if_pos (eq_of_beq hk)] at h16
  refine⟨w,lcO hb1 rfl,_,lcO hb14 rfl,_,lcO hb14 rfl,?_⟩
  refine k0K c [k3h,t.n.name,onB,t.n.text] h16 rfl ?_
  intro _ g2
  refine⟨w,lcO (l1 g2) rfl,_,lcO (l3 g2) rfl,?_⟩
  refine k25 c g2 ?_
  intro _ g3
  refine⟨w,lcO (l1 g3) rfl,_,lcO (l3 g3) rfl,?_⟩
  refine k1M c eB eB eB [5] (by decide) g3 rfl (by decide) ?_
  intro _ g4
  exact g4
 rw[if_neg (by simpa using hk)] at h16
 -- variables
 refine⟨fun _ H'=>TS t H0 H16 w m b o nn ds ss H' [],?_,fun _ _ h=>h⟩
 refine fkI (fun hk=>?_) (fun hk=>?_)
 ·rw[if_pos (eq_of_beq hk)] at h16
  refine⟨w,lcO hb1 rfl,_,lcO hb14 rfl,?_⟩
  refine k0K c [sDol,t.n.name,sCol] h16 rfl ?_
  intro _ g2
  refine⟨w,lcO (l1 g2) rfl,_,lcO (l3 g2) rfl,?_⟩
  refine k9l c eB g2 ?_
  intro _ g3
  refine⟨w,lcO (l1 g3) rfl,_,lcO (l3 g3) rfl,?_⟩
  refine k9m c sEq g3 ?_
  intro _ g4
  exact g4
 rw[if_neg (by simpa using hk)] at h16
 -- selections
 refine⟨fun _ H'=>TS t H0 H16 w m b o nn ds ss H' [],?_,fun _ _ h=>h⟩
 refine fkI (fun hk=>?_) (fun hk=>?_)
 ·rw[if_pos (eq_of_beq hk)] at h16
  refine⟨w,lcO hb1 rfl,_,lcO hb3 rfl,?_⟩
  refine k1M c k1Z k20 eB [6,7,8] (by decide) h16 rfl (by decide) ?_
  intro _ g4
  exact g4
 rw[if_neg (by simpa using hk)] at h16
 -- fields
 refine⟨fun _ H'=>TS t H0 H16 w m b o nn ds ss H' [],?_,fun _ _ h=>h⟩
 refine fkI (fun hk=>?_) (fun hk=>?_)
 ·rw[if_pos (eq_of_beq hk)] at h16
  refine⟨_,lcO hb14 rfl,?_⟩
  refine⟨fun _ H'=>TS t H0 H16 w m b o nn ds ss H' ([t.n.name]++(k0F k2d k2e eB [9] (ktOf t)++(k1n (ktOf t)++(k3f (ktOf t)++[])))),?_,?_⟩
  ·refine fkI (fun hn=>?_) (fun hn=>?_)
   ·have hne:t.n.alias≠eB:=by simpa [k0t] using hn
    rw[if_neg hne] at h16
    refine⟨w,lcO hb1 rfl,_,lcO hb14 rfl,?_⟩
    refine k0K c [t.n.alias,sCol] h16 rfl ?_
    intro _ g1
    exact g1
   ·have hne:t.n.alias=eB:=by simpa [k0t] using hn
    rw[if_pos hne] at h16
    exact h16
  ·rintro _ H3 g0
   refine⟨w,lcO (l1 g0) rfl,_,lcO (l14 g0) rfl,?_⟩
   refine k0K c [t.n.name] g0 rfl ?_
   intro _ g1
   refine⟨w,lcO (l1 g1) rfl,_,lcO (l3 g1) rfl,?_⟩
   refine k1M c k2d k2e eB [9] (by decide) g1 rfl (by decide) ?_
   intro _ g2
   refine⟨w,lcO (l1 g2) rfl,_,lcO (l3 g2) rfl,?_⟩
   refine k25 c g2 ?_
   intro _ g3
   refine⟨w,lcO (l1 g3) rfl,_,lcO (l3 g3) rfl,?_⟩
   refine k1M c eB eB eB [5] (by decide) g3 rfl (by decide) ?_
   intro _ g4
   exact g4
 rw[if_neg (by simpa using hk)] at h16
 -- spreads
 refine⟨fun _ H'=>TS t H0 H16 w m b o nn ds ss H' [],?_,fun _ _ h=>h⟩
 refine fkI (fun hk=>?_) (fun hk=>?_)
 ·rw[if_pos (eq_of_beq hk)] at h16
  refine⟨w,lcO hb1 rfl,_,lcO hb14 rfl,?_⟩
  refine k0K c [k55,t.n.name] h16 rfl ?_
  intro _ g2
  refine⟨w,lcO (l1 g2) rfl,_,lcO (l3 g2) rfl,?_⟩
  refine k25 c g2 ?_
  intro _ g3
  exact g3
 rw[if_neg (by simpa using hk)] at h16
 -- inline fragments
 refine⟨fun _ H'=>TS t H0 H16 w m b o nn ds ss H' [],?_,fun _ _ h=>h⟩
 refine fkI (fun hk=>?_) (fun hk=>?_)
 ·rw[if_pos (eq_of_beq hk)] at h16
  refine⟨w,lcO hb1 rfl,?_⟩
  refine k0K c [k55] h16 rfl ?_
  intro _ g0
  refine⟨_,lcO (l14 g0) rfl,?_⟩
  refine⟨fun _ H'=>TS t H0 H16 w m b o nn ds ss H' (k1n (ktOf t)++(k3f (ktOf t)++[])),?_,?_⟩
  ·refine fkI (fun hn=>?_) (fun hn=>?_)
   ·have hne:t.n.text≠eB:=by simpa [k0t] using hn
    rw[if_neg hne] at g0
    refine⟨w,lcO (l1 g0) rfl,_,lcO (l14 g0) rfl,?_⟩
    refine k0K c [onB,t.n.text] g0 rfl ?_
    intro _ g1
    exact g1
   ·have hne:t.n.text=eB:=by simpa [k0t] using hn
    rw[if_pos hne] at g0
    exact g0
  ·rintro _ H3 g2
   refine⟨w,lcO (l1 g2) rfl,_,lcO (l3 g2) rfl,?_⟩
   refine k25 c g2 ?_
   intro _ g3
   refine⟨w,lcO (l1 g3) rfl,_,lcO (l3 g3) rfl,?_⟩
   refine k1M c eB eB eB [5] (by decide) g3 rfl (by decide) ?_
   intro _ g4
   exact g4
 rw[if_neg (by simpa using hk)] at h16
 -- arguments and fields of objects
 refine⟨fun y H'=>H16=H'∧(y.1=true↔(t.n.kind=9∨t.n.kind=19)),?_,?_⟩
 ·refine fkI (fun hk=>⟨rfl,by simp[eq_of_beq hk]⟩) (fun hk=>⟨rfl,?_⟩)
  have:t.n.kind≠9:=by simpa using hk
  simp[this]
 rintro⟨y,_⟩ _ ⟨rfl,hy⟩
 refine⟨fun _ H'=>TS t H0 H16 w m b o nn ds ss H' [],?_,fun _ _ h=>h⟩
 refine fkI (fun hk=>?_) (fun hk=>?_)
 ·rw[if_pos (hy.1 hk)] at h16
  refine⟨w,lcO hb1 rfl,_,lcO hb14 rfl,?_⟩
  refine k0K c [t.n.name,sCol] h16 rfl ?_
  intro _ g2
  refine⟨w,lcO (l1 g2) rfl,_,lcO (l3 g2) rfl,?_⟩
  refine k9m c eB g2 ?_
  intro _ g3
  exact g3
 rw[if_neg (fun hh=>by rw[hy.2 hh] at hk;cases hk)] at h16
 -- directives
 refine⟨fun _ H'=>TS t H0 H16 w m b o nn ds ss H' [],?_,fun _ _ h=>h⟩
 refine fkI (fun hk=>?_) (fun hk=>?_)
 ·rw[if_pos (eq_of_beq hk)] at h16
  refine⟨w,lcO hb1 rfl,_,lcO hb14 rfl,?_⟩
  refine k0K c [sAt,t.n.name] h16 rfl ?_
  intro _ g2
  refine⟨w,lcO (l1 g2) rfl,_,lcO (l3 g2) rfl,?_⟩
  refine k1M c k2d k2e eB [9] (by decide) g2 rfl (by decide) ?_
  intro _ g3
  exact g3
 rw[if_neg (by simpa using hk)] at h16
 refine⟨w,lcO hb1 rfl,_,lcO hb3 rfl,?_⟩
 refine(kll c h16 hone hflag hsz).mono ?_
 rintro _ H8 ⟨rfl,h8⟩
 exact⟨(),rfl,h8⟩
end Go.Vx
