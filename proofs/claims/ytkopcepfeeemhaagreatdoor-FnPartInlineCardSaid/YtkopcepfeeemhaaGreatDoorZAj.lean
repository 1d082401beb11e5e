/- A part of the proof of what the last text of this claim says: PC10, PC11, PC12. Conditions: none. -/
import Derived.Laws.StructEq
import Derived.Test.YtkopcepfeeemhaaGreatDoorZAh
import Derived.Test.YtkopcepfeeemhaaGreatDoorZAi
set_option maxRecDepth 10000
namespace Go.Vx
open Go Go.Proofs
def ndEq (x y:Nd):Bool:=x.kind==y.kind&&(x.name.toList==y.name.toList&&(x.alias.toList==y.alias.toList&&(x.text.toList==y.text.toList&&(x.flag==y.flag&&x.size==y.size))))
theorem und_node:PP.underlying tq41=some (.struct #[{name:= "Kind",type:=tq3,offset:=0,embedded:=false,tag:= "",pkgPath:= "",byteOffset:=0},
 {name:= "Name",type:=tq9,offset:=1,embedded:=false,tag:= "",pkgPath:= "",byteOffset:=8},
 {name:= "Alias",type:=tq9,offset:=2,embedded:=false,tag:= "",pkgPath:= "",byteOffset:=24},
 {name:= "Text",type:=tq9,offset:=3,embedded:=false,tag:= "",pkgPath:= "",byteOffset:=40},
 {name:= "Flag",type:=tq3,offset:=4,embedded:=false,tag:= "",pkgPath:= "",byteOffset:=56},
 {name:= "Size",type:=tq3,offset:=5,embedded:=false,tag:= "",pkgPath:= "",byteOffset:=64}]):=by kernel_rfl
theorem und_int:PP.underlying tq3=some (.int .i64):=by kernel_rfl
theorem und_string:PP.underlying tq9=some .string:=by kernel_rfl
theorem part_int (xs:Array Value) (o:Nat) (w:World) (x:Value) (hx:xs[o]?=some x):(part tq3 xs o).run PP w= .ok x w:=by
 have h:pureV PP (isAgg tq3)=some false:=by kernel_rfl
 have h2:=pureV_run PP _ _ h w
 simp[part,Sem.run_bind,h2,hx]
theorem part_string (xs:Array Value) (o:Nat) (w:World) (x:Value) (hx:xs[o]?=some x):(part tq9 xs o).run PP w= .ok x w:=by
 have h:pureV PP (isAgg tq9)=some false:=by kernel_rfl
 have h2:=pureV_run PP _ _ h w
 simp[part,Sem.run_bind,h2,hx]
theorem node_eq (x y:Nd) (X Y:Operand) (w:World):(eqS .neq tq41 X Y (.agg x.val) (.agg y.val)).run PP w= .ok (.bool (!ndEq x y)) w:=by
 have hm:PP.eqGuardType PP.depth tq41=false:=by kernel_rfl
 have hp:PP.stoodInHeld tq41=false:=by kernel_rfl
 have hS:PP.underlying tq41=some (.struct (PP.fieldsOf tq41)):=by rw[Program.fieldsOf,und_node]
 unfold eqS
 rw[Sem.run_bind,run_eqGuard_agg _ _ _ _ _ _ _ hm,Result.andThen_ok,run_neq_struct,show(10000:Nat)=9999+1 from rfl,run_equalIn_agg w 9999 tq41 _ _ hS hp]
 have hE:(Op.eqFields 9999 x.val y.val (PP.fieldsOf tq41).toList).run PP w= .ok (ndEq x y) w:=by
  simp only[Program.fieldsOf,und_node]
  obtain⟨k1,n1,a1,t1,f1,s1⟩:=x
  obtain⟨k2,n2,a2,t2,f2,s2⟩:=y
  unfold ndEq
  have ei: ∀(a b:Int) (w:World),(Op.equalIn 9999 tq3 (.int .i64 a) (.int .i64 b)).run PP w= .ok (a==b) w:=fun a b w=>run_equalIn_int w 9998 tq3 .i64 .i64 a b und_int
  have es: ∀(a b:ByteArray) (w:World),(Op.equalIn 9999 tq9 (.string a) (.string b)).run PP w= .ok (a.toList==b.toList) w:=fun a b w=>run_equalIn_string w 9998 tq9 a b und_string
  have step: ∀(nm:String) (ty:TypeId) (o:Nat) (q:Nat) (rest:List Field) (xs ys:Array Value) (a b:Value) (r s:Bool),nm≠ "_" →(part ty xs o).run PP w= .ok a w→(part ty ys o).run PP w= .ok b w→
   (Op.equalIn 9999 ty a b).run PP w= .ok r w→(Op.eqFields 9999 xs ys rest).run PP w= .ok s w→
   (Op.eqFields 9999 xs ys ({name:=nm,type:=ty,offset:=o,embedded:=false,tag:= "",pkgPath:= "",byteOffset:=q}::rest)).run PP w= .ok (r&&s) w:=by
   intro nm ty o q rest xs ys a b r s hn h1 h2 h3 h4
   simp only[Op.eqFields,hn,ne_eq,not_false_eq_true,if_true]
   rw[Sem.run_bind,h1,Result.andThen_ok,Sem.run_bind,h2,Result.andThen_ok,Sem.run_bind,h3,Result.andThen_ok]
   cases r
   ·simp
   ·simpa using h4
  refine step _ _ _ _ _ _ _ _ _ _ _ (by decide) (part_int _ _ w _ rfl) (part_int _ _ w _ rfl) (ei _ _ w) ?_
  refine step _ _ _ _ _ _ _ _ _ _ _ (by decide) (part_string _ _ w _ rfl) (part_string _ _ w _ rfl) (es _ _ w) ?_
  refine step _ _ _ _ _ _ _ _ _ _ _ (by decide) (part_string _ _ w _ rfl) (part_string _ _ w _ rfl) (es _ _ w) ?_
  refine step _ _ _ _ _ _ _ _ _ _ _ (by decide) (part_string _ _ w _ rfl) (part_string _ _ w _ rfl) (es _ _ w) ?_
  refine step _ _ _ _ _ _ _ _ _ _ _ (by decide) (part_int _ _ w _ rfl) (part_int _ _ w _ rfl) (ei _ _ w) ?_
  have last:=step "Size" tq3 5 64 [] (#[.int .i64 k1,.string n1,.string a1,.string t1,.int .i64 f1,.int .i64 s1]) (#[.int .i64 k2,.string n2,.string a2,.string t2,.int .i64 f2,.int .i64 s2]) _ _ _ true (by decide) (part_int _ _ w _ rfl) (part_int _ _ w _ rfl) (ei s1 s2 w) (by simp[Op.eqFields])
  rw[Bool.and_true] at last
  exact last
 rw[hE,Result.andThen_ok]
def SameNd (x y:Nd):Prop:=x.kind=y.kind∧x.name=y.name∧x.alias=y.alias∧x.text=y.text∧x.size=y.size∧(x.kind=15→x.flag=y.flag)
def cut (x:Nd):Nd:=if x.kind=15 then x else{x with flag:=0}
theorem same_cut {x y:Nd} (h:SameNd x y):ndEq (cut x) (cut y)=true:=by
 obtain⟨h1,h2,h3,h4,h5,h6⟩:=h
 unfold cut
 rw[←h1]
 split
 ·rename_i hk
  simp[ndEq,h1,h2,h3,h4,h5,h6 hk]
 ·simp[ndEq,h1,h2,h3,h4,h5]
theorem SameDocument_ok (a ao an ac b bo bn bc:Nat) (xs ys:List Nd) (H:Heap) (hx:NodesAt H a ao xs) (hy:NodesAt H b bo ys) (hxn:an=xs.length) (hyn:bn=ys.length) (hlt:an<2147483648) (hlen:xs.length=ys.length)
 (hs: ∀(i:Nat) (x y:Nd),xs[i]?=some x→ys[i]?=some y→SameNd x y):
 Fn PP fq24 #[.slice (some ⟨a,ao,none⟩) an ac,.slice (some ⟨b,bo,none⟩) bn bc] H fun v H'=>v= .bool true∧Ext [] H H':=by
 refine SameDocument.enter a ao an ac b bo bn bc H _ ?_
 unfold SameDocument.W
 refine fkI (fun h=>?_) (fun _=>?_)
 ·simp at h;omega
 refine⟨fun z H'=>Ext [] H H'∧ ∃k:Nat,z.1=k∧k≤an,fun z _=>an -z.1.toNat,⟨Ext.refl _ _,0,rfl,Nat.zero_le _⟩,?_⟩
 rintro⟨_,_⟩ H2 ⟨hE,k,hk,hkn⟩
 dsimp only at hk⊢
 subst hk
 refine fkI (fun hlt2=>?_) (fun _=>rkI ⟨rfl,hE⟩)
 have hk':k<xs.length:=by simp at hlt2;omega
 have hxi:xs[k]?=some xs[k]:=List.getElem?_eq_getElem hk'
 have hyi:ys[k]?=some (ys[k]'(by omega)):=List.getElem?_eq_getElem (by omega)
 have hsame:=hs k _ _ hxi hyi
 generalize xs[k]=x at hxi hsame
 generalize ys[k]'(by omega)=y at hyi hsame
 have lx:=(hx.ext hE (by simp)).all hxi
 have ly:=(hy.ext hE (by simp)).all hyi
 have ek:(k:Int).toNat=k:=by omega
 rw[ek,wrap1 (by omega)]
 refine⟨ix_some (by omega) (by omega),(x.kind,x.name,x.alias,x.text,x.flag,x.size),lx,ix_some (by omega) (by omega),(y.kind,y.name,y.alias,y.text,y.flag,y.size),ly,?_,?_⟩
 ·refine nbI fun H7 e7 hb7 ext7 hs7=>?_
  refine⟨loadC_ext ext7 ly (by simp),loadC_ext ext7 lx (by simp),?_⟩
  refine nbI fun H9 e9 hb9 ext9 hs9=>?_
  have e79:=ext7.trans ext9
  refine⟨loadC_ext e79 ly (by simp),loadC_ext e79 lx (by simp),?_⟩
  have hb7:=ext9.get _ _ hb7 (by simp)
  have ab:b<H2.size:=by
   obtain⟨c,e,fr,hc,_⟩:=hy
   have:=lt_of_get hc;have:=hE.size;omega
  refine swI hb7 (by simp) rfl rfl fun H10 e10 hb10 ext10 hs10=>?_
  have hb10:H10[H2.size]?=some (.cells #[.int .i64 x.kind,.string x.name,.string x.alias,.string x.text,.int .i64 x.flag,.int .i64 x.size] tq41 (0,0)):=hb10
  refine⟨loadC_ext ((Ext.of_nil e79).trans ext10) ly (by simp;omega),?_⟩
  have hb9:=ext10.get _ _ hb9 (by simp;omega)
  refine swI hb9 (by simp) rfl rfl fun H11 e11 hb11 ext11 hs11=>?_
  have hb11:H11[H7.size]?=some (.cells #[.int .i64 y.kind,.string y.name,.string y.alias,.string y.text,.int .i64 y.flag,.int .i64 y.size] tq41 (0,0)):=hb11
  have hbx:=ext11.get _ _ hb10 (by simp;omega)
  have hby:=hb11
  have hE11:Ext [] H H11:=Ext.newer (Ext.newer (hE.trans e79) ext10 hE.size) ext11 (by have:=hE.size;omega)
  have nex:H2.size≠H7.size:=by omega
  have ox:H.size≤H2.size:=hE.size
  have oy:H.size≤H7.size:=by omega
  generalize H2.size=px at hbx nex ox⊢
  generalize H7.size=py at hby nex oy⊢
  refine⟨_,lcO hbx rfl,?_⟩
  refine⟨fun _ H'=>Ext [] H H'∧H'[px]?=some (.cells #[.int .i64 (cut x).kind,.string (cut x).name,.string (cut x).alias,.string (cut x).text,.int .i64 (cut x).flag,.int .i64 (cut x).size] tq41 (0,0))∧
   H'[py]?=some (.cells #[.int .i64 (cut y).kind,.string (cut y).name,.string (cut y).alias,.string (cut y).text,.int .i64 (cut y).flag,.int .i64 (cut y).size] tq41 (0,0)),?_,?_⟩
  ·refine fkI (fun hq=>?_) (fun hq=>?_)
   ·have hq':x.kind≠15:=by simpa using hq
    have hqy:y.kind≠15:=by rw[←hsame.1];exact hq'
    have cx:cut x= {x with flag:=0}:=by unfold cut;rw[if_neg hq']
    have cy:cut y= {y with flag:=0}:=by unfold cut;rw[if_neg hqy]
    rw[cx,cy]
    refine swI hbx (by simp) rfl rfl fun H16 e16 hb16 ext16 _=>?_
    have hby16:=ext16.get _ _ hby (by simp;omega)
    refine swI hby16 (by simp) rfl rfl fun H17 e17 hb17 ext17 _=>?_
    exact⟨Ext.newer (Ext.newer hE11 ext16 ox) ext17 oy,ext17.get _ _ hb16 (by simp;omega),hb17⟩
   ·have hq':x.kind=15:=by simpa using hq
    have hqy:y.kind=15:=by rw[←hsame.1];exact hq'
    have cx:cut x=x:=by unfold cut;rw[if_pos hq']
    have cy:cut y=y:=by unfold cut;rw[if_pos hqy]
    rw[cx,cy]
    exact⟨hE11,hbx,hby⟩
  ·rintro _ H15 ⟨hE15,hx15,hy15⟩
   refine⟨((cut x).kind,(cut x).name,(cut x).alias,(cut x).text,(cut x).flag,(cut x).size),lcO hx15 rfl,((cut y).kind,(cut y).name,(cut y).alias,(cut y).text,(cut y).flag,(cut y).size),lcO hy15 rfl,?_⟩
   refine⟨!ndEq (cut x) (cut y),fun X Y w=>node_eq (cut x) (cut y) X Y w,?_⟩
   rw[same_cut hsame]
   exact⟨⟨hE15,k+1,rfl,by omega⟩,by omega⟩
 ·refine nbI fun H7 e7 hb7 ext7 hs7=>?_
  refine⟨loadC_ext ext7 ly (by simp),loadC_ext ext7 lx (by simp),?_⟩
  refine nbI fun H9 e9 hb9 ext9 hs9=>?_
  have e79:=ext7.trans ext9
  refine⟨loadC_ext e79 ly (by simp),loadC_ext e79 lx (by simp),?_⟩
  have hb7:=ext9.get _ _ hb7 (by simp)
  have ab:b<H2.size:=by
   obtain⟨c,e,fr,hc,_⟩:=hy
   have:=lt_of_get hc;have:=hE.size;omega
  refine swI hb9 (by simp) rfl rfl fun H10 e10 hb10 ext10 hs10=>?_
  have hb10:H10[H7.size]?=some (.cells #[.int .i64 x.kind,.string x.name,.string x.alias,.string x.text,.int .i64 x.flag,.int .i64 x.size] tq41 (0,0)):=hb10
  refine⟨loadC_ext ((Ext.of_nil e79).trans ext10) ly (by simp;omega),?_⟩
  have hb7:=ext10.get _ _ hb7 (by simp;omega)
  refine swI hb7 (by simp) rfl rfl fun H11 e11 hb11 ext11 hs11=>?_
  have hb11:H11[H2.size]?=some (.cells #[.int .i64 y.kind,.string y.name,.string y.alias,.string y.text,.int .i64 y.flag,.int .i64 y.size] tq41 (0,0)):=hb11
  have hbx:=ext11.get _ _ hb10 (by simp;omega)
  have hby:=hb11
  have hE11:Ext [] H H11:=Ext.newer (Ext.newer (hE.trans e79) ext10 (by have:=hE.size;omega)) ext11 hE.size
  have nex:H7.size≠H2.size:=by omega
  have ox:H.size≤H7.size:=by have:=hE.size;omega
  have oy:H.size≤H2.size:=hE.size
  generalize H7.size=px at hbx nex ox⊢
  generalize H2.size=py at hby nex oy⊢
  refine⟨_,lcO hbx rfl,?_⟩
  refine⟨fun _ H'=>Ext [] H H'∧H'[px]?=some (.cells #[.int .i64 (cut x).kind,.string (cut x).name,.string (cut x).alias,.string (cut x).text,.int .i64 (cut x).flag,.int .i64 (cut x).size] tq41 (0,0))∧
   H'[py]?=some (.cells #[.int .i64 (cut y).kind,.string (cut y).name,.string (cut y).alias,.string (cut y).text,.int .i64 (cut y).flag,.int .i64 (cut y).size] tq41 (0,0)),?_,?_⟩
  ·refine fkI (fun hq=>?_) (fun hq=>?_)
   ·have hq':x.kind≠15:=by simpa using hq
    have hqy:y.kind≠15:=by rw[←hsame.1];exact hq'
    have cx:cut x= {x with flag:=0}:=by unfold cut;rw[if_neg hq']
    have cy:cut y= {y with flag:=0}:=by unfold cut;rw[if_neg hqy]
    rw[cx,cy]
    refine swI hbx (by simp) rfl rfl fun H16 e16 hb16 ext16 _=>?_
    have hby16:=ext16.get _ _ hby (by simp;omega)
    refine swI hby16 (by simp) rfl rfl fun H17 e17 hb17 ext17 _=>?_
    exact⟨Ext.newer (Ext.newer hE11 ext16 ox) ext17 oy,ext17.get _ _ hb16 (by simp;omega),hb17⟩
   ·have hq':x.kind=15:=by simpa using hq
    have hqy:y.kind=15:=by rw[←hsame.1];exact hq'
    have cx:cut x=x:=by unfold cut;rw[if_pos hq']
    have cy:cut y=y:=by unfold cut;rw[if_pos hqy]
    rw[cx,cy]
    exact⟨hE11,hbx,hby⟩
  ·rintro _ H15 ⟨hE15,hx15,hy15⟩
   refine⟨((cut x).kind,(cut x).name,(cut x).alias,(cut x).text,(cut x).flag,(cut x).size),lcO hx15 rfl,((cut y).kind,(cut y).name,(cut y).alias,(cut y).text,(cut y).flag,(cut y).size),lcO hy15 rfl,?_⟩
   refine⟨!ndEq (cut x) (cut y),fun X Y w=>node_eq (cut x) (cut y) X Y w,?_⟩
   rw[same_cut hsame]
   exact⟨⟨hE15,k+1,rfl,by omega⟩,by omega⟩
theorem NodesAt.sub {H:Heap} {b o i:Nat} {ds l post:List Nd} (h:NodesAt H b o ds) (hd:ds.drop i=l++post) (hi:i≤ds.length):NodesAt H b (o+i*6) l:=by
 obtain⟨c,e,fr,hc,hs,hr⟩:=h
 have hl:=congrArg List.length hd
 simp at hl
 refine⟨c,e,fr,hc,by omega,fun j n hj k hk=>?_⟩
 have hjl:=(List.getElem?_eq_some_iff.1 hj).1
 have h2:ds[i+j]?=some n:=by
  have:(ds.drop i)[j]?=some n:=by rw[hd,List.getElem?_append_left hjl];exact hj
  simpa using this
 have:=hr (i+j) n h2 k hk
 rw[←this]
 congr 1
 omega
theorem Sub_ok (b o n c:Nat) (ds:List Nd) (H:Heap) (h:Doc H b o n ds) (i:Nat) (t:Tr) (ht:At ds i (flat t)) (hw:Ws t) (hc:n≤c):
 Fn PP fq22 #[.slice (some ⟨b,o,none⟩) n c,.int .i64 i] H fun v H'=>H=H'∧ ∃o2 c2,v= .slice (some ⟨b,o2,none⟩) (flat t).length c2∧NodesAt H b o2 (flat t):=by
 refine Sub.enter b o n c i H _ ?_
 unfold Sub.W
 have hle:=ht.le' (flat_ne _)
 have hn:=h.len
 have hlt:=h.lt
 have hpos:=flat_pos t
 have hs:=hw.size
 refine⟨ix_some (by omega) (by omega),_,h.nodes.size ht.root,?_⟩
 have hw1:IntKind.i64.wrap ((i:Int)+t.n.size)=((i+(flat t).length:Nat):Int):=by rw[hs,i64w (by omega)];omega
 dsimp only
 rw[hw1]
 have e1:((i+(flat t).length:Nat):Int).toNat=i+(flat t).length:=by omega
 have e2:(i:Int).toNat=i:=by omega
 rw[e1,e2]
 refine⟨by omega,rkI ⟨rfl,o+i*6,c -i,?_,?_⟩⟩
 ·simp only[retV]
  congr 1
  ·unfold slcO;rw[if_neg (by omega)]
  ·omega
 ·obtain⟨post,hp⟩:=ht
  exact h.nodes.sub hp (by omega)
end Go.Vx
