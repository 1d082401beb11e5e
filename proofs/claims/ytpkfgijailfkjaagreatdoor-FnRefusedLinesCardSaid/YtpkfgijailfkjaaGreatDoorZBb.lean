/- A part of the proof of what the last text of this claim says: PX6, QV1, QV2, QV3, PX7, QV4, QT4, QT5. Conditions: none. -/
import Derived.Test.YtpkfgijailfkjaaGreatDoorZAj
import Derived.Test.YtpkfgijailfkjaaGreatDoorZAu
import Derived.Test.YtpkfgijailfkjaaGreatDoorZAw
import Derived.Test.YtpkfgijailfkjaaGreatDoorZAz
import Derived.Test.YtpkfgijailfkjaaGreatDoorZBa
set_option maxRecDepth 10000
namespace Go.Vx
open Go Go.Proofs
def gRev (z:Bool) (o:Int) (item:Gr) (c:Int):Gr:=fun l=>if kd l=o then(if z=true∧kd l.tail=c then some (false,l) else gLoop item c l.tail) else some (false,l)
theorem gRev_list (o:Int) (item:Gr) (c:Int) (l:List PTk):gList o item c l=gRev true o item c l:=by
 unfold gList gRev;simp
abbrev RdF (E:PEnv) (f:FuncId) (args:Array Value) (VT:Nat→Prop) (g:Gr):Prop:=Rd E f args vF vFe (fun y=>y.2) g fun x _=>VT x.1
theorem RdI.toF {E:PEnv} {f:FuncId} {args:Array Value} {T:TypeId} {g:Gr} (h:RdI E f args T g):RdF E f args (fun t=>t=T) g:=by
 intro H l res px hg
 refine(h H l res px hg).mono ?_
 rintro v H' ⟨x,⟨h1,b,rfl,p,_⟩|⟨h1,b,rfl,he⟩⟩
 ·exact⟨x,.inl ⟨h1,(T,b),rfl,p,rfl⟩⟩
 ·exact⟨x,.inr ⟨h1,(.nilIface,b),rfl,he⟩⟩
def RevQ (A:Heap) (VT:Nat→Prop) (y:Option Addr×Nat×Nat) (H':Heap):Prop:= ∃bs:List (Nat×Nat),bs.length≤1001∧(∀b∈bs,VT b.1)∧Born A H' (SlAt y (bs.map ifV))
theorem reverseX_ok {f:FuncId} {E:PEnv} {ok ck:Int} {z:Bool} {VT:Nat→Prop} {item:Gr} (h1:ok≠1) (hc1:ck≠1) (hd:RdF E f #[.pointer (some ⟨E.p,0,none⟩)] VT item) {H:Heap} {l:List PTk} {res:Bool×List PTk}
 (px:PX E H l) (hg:gRev z ok item ck l=some res):reverseGX.W f E.p ok ck z H (PostX E H vS vSe (fun y=>y.2) (RevQ H VT) res):=by
 unfold reverseGX.W
 unfold gRev at hg
 have hlen:=px.n
 refine expX h1 px (fun hk x1 H1 ht y1 p1=>?_) (fun hk y H1 y1 he=>?_)
 ·rw[if_pos hk] at hg
  refine tokB rfl fun b2 H2 x2 hb2 hlt=>?_
  have p2:=p1.grow x2
  have l0:LstX E H2 H2 l.tail tq20 (none,0,0) ifV []:=LstX.nil E p2 _ _
  have e2:Ext E.S H H2:=y1.trans x2.of_nil
  have hsz:=e2.size
  refine⟨fun y H'=> ∃(n:Nat) (l':List PTk) (bs:List (Nat×Nat)),bs.length+n≤1001∧(∀b∈bs,VT b.1)∧LstX E H2 H' l' tq20 y.1 ifV bs∧
   ((gMany item ck n l'=some res∧ ¬(z=true∧bs=[]∧kd l'=ck))∨(z=true∧bs=[]∧kd l'=ck∧res=(false,l))),fun y _=>1001 -y.1.2.1,?_,?_⟩
  ·refine⟨l.tail.length+1,l.tail,[],by simp only[List.length_tail,List.length_nil];omega,by simp,l0,?_⟩
   by_cases hz:z=true∧kd l.tail=ck
   ·rw[if_pos hz] at hg
    exact .inr ⟨hz.1,rfl,hz.2,(Option.some.inj hg).symm⟩
   ·rw[if_neg hz] at hg
    exact .inl ⟨hg,fun hh=>hz ⟨hh.1,hh.2.2⟩⟩
  rintro⟨⟨xa,xn,xc⟩,_⟩ H3 ⟨n,l',bs,hbn,hV,l3,hcase⟩
  dsimp only at l3⊢
  have hn:=l3.len
  dsimp only at hn
  have hb3:H3[b2]?=some (.cells #[.int .i64 x1.1,.int .i64 x1.2.1,.int .i64 x1.2.2.1,.string x1.2.2.2] tq87):=l3.ext.get _ _ hb2 (by
   have h:=p1.lt;have:=y1.size
   simp only[PEnv.S,List.mem_cons,List.not_mem_nil,or_false,not_or];have:=px.lt;omega)
  refine skipX hc1 l3.px (fun hc H4 x4 p4=>?_) (fun hc=>?_)
  ·refine fkI (fun _=>?_) (fun hh=>absurd hh (by decide))
   have l4:=l3.step x4 p4
   have hb4:=x4.get _ _ hb3 (by
    have h:=p1.lt;have:=y1.size
    simp only[PEnv.S,List.mem_cons,List.not_mem_nil,or_false,not_or];have:=px.lt;omega)
   refine⟨(z&&decide (bs=[]),()),?_,?_⟩
   ·cases z
    ·exact fkI (fun hh=>absurd hh (by decide)) (fun _=>⟨rfl,rfl⟩)
    ·refine fkI (fun _=>?_) (fun hh=>absurd hh (by decide))
     have:(((xn:Nat):Int)==0)=decide (bs=[]):=by
      rw[hn]
      cases bs with
      |nil=>rfl
      |cons a b=>
       have hne:(((a::b).length:Nat):Int)≠0:=by simp only[List.length_cons];omega
       rw[beq_eq_false_iff_ne.2 hne];simp
     exact⟨by rw[this];rfl,rfl⟩
   refine fkI (fun hh=>?_) (fun hh=>?_)
   ·rcases hcase with⟨_,hne⟩|⟨hz,hb0,hk0,hres⟩
    ·exact absurd (by simp at hh;exact⟨hh.1,hh.2,hc⟩) hne
    ·refine⟨x1.2.1,lcO hb4 rfl,?_⟩
     rw[ht.2.1]
     refine unexpEmptyX (l':=l) l4.px ok ck px.le fun b H5 x5 he=>?_
     exact rkI (PostX.no hres ((xa,xn,xc),b) (e2.trans (l4.ext.trans x5.of_nil)) he)
   ·rcases hcase with⟨hg3,_⟩|⟨hz,hb0,hk0,hres⟩
    ·cases n with
     |zero=>cases hg3
     |succ n=>
     unfold gMany at hg3
     rw[if_pos hc] at hg3
     refine rkI (PostX.read (Option.some.inj hg3).symm (xa,xn,xc) (e2.trans l4.ext) l4.px ⟨bs,by omega,hV,fun G hG=>l4.fin G fun k o hk ho=>hG k o (by omega) ho⟩)
    ·rw[hz,hb0] at hh;exact absurd hh (by decide)
  ·refine fkI (fun hh=>absurd hh (by decide)) (fun _=>?_)
   rcases hcase with⟨hg3,_⟩|⟨_,_,hk0,_⟩
   ·cases n with
    |zero=>cases hg3
    |succ n=>
    unfold gMany at hg3
    rw[if_neg hc] at hg3
    refine Rd.call (p:=⟨Nat×Nat,vF⟩) (q:=⟨Value×Nat,vFe⟩) hd l3.px hg3 (fun x H4 r x4 p4 hv _ h2=>?_) (fun y H4 r x4 hr he=>?_)
    ·refine(l3.step x4 p4).push (b:=x) (by unfold plainT;decide) (fun _=>rfl) 16 (by decide) (by omega) fun a c H5 l5=>?_
     refine⟨⟨n,r,bs++[x],by simp only[List.length_append,List.length_cons,List.length_nil];omega,?_,l5,.inl ⟨h2,fun hh=>by simp at hh⟩⟩,?_⟩
     ·intro b hb
      rcases List.mem_append.1 hb with hb|hb
      ·exact hV b hb
      ·rw[List.mem_singleton.1 hb];exact hv
     ·omega
    ·exact rkI (PostX.no hr ((xa,xn,xc),y.2) (e2.trans (l3.ext.trans x4)) he)
   ·exact absurd hk0 hc
 ·rw[if_neg hk] at hg
  refine tokX rfl fun b2 H2 x2 hb2 _=>?_
  exact rkI (PostX.no (Option.some.inj hg).symm ((none,0,0),y.2.2.2.2) (y1.trans x2).of_nil (he.grow x2))
theorem revX {f:FuncId} {E:PEnv} {ok ck:Int} {z:Bool} {VT:Nat→Prop} {item g2:Gr} {args:Array Value} (h1:ok≠1) (hc1:ck≠1) (hd:RdF E f #[.pointer (some ⟨E.p,0,none⟩)] VT item) {H:Heap} {l:List PTk} {res:Bool×List PTk}
 (hen: ∀(H:Heap) (R:Value→Heap→Prop),reverseGX.W f E.p ok ck z H R→Fn PP fq97 args H R) (px:PX E H l) (hg:gThen (gRev z ok item ck) g2 l=some res)
 {K:(Option Addr×Nat×Nat)→Heap→Prop} {L:(Option Addr×Nat×Nat)×Nat→Heap→Prop}
 (hk: ∀x H' r,Ext E.S H H'→PX E H' r→RevQ H VT x H'→g2 r=some res→K x H') (hl: ∀y H' r,Ext E.S H H'→res=(false,r)→ErrX E y.2 r H'→L y H'):
 call2W PP fq97 args H ⟨(Option Addr×Nat×Nat),vS⟩ ⟨(Option Addr×Nat×Nat)×Nat,vSe⟩ K L:=by
 unfold gThen at hg
 split at hg
 ·cases hg
 ·rename_i r hr
  cases hg
  refine(hen H _ (reverseX_ok h1 hc1 hd px hr)).mono ?_
  rintro v H' ⟨x,⟨h,_⟩|⟨_,y,rfl,he⟩⟩
  ·cases h
  ·exact .inr ⟨y,rfl,hl y H' r x rfl he⟩
 ·rename_i r hr
  refine(hen H _ (reverseX_ok h1 hc1 hd px hr)).mono ?_
  rintro v H' ⟨x,⟨_,z,rfl,hp,hq⟩|⟨h,_⟩⟩
  ·exact .inl ⟨z,rfl,hk z H' r x hp hq hg⟩
  ·cases h
theorem convX (T eT:Nat) (he:plainT eT) {E:PEnv} {A H3 Hr H6:Heap} {l:List PTk} {x:Option Addr×Nat×Nat} {b0:Nat} (hb0:b0<H3.size∨Hr.size≤b0) (hs:RevQ H3 (fun t=>t=T) x Hr) (x6:Ext [] Hr H6) (l6:LstX E A H6 l eT (some ⟨b0,0,none⟩,0,0) ptV [])
 {K:(Option Addr×Nat×Nat)×Int×Unit→Heap→Prop} (hk: ∀y H' bs,LstX E A H' l eT y.1 ptV bs→K y H'):
 loopK ((Option Addr×Nat×Nat)×Int×Unit) (((some ⟨b0,0,none⟩),0,0),0,()) H6 fun z7 H8 next9=>
 forkB (decide (z7.2.1<((x.2.1:Nat):Int)))
 ((IxOk x.1 z7.2.1 x.2.1)∧
   loadW H8 false 1 ⟨(blkOf x.1),(offOf x.1+z7.2.1.toNat*1),none⟩ ⟨Nat,fun x=>(.iface T (.pointer (some ⟨x,0,none⟩)))⟩ fun(x10:Nat)=>
   newB H8 (.cells #[(.pointer (some ⟨x10,0,none⟩))] eT) fun b11 H12=>
   appK H12 eT 1 8 z7.1.1 z7.1.2.1 z7.1.2.2 (some ⟨b11,0,none⟩) 1 fun a13 c14 H15=>
   next9 ((a13,(z7.1.2.1+1),c14),(IntKind.i64.wrap (z7.2.1+1)),()) H15)
 (K z7 H8):=by
 obtain⟨bs,hbl,hV,hsl⟩:=hs
 have hxn:x.2.1=bs.length:=by have:=(hsl Hr fun _ _ _ h=>h).1;simpa using this
 refine⟨fun z H'=> ∃(ps:List Nat),z.2.1=(ps.length:Nat)∧ps.length≤bs.length∧LstX E A H' l eT z.1 ptV ps∧(∀(q:Nat) (o:Obj),H3.size≤q→Hr[q]?=some o→H'[q]?=some o)∧(∀r,rowOf z.1.1=some r→r<H3.size∨Hr.size≤r)∧Hr.size≤H'.size,fun z _=>bs.length -z.2.1.toNat,
  ⟨[],rfl,Nat.zero_le _,l6,fun _ _ _ h=>x6.get _ _ h (by simp),fun r hr=>by cases hr;exact hb0,x6.size⟩,?_⟩
 rintro⟨⟨a,n,cc⟩,i,_⟩ H8 ⟨ps,hi,hpl,l8,hkp,hrow,hz8⟩
 dsimp only at hi l8 hrow⊢
 subst hi
 have hn:=l8.len
 dsimp only at hn
 refine fkI (fun hlt=>?_) (fun hge=>?_)
 ·have hlt':ps.length<bs.length:=by simp at hlt;omega
  have hT:bs[ps.length].1=T:=hV _ (List.getElem_mem hlt')
  have hix:(bs.map ifV)[ps.length]?=some (.iface T (.pointer (some ⟨bs[ps.length].2,0,none⟩))):=by
   rw[←hT];simp[hlt',ifV]
  have sl2:SlcAt H8 x.1 x.2.1 (bs.map ifV):=hsl H8 hkp
  have hL:=sl2.load hix
  refine⟨hL.1,bs[ps.length].2,hL.2,?_⟩
  refine l8.pushK (b:=bs[ps.length].2) he (fun _=>rfl) 8 (by decide) (by omega) fun a c H9 l9 hk9 hr9 hz9=>?_
  have hw:IntKind.i64.wrap ((ps.length:Int)+1)=((ps++[bs[ps.length].2]).length:Nat):=by rw[i64w (by omega)];simp
  refine⟨⟨ps++[bs[ps.length].2],hw,by simp only[List.length_append,List.length_cons,List.length_nil];omega,l9,fun q o hq ho=>hk9 q o (hkp q o hq ho) fun hr=>?_,fun r hr=>?_,by omega⟩,?_⟩
  ·have:=hrow q hr;have:=lt_of_get ho;omega
  ·rcases hr9 r hr with h|h
   ·exact hrow r h
   ·exact .inr (by omega)
  ·rw[hw];simp only[List.length_append,List.length_cons,List.length_nil];omega
 ·exact hk _ _ _ l8
theorem convXI (eT aT:Nat) (VT:Nat→Prop) (he:plainT eT) (hAs: ∀x:Nat×Nat,VT x.1→ ∀w,(Instr.typeAssert (ifV x) tq20 aT false).run PP w= .ok (asV (ifV x) false) w) {E:PEnv} {A H3 Hr H6:Heap} {l:List PTk} {x:Option Addr×Nat×Nat} {b0:Nat} (hb0:b0<H3.size∨Hr.size≤b0) (hs:RevQ H3 VT x Hr) (x6:Ext [] Hr H6) (l6:LstX E A H6 l eT (some ⟨b0,0,none⟩,0,0) ifV [])
 {K:(Option Addr×Nat×Nat)×Int×Unit→Heap→Prop} (hk: ∀y H' bs,LstX E A H' l eT y.1 ifV bs→K y H'):
 loopK ((Option Addr×Nat×Nat)×Int×Unit) (((some ⟨b0,0,none⟩),0,0),0,()) H6 fun z7 H8 next9=>
 forkB (decide (z7.2.1<((x.2.1:Nat):Int)))
 ((IxOk x.1 z7.2.1 x.2.1)∧
   loadW H8 false 1 ⟨(blkOf x.1),(offOf x.1+z7.2.1.toNat*1),none⟩ ⟨(Nat×Nat),fun x=>(.iface x.1 (.pointer (some ⟨x.2,0,none⟩)))⟩ fun(x10:(Nat×Nat))=>
   asW PP (.iface x10.1 (.pointer (some ⟨x10.2,0,none⟩))) tq20 aT false (
   newB H8 (.cells #[(.iface x10.1 (.pointer (some ⟨x10.2,0,none⟩)))] eT) fun b11 H12=>
   appK H12 eT 1 16 z7.1.1 z7.1.2.1 z7.1.2.2 (some ⟨b11,0,none⟩) 1 fun a13 c14 H15=>
   next9 ((a13,(z7.1.2.1+1),c14),(IntKind.i64.wrap (z7.2.1+1)),()) H15))
 (K z7 H8):=by
 obtain⟨bs,hbl,hV,hsl⟩:=hs
 have hxn:x.2.1=bs.length:=by have:=(hsl Hr fun _ _ _ h=>h).1;simpa using this
 refine⟨fun z H'=> ∃(ps:List (Nat×Nat)),z.2.1=(ps.length:Nat)∧ps.length≤bs.length∧LstX E A H' l eT z.1 ifV ps∧(∀(q:Nat) (o:Obj),H3.size≤q→Hr[q]?=some o→H'[q]?=some o)∧(∀r,rowOf z.1.1=some r→r<H3.size∨Hr.size≤r)∧Hr.size≤H'.size,fun z _=>bs.length -z.2.1.toNat,
  ⟨[],rfl,Nat.zero_le _,l6,fun _ _ _ h=>x6.get _ _ h (by simp),fun r hr=>by cases hr;exact hb0,x6.size⟩,?_⟩
 rintro⟨⟨a,n,cc⟩,i,_⟩ H8 ⟨ps,hi,hpl,l8,hkp,hrow,hz8⟩
 dsimp only at hi l8 hrow⊢
 subst hi
 have hn:=l8.len
 dsimp only at hn
 refine fkI (fun hlt=>?_) (fun hge=>?_)
 ·have hlt':ps.length<bs.length:=by simp at hlt;omega
  have hix:(bs.map ifV)[ps.length]?=some (ifV bs[ps.length]):=by simp[hlt']
  have sl2:SlcAt H8 x.1 x.2.1 (bs.map ifV):=hsl H8 hkp
  have hL:=sl2.load hix
  refine⟨hL.1,bs[ps.length],hL.2,hAs _ (hV _ (List.getElem_mem hlt')),?_⟩
  refine l8.pushK (b:=bs[ps.length]) he (fun _=>rfl) 16 (by decide) (by omega) fun a c H9 l9 hk9 hr9 hz9=>?_
  have hw:IntKind.i64.wrap ((ps.length:Int)+1)=((ps++[bs[ps.length]]).length:Nat):=by rw[i64w (by omega)];simp
  refine⟨⟨ps++[bs[ps.length]],hw,by simp only[List.length_append,List.length_cons,List.length_nil];omega,l9,fun q o hq ho=>hk9 q o (hkp q o hq ho) fun hr=>?_,fun r hr=>?_,by omega⟩,?_⟩
  ·have:=hrow q hr;have:=lt_of_get ho;omega
  ·rcases hr9 r hr with h|h
   ·exact hrow r h
   ·exact .inr (by omega)
  ·rw[hw];simp only[List.length_append,List.length_cons,List.length_nil];omega
 ·exact hk _ _ _ l8
theorem PS.tok {E:PEnv} {H:Heap} {t:KV} {l:List KV} (h:PS E H (t::l)): ∃st en:Nat,loadC H true 4 ⟨E.p,5,none⟩=some (.agg #[.int .i64 t.1,.int .i64 (st:Nat),.int .i64 (en:Nat),.string t.2]):=by
 obtain⟨pe,t',st,en,r,hl,hp,_⟩:=h.p
 cases hl
 exact⟨st,en,lcO hp rfl⟩
theorem PS.ne {E:PEnv} {H:Heap} {l:List KV} (h:PS E H l): ∃t r,l=t::r:=by
 obtain⟨_,t,_,_,r,hl,_⟩:=h.p
 exact⟨t,r,hl⟩
def ValT (T:Nat):Prop:=T=tq195∨T=tq315∨T=tq318∨T=tq230∨T=tq321∨T=tq325∨T=tq309∨T=tq312
theorem valT_as (x:Nat×Nat) (h:ValT x.1): ∀w,(Instr.typeAssert (ifV x) tq20 tq203 false).run PP w= .ok (asV (ifV x) false) w:=by
 obtain⟨T,b⟩:=x
 rcases h with rfl|rfl|rfl|rfl|rfl|rfl|rfl|rfl
 all_goals
  intro w
  kernel_rfl
theorem plain_Value:plainT tq203:=by unfold plainT;decide
theorem gThen_assoc (a b c:Gr):gThen (gThen a b) c=gThen a (gThen b c):=by
 funext l
 unfold gThen
 split
 ·rename_i h;split at h<;>simp_all
 ·rename_i h;split at h<;>simp_all
 ·rename_i h;split at h<;>simp_all
theorem peekDescrX {E:PEnv} {H:Heap} {l:List PTk} {K:Bool→Heap→Prop} (px:PX E H l) (hk:K (kd l==18||kd l==19) H):
 callW PP fq77 #[.pointer (some ⟨E.p,0,none⟩)] H pBool K:=by
 refine(show Fn PP _ _ H fun v H'=>v= .bool (kd l==18||kd l==19)∧H'=H from ?_).mono ?_
 ·refine peekDescription.enter _ H _ ?_
  unfold peekDescription.W
  refine⟨fun y H'=>y.1=(kd l==18||kd l==19)∧H'=H,?_,?_⟩
  ·exact peekX px (fkI (fun hh=>⟨by simp[hh],rfl⟩) (fun hh=>peekX px ⟨by simp[hh],rfl⟩))
  ·rintro⟨y,_⟩ _ ⟨rfl,rfl⟩
   exact rkI ⟨rfl,rfl⟩
 ·rintro _ _ ⟨rfl,rfl⟩
  exact⟨_,rfl,hk⟩
theorem strX {E:PEnv} {H:Heap} {l:List PTk} {K:Nat→Heap→Prop} (h:kd l=18∨kd l=19) (px:PX E H l) (hk: ∀b H',Ext E.S H H'→PX E H' l.tail→K b H'):
 callW PP fq180 #[.pointer (some ⟨E.p,0,none⟩)] H ⟨Nat,vB⟩ K:=by
 obtain⟨pe,v,en,hp,hle,_,_⟩:=px.obj
 obtain⟨t,r,rfl⟩:=kd_cons (l:=l) (by omega)
 refine(show Fn PP _ _ H fun w H'=> ∃b:Nat,w=vB b∧Ext E.S H H'∧PX E H' r from ?_).mono ?_
 ·refine parseStringLiteral.enter _ H _ ?_
  unfold parseStringLiteral.W
  refine⟨(kd (t::r),((startOf E.text (t::r):Nat):Int),(en:Int),v),lcO hp rfl,?_⟩
  dsimp only
  refine tokB rfl fun b2 H2 x2 hb2 hlt=>?_
  refine advX (px.grow x2) fun H3 x3 p3=>?_
  have hb3:=x3.get _ _ hb2 (nin_of px.lt hlt)
  refine⟨v,lcO hb3 rfl,_,lcO hb3 rfl,?_⟩
  refine locX p3 fun lb H4 x4 p4=>?_
  refine⟨lcO (x4.get _ _ hb3 (by simp)) rfl,?_⟩
  refine nodeX (NewStringValue_mk _ _) p4 fun b H5 x5 p5=>?_
  exact rkI ⟨b,rfl,(x2.of_nil.trans x3).trans (x4.trans x5).of_nil,p5⟩
 ·rintro _ H' ⟨b,rfl,x,p⟩
  exact⟨b,rfl,hk b H' x p⟩
theorem descrX {E:PEnv} {H:Heap} {l:List PTk} {g2:Gr} {res:Bool×List PTk} {K:Option Addr→Heap→Prop} (px:PX E H l) (hg:gThen gDescr g2 l=some res)
 (hk: ∀x H' r,Ext E.S H H'→PX E H' r→g2 r=some res→K x H'):
 callW PP fq143 #[.pointer (some ⟨E.p,0,none⟩)] H ⟨Option Addr,fun x=> .tuple #[.pointer x,.nilIface]⟩ K:=by
 by_cases hk':kd l=18∨kd l=19
 ·have h2:g2 l.tail=some res:=by unfold gThen gDescr at hg;rw[if_pos hk'] at hg;exact hg
  refine(show Fn PP _ _ H fun v H'=> ∃b:Nat,v= .tuple #[.pointer (some ⟨b,0,none⟩),.nilIface]∧Ext E.S H H'∧PX E H' l.tail from ?_).mono ?_
  ·refine parseDescription.enter _ H _ ?_
   unfold parseDescription.W
   refine peekDescrX px (fkI (fun _=>?_) (fun hh=>?_))
   ·exact strX hk' px fun b H' x p=>rkI ⟨b,rfl,x,p⟩
   ·exfalso;rcases hk' with h|h<;>simp[h] at hh
  ·rintro _ H' ⟨b,rfl,x,p⟩
   exact⟨some ⟨b,0,none⟩,rfl,hk _ H' _ x p h2⟩
 ·have h2:g2 l=some res:=by unfold gThen gDescr at hg;rw[if_neg hk'] at hg;exact hg
  refine(show Fn PP _ _ H fun v H'=>v= .tuple #[.pointer none,.nilIface]∧H'=H from ?_).mono ?_
  ·refine parseDescription.enter _ H _ ?_
   unfold parseDescription.W
   refine peekDescrX px (fkI (fun hh=>?_) (fun _=>rkI ⟨rfl,rfl⟩))
   exact absurd (by simpa using hh) hk'
  ·rintro _ _ ⟨rfl,rfl⟩
   exact⟨none,rfl,hk _ _ _ (Ext.refl _ _) px h2⟩
abbrev vO (x:ByteArray):Value:= .tuple #[.string x,.nilIface]
abbrev vOe (x:ByteArray×Nat):Value:= .tuple #[.string x.1,.iface tq49 (.pointer (some ⟨x.2,0,none⟩))]
theorem parseVariableR (E:PEnv):RdB E fq131 #[.pointer (some ⟨E.p,0,none⟩)] (gThen (gSign 3) gName):=by
 intro H0 l0 res p0 hg0
 refine parseVariableX.enter _ H0 _ ?_
 unfold parseVariableX.W
 refine⟨_,p0.start,?_⟩
 have e0:Ext E.S H0 H0:=Ext.refl _ _
 refine signX (by decide) p0 hg0 (fun x1 H1 t1 y1 p1 k1 hg1=>?_) (fun z _ y hr he=>rkI (PostX.no hr z.2.2.2.2 (e0.trans y) he))
 have e1:=e0.trans y1
 refine Rd.last (p:=⟨Nat,vB⟩) (q:=⟨Nat,vBe⟩) (parseNameR E) p1 hg1 (fun x2 H2 r2 y2 p2 q2 hr2=>?_) (fun z _ _ y hr he=>rkI (PostX.no hr z (e1.trans y) he))
 have e2:=e1.trans y2
 refine locX p2 fun _ _ y p=>?_
 refine nodeX (NewVariable_mk _ _) p fun b _ y2 p=>?_
 exact rkI (PostX.read hr2 b (e2.trans (y.trans y2).of_nil) p trivial)
theorem parseDirectiveR (E:PEnv) (n:Nat) (ha:RdS E fq135 #[.pointer (some ⟨E.p,0,none⟩)] (gArgs n)):RdB E fq103 #[.pointer (some ⟨E.p,0,none⟩)] (gDir n):=by
 intro H0 l0 res p0 hg0
 refine parseDirectiveX.enter _ H0 _ ?_
 unfold parseDirectiveX.W
 refine⟨_,p0.start,?_⟩
 have e0:Ext E.S H0 H0:=Ext.refl _ _
 unfold gDir at hg0
 refine signX (by decide) p0 hg0 (fun x1 H1 t1 y1 p1 k1 hg1=>?_) (fun z _ y hr he=>rkI (PostX.no hr z.2.2.2.2 (e0.trans y) he))
 have e1:=e0.trans y1
 refine Rd.call (p:=⟨Nat,vB⟩) (q:=⟨Nat,vBe⟩) (parseNameR E) p1 hg1 (fun x2 H2 r2 y2 p2 q2 _ hg2=>?_) (fun z _ _ y hr he=>rkI (PostX.no hr z (e1.trans y) he))
 have e2:=e1.trans y2
 refine Rd.last (p:=⟨(Option Addr×Nat×Nat),vS⟩) (q:=⟨(Option Addr×Nat×Nat)×Nat,vSe⟩) (ha) p2 hg2 (fun x3 H3 r3 y3 p3 q3 hr3=>?_) (fun z _ _ y hr he=>rkI (PostX.no hr z.2 (e2.trans y) he))
 have e3:=e2.trans y3
 refine locX p3 fun _ _ y p=>?_
 refine nodeX (NewDirective_mk _ _ _ _ _) p fun b _ y2 p=>?_
 exact rkI (PostX.read hr3 b (e3.trans (y.trans y2).of_nil) p trivial)
theorem parseArgumentR (E:PEnv) (n:Nat) (hv:RdF E fq133 #[.pointer (some ⟨E.p,0,none⟩),.bool false] ValT (gValue n false)):RdI E fq183 #[.pointer (some ⟨E.p,0,none⟩)] tq328 (gArg n):=by
 intro H0 l0 res p0 hg0
 refine parseArgumentX.enter _ H0 _ ?_
 unfold parseArgumentX.W
 refine⟨_,p0.start,?_⟩
 have e0:Ext E.S H0 H0:=Ext.refl _ _
 unfold gArg at hg0
 refine Rd.call (p:=⟨Nat,vB⟩) (q:=⟨Nat,vBe⟩) (parseNameR E) p0 hg0 (fun x1 H1 r1 y1 p1 q1 _ hg1=>?_) (fun z _ _ y hr he=>rkI (PostX.no hr z (e0.trans y) he))
 have e1:=e0.trans y1
 refine signX (by decide) p1 hg1 (fun x2 H2 t2 y2 p2 k2 hg2=>?_) (fun z _ y hr he=>rkI (PostX.no hr z.2.2.2.2 (e1.trans y) he))
 have e2:=e1.trans y2
 refine Rd.last (p:=⟨Nat×Nat,vF⟩) (q:=⟨Value×Nat,vFe⟩) (hv) p2 hg2 (fun x3 H3 r3 y3 p3 q3 hr3=>?_) (fun z _ _ y hr he=>rkI (PostX.no hr z.2 (e2.trans y) he))
 have e3:=e2.trans y3
 refine locX p3 fun _ _ y p=>?_
 refine nodeX (NewArgument_mk _ _ _) p fun b _ y2 p=>?_
 exact rkI (PostX.read hr3 b (e3.trans (y.trans y2).of_nil) p trivial)
theorem parseObjectFieldR (E:PEnv) (n:Nat) (c:Bool) (hv:RdF E fq133 #[.pointer (some ⟨E.p,0,none⟩),.bool c] ValT (gValue n c)):RdB E fq201 #[.pointer (some ⟨E.p,0,none⟩),.bool c] (gThen gName (gThen (gSign 7) (gValue n c))):=by
 intro H0 l0 res p0 hg0
 refine parseObjectFieldX.enter _ _ H0 _ ?_
 unfold parseObjectFieldX.W
 refine⟨_,p0.start,?_⟩
 have e0:Ext E.S H0 H0:=Ext.refl _ _
 refine Rd.call (p:=⟨Nat,vB⟩) (q:=⟨Nat,vBe⟩) (parseNameR E) p0 hg0 (fun x1 H1 r1 y1 p1 q1 _ hg1=>?_) (fun z _ _ y hr he=>rkI (PostX.no hr z (e0.trans y) he))
 have e1:=e0.trans y1
 refine signX (by decide) p1 hg1 (fun x2 H2 t2 y2 p2 k2 hg2=>?_) (fun z _ y hr he=>rkI (PostX.no hr z.2.2.2.2 (e1.trans y) he))
 have e2:=e1.trans y2
 refine Rd.last (p:=⟨Nat×Nat,vF⟩) (q:=⟨Value×Nat,vFe⟩) (hv) p2 hg2 (fun x3 H3 r3 y3 p3 q3 hr3=>?_) (fun z _ _ y hr he=>rkI (PostX.no hr z.2 (e2.trans y) he))
 have e3:=e2.trans y3
 refine locX p3 fun _ _ y p=>?_
 refine nodeX (NewObjectField_mk _ _ _ _) p fun b _ y2 p=>?_
 exact rkI (PostX.read hr3 b (e3.trans (y.trans y2).of_nil) p trivial)
theorem parseConstValueR (E:PEnv) {g:Gr} (hv:RdF E fq133 #[.pointer (some ⟨E.p,0,none⟩),.bool true] ValT g):RdF E fq188 #[.pointer (some ⟨E.p,0,none⟩)] ValT g:=by
 intro H l res px hg
 refine parseConstValueX.enter _ H _ ?_
 unfold parseConstValueX.W
 exact Rd.last (p:=⟨Nat×Nat,vF⟩) (q:=⟨Value×Nat,vFe⟩) hv px hg (fun x H1 r y p q hr=>rkI (PostX.read hr x y p q)) (fun z _ _ y hr he=>rkI (PostX.no hr z y he))
theorem parseValueValueR (E:PEnv) {g:Gr} (hv:RdF E fq133 #[.pointer (some ⟨E.p,0,none⟩),.bool false] ValT g):RdF E fq199 #[.pointer (some ⟨E.p,0,none⟩)] ValT g:=by
 intro H l res px hg
 refine parseValueValueX.enter _ H _ ?_
 unfold parseValueValueX.W
 exact Rd.last (p:=⟨Nat×Nat,vF⟩) (q:=⟨Value×Nat,vFe⟩) hv px hg (fun x H1 r y p q hr=>rkI (PostX.read hr x y p q)) (fun z _ _ y hr he=>rkI (PostX.no hr z y he))
theorem parseListR (E:PEnv) (g:Gr) (c:Bool) (hv:RdF E fq133 #[.pointer (some ⟨E.p,0,none⟩),.bool c] ValT g):RdB E fq176 #[.pointer (some ⟨E.p,0,none⟩),.bool c] (gRev false 10 g 11):=by
 intro H l res px hg
 refine parseListX.enter _ _ H _ ?_
 unfold parseListX.W
 refine⟨_,px.start,?_⟩
 have hg':gThen (gRev false 10 g 11) gEnd l=some res:=by rw[gThen_end];exact hg
 refine fkI (fun hc=>?_) (fun hc=>?_)
 ·subst hc
  refine LstX.row0 px tq203 ifV fun b1 H2 l2=>?_
  refine revX (by decide) (by decide) (parseConstValueR E hv) (fun H R h=>reverseConstX.enter _ _ _ _ H R h) l2.px hg' (fun x H3 r y p q h2=>?_) (fun z H3 r y hr he=>rkI (PostX.no hr z.2 (l2.ext.trans y) he))
  have hr:res=(true,r):=(Option.some.inj h2).symm
  refine convXI tq203 tq203 ValT plain_Value valT_as (.inl (lt_row l2)) q (Ext.refl _ _) (l2.step y p) fun w H4 bs l4=>?_
  refine locX l4.px fun _ _ y5 p5=>?_
  refine nodeX (NewListValue_mk _ _ _ _) p5 fun b _ y6 p6=>?_
  exact rkI (PostX.read hr b (l4.ext.trans (y5.trans y6).of_nil) p6 trivial)
 ·subst hc
  refine LstX.row0 px tq203 ifV fun b1 H2 l2=>?_
  refine revX (by decide) (by decide) (parseValueValueR E hv) (fun H R h=>reverseValueX.enter _ _ _ _ H R h) l2.px hg' (fun x H3 r y p q h2=>?_) (fun z H3 r y hr he=>rkI (PostX.no hr z.2 (l2.ext.trans y) he))
  have hr:res=(true,r):=(Option.some.inj h2).symm
  refine convXI tq203 tq203 ValT plain_Value valT_as (.inl (lt_row l2)) q (Ext.refl _ _) (l2.step y p) fun w H4 bs l4=>?_
  refine locX l4.px fun _ _ y5 p5=>?_
  refine nodeX (NewListValue_mk _ _ _ _) p5 fun b _ y6 p6=>?_
  exact rkI (PostX.read hr b (l4.ext.trans (y5.trans y6).of_nil) p6 trivial)
def gObj (g:Gr):Gr:=fun l=>if kd l=12 then gLoop (gThen gName (gThen (gSign 7) g)) 14 l.tail else some (false,l)
theorem parseObjectR (E:PEnv) (n:Nat) (c:Bool) (hv:RdF E fq133 #[.pointer (some ⟨E.p,0,none⟩),.bool c] ValT (gValue n c)):RdB E fq177 #[.pointer (some ⟨E.p,0,none⟩),.bool c] (gObj (gValue n c)):=by
 intro H l res px hg
 refine parseObjectX.enter _ _ H _ ?_
 unfold parseObjectX.W
 refine⟨_,px.start,?_⟩
 unfold gObj at hg
 have hlen:=px.n
 refine expX (by decide) px (fun hk x H1 ht y1 p1=>?_) (fun hk y H1 y1 he=>?_)
 ·rw[if_pos hk] at hg
  refine tokX rfl fun b2 H2 x2 hb2 hlt=>?_
  have e2:=y1.trans x2.of_nil
  refine LstX.row0 (p1.grow x2) tq362 ptV fun b1 H3 l3=>?_
  refine⟨fun z H'=> ∃(f:Nat) (l':List PTk) (bs:List Nat),gMany (gThen gName (gThen (gSign 7) (gValue n c))) 14 f l'=some res∧bs.length+f≤1001∧LstX E H2 H' l' tq362 z.1 ptV bs,fun z _=>1001 -z.1.2.1,⟨l.tail.length+1,l.tail,[],hg,by simp only[List.length_tail,List.length_nil];omega,l3⟩,?_⟩
  rintro⟨⟨xa,xn,xc⟩,_⟩ H4 ⟨f,l',bs,hg4,hf,l4⟩
  dsimp only at l4⊢
  have hn:=l4.len
  dsimp only at hn
  cases f with
  |zero=>cases hg4
  |succ f=>
  unfold gMany at hg4
  refine skipX (by decide) l4.px (fun hk H5 x5 p5=>?_) (fun hk=>?_)
  ·refine fkI (fun _=>?_) (fun hh=>absurd hh (by decide))
   rw[if_pos hk] at hg4
   refine locX p5 fun _ _ y6 p6=>?_
   refine nodeX (NewObjectValue_mk _ _ _ _) p6 fun b _ y7 p7=>?_
   exact rkI (PostX.read (Option.some.inj hg4).symm b (e2.trans (l4.ext.trans (x5.trans (y6.trans y7).of_nil))) p7 trivial)
  ·refine fkI (fun hh=>absurd hh (by decide)) (fun _=>?_)
   rw[if_neg hk] at hg4
   refine Rd.call (p:=⟨Nat,vB⟩) (q:=⟨Nat,vBe⟩) (parseObjectFieldR E n c hv) l4.px hg4 (fun x H5 r x5 p5 _ _ h2=>?_) (fun z _ _ y hr he=>rkI (PostX.no hr z (e2.trans (l4.ext.trans y)) he))
   refine(l4.step x5 p5).push (b:=x) (by unfold plainT;decide) (fun _=>rfl) 8 (by decide) (by omega) fun a cc H6 l6=>?_
   refine⟨⟨f,r,bs++[x],h2,by simp only[List.length_append,List.length_cons,List.length_nil];omega,l6⟩,?_⟩
   omega
 ·rw[if_neg hk] at hg
  refine tokX rfl fun b2 H2 x2 hb2 _=>?_
  exact rkI (PostX.no (Option.some.inj hg).symm y.2.2.2.2 (y1.trans x2).of_nil (he.grow x2))
theorem parseValueLiteralR (E:PEnv): ∀(n:Nat) (c:Bool),RdF E fq133 #[.pointer (some ⟨E.p,0,none⟩),.bool c] ValT (gValue n c)
 |0,c=>fun H l res _ hg=>by cases hg
 |n+1,c=>by
  have ih:=parseValueLiteralR E n c
  intro H l res px hg
  obtain⟨pe,v,en,hp,hle,_,hw⟩:=px.obj
  refine parseValueLiteralX.enter _ _ H _ ?_
  unfold parseValueLiteralX.W
  refine⟨(kd l,((startOf E.text l:Nat):Int),(en:Int),v),lcO hp rfl,?_⟩
  dsimp only
  refine tokB rfl fun b2 H2 x2 hb2 hlt=>?_
  have p2:=px.grow x2
  have e2:Ext E.S H H2:=x2.of_nil
  have hlt2: ∀ {b':Nat},H.size≤b'→b'∉E.S:=fun h=>nin_of px.lt h
  unfold gValue at hg
  refine⟨kd l,lcO hb2 rfl,?_⟩
  have adv: ∀ {K:Unit→Heap→Prop},kd l≠1→(∀H',Ext E.S H H'→PX E H' l.tail→H'[b2]?=some (.cells #[.int .i64 (kd l),.int .i64 (startOf E.text l:Nat),.int .i64 en,.string v] tq87)→K () H')→
   callW PP fq69 #[.pointer (some ⟨E.p,0,none⟩)] H2 ⟨Unit,fun _=> .nilIface⟩ K:=by
   intro K h1 hk
   obtain⟨t,r,rfl⟩:=kd_cons h1
   exact advX p2 fun H3 x3 p3=>hk H3 (e2.trans x3) p3 (x3.get _ _ hb2 (hlt2 hlt))
  have no: ∀ {K:Nat→Heap→Prop},(∀b H',Ext E.S H H'→ErrX E b l H'→K b H')→callW PP fq38 #[.pointer (some ⟨E.p,0,none⟩),.agg #[.int .i64 0,.int .i64 0,.int .i64 0,.string (bs [])]] H2 pErr K:=by
   intro K hk
   exact unexpX p2 tok0 (.inl ⟨rfl,rfl⟩) fun b H3 x3 he=>hk b H3 (x2.trans x3).of_nil he
  refine fkI (fun h10=>?_) (fun h10=>fkI (fun h12=>?_) (fun h12=>fkI (fun h16=>?_) (fun h16=>fkI (fun h17=>?_) (fun h17=>fkI (fun h19=>?_) (fun h19=>fkI (fun h18=>?_) (fun h18=>fkI (fun h15=>?_) (fun h15=>fkI (fun h3=>?_) (fun h3=>?_))))))))
  ·have hk:kd l=10:=by simpa using h10
   refine Rd.last (p:=⟨Nat,vB⟩) (q:=⟨Nat,vBe⟩) (parseListR E _ c ih) p2 (res:=res) (by simpa [gRev,hk] using hg) (fun x H3 r y p _ hr=>?_) (fun z _ _ y hr he=>?_)
   ·exact rkI (PostX.read hr (tq309,x) (e2.trans y) p (by simp[ValT]))
   ·exact rkI (PostX.no hr (Value.iface tq309 (.pointer none),z) (e2.trans y) he)
  ·have hk:kd l=12:=by simpa using h12
   refine Rd.last (p:=⟨Nat,vB⟩) (q:=⟨Nat,vBe⟩) (parseObjectR E n c ih) p2 (res:=res) (by simpa [gObj,hk] using hg) (fun x H3 r y p _ hr=>?_) (fun z _ _ y hr he=>?_)
   ·exact rkI (PostX.read hr (tq312,x) (e2.trans y) p (by simp[ValT]))
   ·exact rkI (PostX.no hr (Value.iface tq312 (.pointer none),z) (e2.trans y) he)
  ·have hk:kd l=16:=by simpa using h16
   have hr:res=(true,l.tail):=by simpa [hk] using hg.symm
   refine adv (by omega) fun H3 y3 p3 hb3=>?_
   refine⟨v,lcO hb3 rfl,_,lcO hb3 rfl,?_⟩
   refine locX p3 fun _ H4 x4 p4=>?_
   refine⟨lcO (x4.get _ _ hb3 (by simp)) rfl,?_⟩
   refine nodeX (NewIntValue_mk _ _) p4 fun b H5 x5 p5=>?_
   exact rkI (PostX.read hr (tq315,b) (y3.trans (x4.trans x5).of_nil) p5 (by simp[ValT]))
  ·have hk:kd l=17:=by simpa using h17
   have hr:res=(true,l.tail):=by simpa [hk] using hg.symm
   refine adv (by omega) fun H3 y3 p3 hb3=>?_
   refine⟨v,lcO hb3 rfl,_,lcO hb3 rfl,?_⟩
   refine locX p3 fun _ H4 x4 p4=>?_
   refine⟨lcO (x4.get _ _ hb3 (by simp)) rfl,?_⟩
   refine nodeX (NewFloatValue_mk _ _) p4 fun b H5 x5 p5=>?_
   exact rkI (PostX.read hr (tq318,b) (y3.trans (x4.trans x5).of_nil) p5 (by simp[ValT]))
  ·have hk:kd l=19:=by simpa using h19
   have hr:res=(true,l.tail):=by simpa [hk] using hg.symm
   exact strX (.inr hk) p2 fun b H3 y3 p3=>rkI (PostX.read hr (tq230,b) (e2.trans y3) p3 (by simp[ValT]))
  ·have hk:kd l=18:=by simpa using h18
   have hr:res=(true,l.tail):=by simpa [hk] using hg.symm
   exact strX (.inl hk) p2 fun b H3 y3 p3=>rkI (PostX.read hr (tq230,b) (e2.trans y3) p3 (by simp[ValT]))
  ·have hk:kd l=15:=by simpa using h15
   have hnn:isW wNull l=false∧res=(true,l.tail):=by
    simp only[hk] at hg
    by_cases hn:isW wNull l=true
    ·simp[hn] at hg
    ·exact⟨by simpa using hn,by simpa [hn] using hg.symm⟩
   obtain⟨hnn,hr⟩:=hnn
   refine⟨(v.toList==(bs [116,114,117,101]).toList||v.toList==(bs [102,97,108,115,101]).toList,()),?_,?_⟩
   ·refine⟨v,lcO hb2 rfl,fkI (fun hh=>⟨by rw[hh];rfl,rfl⟩) (fun hh=>⟨v,lcO hb2 rfl,by rw[hh];rfl,rfl⟩)⟩
   refine fkI (fun _=>?_) (fun _=>?_)
   ·refine adv (by omega) fun H3 y3 p3 hb3=>?_
    refine⟨v,lcO hb3 rfl,?_⟩
    refine fkI (fun _=>?_) (fun _=>?_)
    ·refine⟨_,lcO hb3 rfl,?_⟩
     refine locX p3 fun _ H4 x4 p4=>?_
     refine nodeX (NewBooleanValue_mk _ _) p4 fun b H5 x5 p5=>?_
     exact rkI (PostX.read hr (tq321,b) (y3.trans (x4.trans x5).of_nil) p5 (by simp[ValT]))
    ·refine⟨_,lcO hb3 rfl,?_⟩
     refine locX p3 fun _ H4 x4 p4=>?_
     refine nodeX (NewBooleanValue_mk _ _) p4 fun b H5 x5 p5=>?_
     exact rkI (PostX.read hr (tq321,b) (y3.trans (x4.trans x5).of_nil) p5 (by simp[ValT]))
   ·refine⟨v,lcO hb2 rfl,?_⟩
    refine fkI (fun _=>?_) (fun hh=>?_)
    ·refine adv (by omega) fun H3 y3 p3 hb3=>?_
     refine⟨v,lcO hb3 rfl,_,lcO hb3 rfl,?_⟩
     refine locX p3 fun _ H4 x4 p4=>?_
     refine⟨lcO (x4.get _ _ hb3 (by simp)) rfl,?_⟩
     refine nodeX (NewEnumValue_mk _ _) p4 fun b H5 x5 p5=>?_
     exact rkI (PostX.read hr (tq325,b) (y3.trans (x4.trans x5).of_nil) p5 (by simp[ValT]))
    ·rw[show(v.toList==(bs [110,117,108,108]).toList)=false from(hw wNull hk).trans hnn] at hh
     exact absurd hh (by decide)
  ·have hk:kd l=3:=by simpa using h3
   simp only[hk] at hg
   refine fkI (fun hc=>?_) (fun hc=>?_)
   ·have hc':c=false:=by simpa using hc
    subst hc'
    have hg':gThen (gSign 3) gName l=some res:=by unfold gThen;rw[gSign_yes hk];simpa using hg
    refine Rd.last (p:=⟨Nat,vB⟩) (q:=⟨Nat,vBe⟩) (parseVariableR E) p2 hg' (fun x H3 r y p _ hr=>?_) (fun z _ _ y hr he=>?_)
    ·exact rkI (PostX.read hr (tq195,x) (e2.trans y) p (by simp[ValT]))
    ·exact rkI (PostX.no hr (Value.iface tq195 (.pointer none),z) (e2.trans y) he)
   ·have hc':c=true:=by simpa using hc
    subst hc'
    have hr:res=(false,l):=by simpa using hg.symm
    exact no fun b H3 y3 he=>rkI (PostX.no hr (Value.nilIface,b) y3 he)
  ·have hk3:kd l≠3:=by simpa using h3
   have hk10:kd l≠10:=by simpa using h10
   have hk12:kd l≠12:=by simpa using h12
   have hk15:kd l≠15:=by simpa using h15
   have hk16:kd l≠16:=by simpa using h16
   have hk17:kd l≠17:=by simpa using h17
   have hk18:kd l≠18:=by simpa using h18
   have hk19:kd l≠19:=by simpa using h19
   have hr:res=(false,l):=by simpa [hk3,hk10,hk12,hk15,hk16,hk17,hk18,hk19] using hg.symm
   exact no fun b H3 y3 he=>rkI (PostX.no hr (Value.nilIface,b) y3 he)
abbrev RdT (E:PEnv) (f:FuncId) (args:Array Value) (g:Gr):Prop:=Rd E f args vF vIe (fun b=>b) g fun _ _=>True
theorem nonNullX {E:PEnv} {H:Heap} {l:List PTk} {res:Bool×List PTk} {b2:Nat} {k st en:Int} {v:ByteArray} (hb2:H[b2]?=some (.cells #[.int .i64 k,.int .i64 st,.int .i64 en,.string v] tq87)) (hn:b2∉E.S) (px:PX E H l) (hg:gOpt 2 l=some res) {T b:Nat}
 {R:Value→Heap→Prop} (hR: ∀x H' r,Ext E.S H H'→PX E H' r→res=(true,r)→R (vF x) H'):
 callW PP fq35 #[.pointer (some ⟨E.p,0,none⟩),.int .i64 2] H ⟨Bool,fun x=> .tuple #[.bool x,.nilIface]⟩ fun(x20:Bool) H21=>
  forkB x20
  (loadW H21 false 1 ⟨b2,1,none⟩ (pInt .i64) fun(x22:Int)=>
    callW PP fq40 #[.pointer (some ⟨E.p,0,none⟩),.int .i64 x22] H21 pBlk fun(x23:Nat) H24=>
    newB H24 (.cells #[.string (bs []),.pointer (some ⟨x23,0,none⟩),.iface T (.pointer (some ⟨b,0,none⟩))] tq308) fun b25 H26=>
    callW PP fq175 #[.pointer (some ⟨b25,0,none⟩)] H26 pBlk fun(x27:Nat) H28=>
    retK (some [.iface tq306 (.pointer (some ⟨x27,0,none⟩)),.nilIface]) H28 R)
  (retK (some [.iface T (.pointer (some ⟨b,0,none⟩)),.nilIface]) H21 R):=by
 unfold gOpt at hg
 refine skipX (by decide) px (fun hk H1 x1 p1=>?_) (fun hk=>?_)
 ·rw[if_pos hk] at hg
  refine fkI (fun _=>?_) (fun hh=>absurd hh (by decide))
  refine⟨st,lcO (x1.get _ _ hb2 hn) rfl,?_⟩
  refine locX p1 fun _ _ y2 p2=>?_
  refine nodeX (NewNonNull_mk _ _ _) p2 fun bb _ y3 p3=>?_
  exact rkI (hR (tq306,bb) _ _ (x1.trans (y2.trans y3).of_nil) p3 (Option.some.inj hg).symm)
 ·rw[if_neg hk] at hg
  refine fkI (fun hh=>absurd hh (by decide)) (fun _=>?_)
  exact rkI (hR (T,b) _ _ (Ext.refl _ _) px (Option.some.inj hg).symm)
theorem parseTypeR (E:PEnv): ∀n:Nat,RdT E fq132 #[.pointer (some ⟨E.p,0,none⟩)] (gTyped n)
 |0=>fun H l res _ hg=>by cases hg
 |n+1=>by
  have ih:=parseTypeR E n
  intro H l res px hg
  obtain⟨pe,v,en,hp,hle,_,hw⟩:=px.obj
  refine parseTypeX.enter _ H _ ?_
  unfold parseTypeX.W
  refine⟨(kd l,((startOf E.text l:Nat):Int),(en:Int),v),lcO hp rfl,?_⟩
  dsimp only
  refine tokB rfl fun b2 H2 x2 hb2 hlt=>?_
  have p2:=px.grow x2
  have e2:Ext E.S H H2:=x2.of_nil
  have hn2:b2∉E.S:=nin_of px.lt hlt
  unfold gTyped at hg
  refine⟨kd l,lcO hb2 rfl,?_⟩
  refine fkI (fun h10=>?_) (fun h10=>fkI (fun h11=>?_) (fun h11=>fkI (fun h15=>?_) (fun h15=>?_)))
  ·have hk:kd l=10:=by simpa using h10
   rw[if_pos hk] at hg
   obtain⟨t,r,rfl⟩:=kd_cons (l:=l) (by omega)
   refine advX p2 fun H3 y3 p3=>?_
   have hb3:=y3.get _ _ hb2 hn2
   refine Rd.call (p:=⟨Nat×Nat,vF⟩) (q:=⟨Nat,vIe⟩) ih p3 hg (fun x4 H4 r4 y4 p4 _ _ h4=>?_) (fun z _ _ y hr he=>rkI (PostX.no hr z (e2.trans (y3.trans y)) he))
   have hk11:kd r4=11:=by
    by_cases h:kd r4=11
    ·exact h
    ·rw[if_neg h] at h4;cases h4
   rw[if_pos hk11] at h4
   obtain⟨t5,r5,rfl⟩:=kd_cons (l:=r4) (by omega)
   refine advX p4 fun H5 y5 p5=>?_
   have hb5:=y5.get _ _ (y4.get _ _ hb3 hn2) hn2
   refine⟨_,lcO hb5 rfl,?_⟩
   refine locX p5 fun _ H6 y6 p6=>?_
   refine nodeX (NewList_mk _ _ _) p6 fun b7 H7 y7 p7=>?_
   have hb7:=y7.get _ _ (y6.get _ _ hb5 (by simp)) (by simp)
   refine nonNullX hb7 hn2 p7 h4 fun x H8 r8 y8 p8 hr=>PostX.read hr x (e2.trans ((y3.trans (y4.trans y5)).trans ((y6.trans y7).of_nil.trans y8))) p8 trivial
  ·have hk:kd l=11:=by simpa using h11
   simp[hk] at hg
  ·have hk:kd l=15:=by simpa using h15
   have hg':gThen gName (gOpt 2) l=some res:=by
    unfold gThen gName
    rw[gSign_yes hk]
    simpa [hk] using hg
   refine Rd.call (p:=⟨Nat,vB⟩) (q:=⟨Nat,vBe⟩) (parseNamedR E) p2 hg' (fun x4 H4 r4 y4 p4 _ _ h4=>?_) (fun z _ _ y hr he=>rkI (PostX.no hr z (e2.trans y) he))
   have hb4:=y4.get _ _ hb2 hn2
   refine nonNullX hb4 hn2 p4 h4 fun x H8 r8 y8 p8 hr=>PostX.read hr x (e2.trans (y4.trans y8)) p8 trivial
  ·have h1:kd l≠10:=by simpa using h10
   have h2:kd l≠15:=by simpa using h15
   simp[h1,h2] at hg
theorem gBody_rev {z:Bool} {o c:Int} {item:Gr} {l:List PTk} {res:Bool×List PTk} (h:gBody o item c l=some res):gRev z o item c l=some res:=by
 unfold gBody at h
 by_cases hk:kd l=o∧kd l.tail≠c
 ·rw[if_pos hk] at h
  unfold gRev
  rw[if_pos hk.1,if_neg (fun hh=>hk.2 hh.2)]
  exact h
 ·rw[if_neg hk] at h;cases h
theorem parseArgumentsR (E:PEnv) (n:Nat) (hd:RdI E fq183 #[.pointer (some ⟨E.p,0,none⟩)] tq328 (gArg n)):RdS E fq135 #[.pointer (some ⟨E.p,0,none⟩)] (gArgs n):=by
 intro H l res px hg
 refine parseArgumentsX.enter _ H _ ?_
 unfold parseArgumentsX.W
 unfold gArgs at hg
 refine LstX.row0 px tq328 ptV fun b1 H2 l2=>?_
 refine peekX l2.px (fkI (fun hh=>?_) (fun hh=>?_))
 ·have hk:kd l=4:=by simpa using hh
  rw[if_pos hk] at hg
  have hg':gThen (gRev true 4 (gArg n) 5) gEnd l=some res:=by rw[gThen_end];exact(gRev_list _ _ _ _).symm.trans hg
  refine revX (by decide) (by decide) hd.toF (fun H R h=>reverseArgX.enter _ _ _ _ H R h) l2.px hg' (fun x H3 r y p q h2=>?_) (fun z H3 r y hr he=>rkI (PostX.no hr (((some ⟨b1,0,none⟩,0,0),z.2):(Option Addr×Nat×Nat)×Nat) (l2.ext.trans y) he))
  exact convX tq328 tq328 (by unfold plainT;decide) (.inl (lt_row l2)) q (Ext.refl _ _) (l2.step y p) fun w H4 bs l4=>rkI (PostX.read (Option.some.inj h2).symm w.1 l4.ext l4.px trivial)
 ·have hk:kd l≠4:=by simpa using hh
  rw[if_neg hk] at hg
  exact rkI (PostX.read (Option.some.inj hg).symm ((some ⟨b1,0,none⟩,0,0):Option Addr×Nat×Nat) l2.ext l2.px trivial)
theorem parseVariableDefinitionsR (E:PEnv) (n:Nat) (hd:RdI E fq102 #[.pointer (some ⟨E.p,0,none⟩)] tq169 (gVar n)):RdS E fq75 #[.pointer (some ⟨E.p,0,none⟩)] (gVars n):=by
 intro H l res px hg
 refine parseVariableDefinitionsX.enter _ H _ ?_
 unfold parseVariableDefinitionsX.W
 unfold gVars at hg
 refine LstX.row0 px tq169 ptV fun b1 H2 l2=>?_
 refine peekX l2.px (fkI (fun hh=>?_) (fun hh=>?_))
 ·have hk:kd l≠4:=by simpa using hh
  rw[if_neg hk] at hg
  exact rkI (PostX.read (Option.some.inj hg).symm ((some ⟨b1,0,none⟩,0,0):Option Addr×Nat×Nat) l2.ext l2.px trivial)
 ·have hk:kd l=4:=by simpa using hh
  rw[if_pos hk] at hg
  have hg':gThen (gRev true 4 (gVar n) 5) gEnd l=some res:=by rw[gThen_end];exact(gRev_list _ _ _ _).symm.trans hg
  refine revX (by decide) (by decide) hd.toF (fun H R h=>reverseVarX.enter _ _ _ _ H R h) l2.px hg' (fun x H3 r y p q h2=>?_) (fun z H3 r y hr he=>rkI (PostX.no hr (((some ⟨b1,0,none⟩,0,0),z.2):(Option Addr×Nat×Nat)×Nat) (l2.ext.trans y) he))
  exact convX tq169 tq169 (by unfold plainT;decide) (.inl (lt_row l2)) q (Ext.refl _ _) (l2.step y p) fun w H4 bs l4=>rkI (PostX.read (Option.some.inj h2).symm w.1 l4.ext l4.px trivial)
theorem parseArgumentDefsR (E:PEnv) (n:Nat) (hd:RdI E fq153 #[.pointer (some ⟨E.p,0,none⟩)] tq261 (gInput n)):RdS E fq156 #[.pointer (some ⟨E.p,0,none⟩)] (gInputsOpt n):=by
 intro H l res px hg
 refine parseArgumentDefsX.enter _ H _ ?_
 unfold parseArgumentDefsX.W
 unfold gInputsOpt at hg
 refine LstX.row0 px tq261 ptV fun b1 H2 l2=>?_
 refine peekX l2.px (fkI (fun hh=>?_) (fun hh=>?_))
 ·have hk:kd l≠4:=by simpa using hh
  rw[if_neg hk] at hg
  exact rkI (PostX.read (Option.some.inj hg).symm ((some ⟨b1,0,none⟩,0,0):Option Addr×Nat×Nat) l2.ext l2.px trivial)
 ·have hk:kd l=4:=by simpa using hh
  rw[if_pos hk] at hg
  have hg':gThen (gRev true 4 (gInput n) 5) gEnd l=some res:=by rw[gThen_end];exact gBody_rev hg
  refine revX (by decide) (by decide) hd.toF (fun H R h=>reverseInputX.enter _ _ _ _ H R h) l2.px hg' (fun x H3 r y p q h2=>?_) (fun z H3 r y hr he=>rkI (PostX.no hr (((some ⟨b1,0,none⟩,0,0),z.2):(Option Addr×Nat×Nat)×Nat) (l2.ext.trans y) he))
  exact convX tq261 tq261 (by unfold plainT;decide) (.inl (lt_row l2)) q (Ext.refl _ _) (l2.step y p) fun w H4 bs l4=>rkI (PostX.read (Option.some.inj h2).symm w.1 l4.ext l4.px trivial)
theorem argsQ (E:PEnv) (n:Nat):RdS E fq135 #[.pointer (some ⟨E.p,0,none⟩)] (gArgs n):=parseArgumentsR E n (parseArgumentR E n (parseValueLiteralR E n false))
theorem dirsQ (E:PEnv) (n:Nat):RdS E fq76 #[.pointer (some ⟨E.p,0,none⟩)] (gDirs n):=parseDirectivesR E n (parseDirectiveR E n (argsQ E n))
theorem SlAt.zero (a:Option Addr) (c:Nat) (G:Heap):SlAt (a,0,c) [] G:=⟨rfl,.inl rfl⟩
section
variable {G H:Heap} {tk b c1 c2 ni:Nat} {D:List Nd} {fcl:FuncId} {eT:TypeId} {kd:Int} {t:Tr}
end
section
variable {G:Heap} {b lb nb:Nat} {t:Tr}
end
end Go.Vx
