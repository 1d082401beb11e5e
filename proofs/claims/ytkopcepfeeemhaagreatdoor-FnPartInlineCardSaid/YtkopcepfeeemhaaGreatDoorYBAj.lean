/- A part of the proof of what the last text of this claim says: QR2. Conditions: none. -/
import Derived.Test.YtkopcepfeeemhaaGreatDoorYBAh
import Derived.Test.YtkopcepfeeemhaaGreatDoorYBAi
set_option maxRecDepth 10000
namespace Go.Vx
open Go Go.Proofs
theorem bs_inj {l m:List UInt8} (h:bs l=bs m):l=m:=by
 have:=congrArg (fun x:ByteArray=>x.data.toList) h
 simpa [bs] using this
theorem neq_bs {l m:List UInt8} (h:(l==m)=false) (hh:((bs l).toList==(bs m).toList)=true):False:=by
 rw[bytes_beq,decide_eq_true_eq] at hh
 rw[bs_inj hh] at h
 simp at h
theorem eq_bs {l:List UInt8} (hh:((bs l).toList==(bs l).toList)=false):False:=by
 rw[bytes_beq] at hh
 simp at hh
theorem alone_ok (E:PEnv) (l:List KV) (T b:Nat):POk E fq87 #[.iface T (.pointer (some ⟨b,0,none⟩)),.nilIface] l l (fun x:Sl=> .tuple #[.slice x.1 x.2.1 x.2.2,.nilIface])
 fun x G=>x.2.1=1∧ ∃g:Nat,x.1=some ⟨g,0,none⟩∧G[g]?=some (.cells #[.iface T (.pointer (some ⟨b,0,none⟩))] tq20):=by
 intro H ps
 refine alone_.enter T b H _ ?_
 unfold alone_.W
 refine nbI fun H1 e1 hb1 x1 s1=>rkI ⟨(some ⟨H.size,0,none⟩,1,1),rfl,?_⟩
 exact((Cx.start ps).add x1 (F':=fun G=>G[H.size]?=some (.cells #[.iface T (.pointer (some ⟨b,0,none⟩))] tq20)) fun G hG=>hG _ _ (Nat.le_refl _) hb1).weak fun G hG=>⟨rfl,H.size,rfl,hG.2⟩
theorem peekDescription_ok (E:PEnv) (t:KV) (l:List KV):POk1 E fq163 #[.pointer (some ⟨E.p,0,none⟩)] (t::l) (t::l) (.bool (t.1==18||t.1==19)):=by
 intro H ps
 refine peekDescription.enter _ H _ ?_
 unfold peekDescription.W
 refine⟨fun y H'=>y.1=(t.1==18||t.1==19)∧Cx E H H' (t::l) fun _=>True,?_,?_⟩
 ·refine(Cx.start ps).call1 (peek_ok E t l 18) (t.1==18) rfl fun H1 _ c1=>?_
  refine fkI (fun hh=>⟨by simp[hh],c1⟩) (fun hh=>?_)
  refine c1.call1 (peek_ok E t l 19) (t.1==19) rfl fun H2 _ c2=>⟨by simp[hh],c2⟩
 ·rintro⟨y,_⟩ H1 ⟨rfl,c1⟩
  exact rkI ⟨rfl,c1⟩
theorem parseDescription_none (E:PEnv) (t:KV) (l:List KV) (h1:t.1≠18) (h2:t.1≠19):POk1 E fq108 #[.pointer (some ⟨E.p,0,none⟩)] (t::l) (t::l) (.tuple #[.pointer none,.nilIface]):=by
 intro H ps
 refine parseDescription.enter _ H _ ?_
 unfold parseDescription.W
 refine(Cx.start ps).call1 (peekDescription_ok E t l) (t.1==18||t.1==19) rfl fun H1 _ c1=>?_
 exact fkI (fun hh=>by simp[h1,h2] at hh) (fun _=>rkI ⟨rfl,c1⟩)
theorem parseDirectives_none (E:PEnv) (t:KV) (l:List KV) (h:t.1≠9):POk E fq138 #[.pointer (some ⟨E.p,0,none⟩)] (t::l) (t::l) (fun x:Sl=> .tuple #[.slice x.1 x.2.1 x.2.2,.nilIface]) fun x _=>x.2.1=0:=by
 intro H ps
 refine parseDirectives.enter _ H _ ?_
 unfold parseDirectives.W
 refine nbI fun H1 e1 hb1 x1 s1=>?_
 have c1:=((Cx.start ps).add (F':=fun _=>True) x1 fun _ _=>trivial).weak fun _ h=>h.1
 refine⟨fun z H'=>H1=H'∧z.1=(some ⟨H.size,0,none⟩,0,0),fun _ _=>0,⟨rfl,rfl⟩,?_⟩
 rintro⟨z,_⟩ _ ⟨rfl,hz⟩
 dsimp only at hz⊢
 subst hz
 refine c1.call1 (peek_ok E t l 9) (t.1==9) rfl fun H2 _ c2=>?_
 exact fkI (fun hh=>by simp[h] at hh) (fun _=>rkI ⟨(some ⟨H.size,0,none⟩,0,0),rfl,c2.weak fun _ _=>rfl⟩)
def Scalar0At (b:Nat) (s:ByteArray) (G:Heap):Prop:= ∃(lb nb:Nat) (a:Option Addr) (c:Nat),LocAt lb G∧NameAt nb s G∧
 G[b]?=some (.cells #[.string kScalarDefinition,.pointer (some ⟨lb,0,none⟩),.pointer none,.pointer (some ⟨nb,0,none⟩),.slice a 0 c] tq234)
theorem parseScalar0_ok (E:PEnv) (s:ByteArray) (u:KV) (l:List KV) (h:u.1≠9):
 POk E fq90 #[.pointer (some ⟨E.p,0,none⟩)] ((15,wScalar)::(15,s)::u::l) (u::l) (fun b:Nat=> .tuple #[.iface tq231 (.pointer (some ⟨b,0,none⟩)),.nilIface]) fun b G=>Scalar0At b s G:=by
 intro H ps
 refine parseScalarTypeDefinition.enter _ H _ ?_
 unfold parseScalarTypeDefinition.W
 obtain⟨st,hst,_⟩:=ps.start
 refine⟨_,hst,?_⟩
 refine(Cx.start ps).call1 (parseDescription_none E (15,wScalar) _ (by decide) (by decide)) none rfl fun H1 _ c1=>?_
 refine c1.call (expectKeyWord_ok E _ _ wScalar) fun x H2 _ c2=>?_
 refine c2.call (parseName_ok E s u l) fun nb H3 _ c3=>?_
 refine c3.call (p:=⟨Sl,fun x=> .tuple #[.slice x.1 x.2.1 x.2.2,.nilIface]⟩) (parseDirectives_none E u l h) fun d H4 _ c4=>?_
 refine c4.call (loc_ok E _ _) fun lb H5 _ c5=>?_
 refine c5.node (NewScalarDefinition_mk _ _ _ _ _ _) fun b H6 _ c6=>?_
 refine rkI ⟨b,rfl,c6.weak fun G hG=>?_⟩
 obtain⟨⟨⟨⟨_,hn⟩,hd⟩,hl⟩,hb⟩:=hG
 obtain⟨da,dn,dc⟩:=d
 dsimp only at hd hb
 subst hd
 exact⟨lb,nb,da,dc,hl,hn,hb⟩
theorem description_nil (H:Heap) (tk:Nat):Fn PP fq66 #[.pointer (some ⟨tk,0,none⟩),.pointer none] H fun v H'=>v= .tuple #[]∧H=H':=by
 refine description0.enter tk H _ ?_
 unfold description0.W
 exact rkI ⟨rfl,rfl⟩
theorem directives_zero (H:Heap) (tk:Nat) (a:Option Addr) (c:Nat):Fn PP fq65 #[.pointer (some ⟨tk,0,none⟩),.slice a 0 c] H fun v H'=>v= .tuple #[]∧Ext [] H H':=by
 refine directivesT.enter tk a 0 c H _ ?_
 unfold directivesT.W
 refine nbI fun H1 e1 hb1 x1 s1=>?_
 refine⟨fun z H'=>H1=H'∧z.1=0,fun _ _=>0,⟨rfl,rfl⟩,?_⟩
 rintro⟨z,_⟩ _ ⟨rfl,hz⟩
 dsimp only at hz⊢
 subst hz
 exact fkI (fun hh=>by simp at hh) (fun _=>rkI ⟨rfl,x1⟩)
abbrev ndScalar (s:ByteArray):Nd:=⟨26,s,eB,eB,0,1⟩
theorem take_scalar0 (kind:Int) (s:ByteArray) (b:Nat) (G:Heap) (hF:Scalar0At b s G):TakeOk kind tq231 b [ndScalar s] G:=by
 intro H tk D h hD
 obtain⟨lb,nb,a,c,⟨ls,le,lq,hl⟩,⟨lb2,_,hnm⟩,hb⟩:=hF
 refine tpartScalarDefinition.enter tk b kind H _ ?_
 unfold tpartScalarDefinition.W
 refine nbI fun H2 e2 hb2 x2 s2=>?_
 refine⟨fun w=>by kernel_rfl,?_⟩
 have t2:=h.grow x2
 refine⟨_,lcO hb2 rfl,definitionScalarDefinition.enter tk b H2 _ ?_⟩
 unfold definitionScalarDefinition.W
 refine nbI fun H3 e3 hb3 x3 s3=>?_
 have t3:=t2.grow x3
 refine⟨_,lcO hb3 rfl,systemScalarDefinition.enter tk b H3 _ ?_⟩
 unfold systemScalarDefinition.W
 refine nbI fun H4 e4 hb4 x4 s4=>nbI fun H5 e5 hb5 x5 s5=>?_
 refine swI hb5 (by simp) rfl rfl fun H6 e6 hb6 x6 s6=>?_
 have y6:Ext [] H4 H6:=by rw[e6];exact x5.setNew (Nat.le_refl _) _
 have hb6':H6[H4.size]?=some (.cells #[.pointer (some ⟨b,0,none⟩)] tq231):=hb6
 have hb46:=y6.get _ _ hb4 (by simp)
 have t6:=(t3.grow x4).grow y6
 have b6:=t6.ext.get _ _ hb (by simp)
 refine⟨_,lcO hb46 rfl,_,lcO hb6' rfl,_,lcO b6 rfl,_,lcO hb6' rfl,_,lcO b6 rfl,?_⟩
 refine(text_ok nb s H6 (t6.ext.get _ _ hnm (by simp))).mono ?_
 rintro _ _ ⟨rfl,rfl⟩
 refine⟨_,rfl,lcO b6 rfl,lcO hb6' rfl,lcO hb46 rfl,?_⟩
 refine(putSys2.enter tk lb ⟨26,s,eB,eB,0,0⟩ H3.size H4.size H6 _ (putG_ok fq186 t6 (by omega) lb hl ⟨26,s,eB,eB,0,0⟩ H3.size H4.size (P:=fun W=>W=[]) fun H7 k7 t7=>?_)).mono ?_
 ·have q4:=k7.get _ _ _ _ hb46 (by decide) (by decide) (by decide)
  have q6:=k7.get _ _ _ _ hb6' (by decide) (by decide) (by decide)
  have b7:=t7.ext.get _ _ hb (by simp)
  refine inSys2.enter H3.size H4.size H7 _ ?_
  unfold inSys2.W
  refine⟨_,lcO q4 rfl,_,lcO q6 rfl,_,lcO b7 rfl,?_⟩
  refine(description_nil H7 tk).mono ?_
  rintro _ _ ⟨rfl,rfl⟩
  refine⟨(),rfl,_,lcO q4 rfl,_,lcO q6 rfl,(a,0,c),lcO b7 rfl,?_⟩
  refine(directives_zero H7 tk a c).mono ?_
  rintro _ H8 ⟨rfl,x8⟩
  exact⟨(),rfl,rkI ⟨rfl,x8.kpT,[],by simp,rfl,by simpa using t7.grow x8⟩⟩
 ·rintro _ H8 ⟨rfl,k8,W,rfl,t8⟩
  have q6:=k8.get _ _ _ _ hb6' (by decide) (by decide) (by decide)
  refine⟨(),rfl,lcO q6 rfl,rkI ?_⟩
  refine⟨(),rfl,rkI ⟨(),rfl,rkI ⟨rfl,_,?_,t8⟩⟩⟩
  exact .cons ⟨rfl,rfl,rfl,rfl,rfl,fun h15=>by simp[Nd.sized] at h15⟩ .nil
theorem step_scalar0 (kind:Int) (s:ByteArray):StepOk wScalar kind [(15,wScalar),(15,s)] [ndScalar s]:=by
 intro E u hu H ps
 refine ppart.enter _ _ H _ ?_
 unfold ppart.W
 refine fkI (fun hh=>(neq_bs (by decide) hh).elim) (fun _=>?_)
 refine fkI (fun hh=>(neq_bs (by decide) hh).elim) (fun _=>?_)
 refine fkI (fun _=>?_) (fun hh=>(eq_bs hh).elim)
 have hu9:u.1≠9:=by rcases hu with h|h<;>rw[h]<;>decide
 refine(Cx.start ps).call (parseScalar0_ok E s u [] hu9) fun b H1 _ c1=>?_
 refine c1.call (p:=⟨Sl,fun x=> .tuple #[.slice x.1 x.2.1 x.2.2,.nilIface]⟩) (alone_ok E [u] _ b) fun x H2 _ c2=>?_
 refine rkI ⟨x,rfl,c2.weak fun G hG=>?_⟩
 obtain⟨⟨_,hO⟩,h1,g,h2,h3⟩:=hG
 exact⟨h1,g,_,b,h2,h3,take_scalar0 kind s b G hO⟩
theorem readToken_eof {E:Src} {H:Heap} (h:SrcAt E H) (at_ i:Nat) (hw:WsRun E.text at_ i) (hi:E.text.size≤i):
 Fn PP fq197 #[.pointer (some ⟨E.src,0,none⟩),.int .i64 at_] H fun r H'=>r= .tuple #[.agg #[.int .i64 1,.int .i64 i,.int .i64 i,.string eB],.nilIface]∧Ext [] H H':=by
 refine readToken.enter _ _ H _ ?_
 unfold readToken.W
 refine nbI fun H1 e1 hb1 x1 s1=>?_
 have h1:=h.ext x1
 obtain⟨nm,fr,hsrc⟩:=h1.src
 refine⟨(E.body,0,E.text.size,E.cap),lcO hsrc rfl,?_⟩
 dsimp only
 refine(posAfter_ok h1 at_ i hw).mono ?_
 rintro _ _ ⟨rfl,rfl⟩
 refine⟨((i:Int),(i:Int)),rfl,?_⟩
 dsimp only
 refine fkI (fun _=>?_) (fun hge=>by exfalso;simp at hge;omega)
 have hfin: ∀H',Ext [H.size] H1 H'→Ext [] H H':=fun H' x=>⟨by have:=x1.size;have:=x.size;omega,fun q o hq _=>x.get _ _ (x1.get _ _ hq (by simp)) (by have:=lt_of_get hq;simp;omega)⟩
 exact tok_ret hb1 rfl rfl (makeToken_ok _ _ _ _ _) fun H' x=>⟨rfl,hfin H' x⟩
theorem tail_eof:TailOk (bs []) [(1,eB)]:=by
 refine⟨.inl rfl,.inl rfl,fun E e hsf he hsm=>?_⟩
 have hz:=hsf.size
 have e0:(bs []).size=0:=rfl
 refine⟨e,e,⟨Nat.le_refl _,by omega,he,fun h=>absurd h (by decide),fun H hH=>readToken_eof hH e e (.stop _ (.inl (by omega))) (by omega)⟩,?_⟩
 show e=E.text.size
 omega
abbrev scalarA:ByteArray:=bs [115,99,97,108,97,114,32,65]
theorem nameP_of (l:List UInt8) (h0:l≠ []) (h: ∀j,j<l.length→nameC (bs l) j=true):NameP (bs l):=⟨by simp[bs,ByteArray.size];exact List.length_pos_iff.2 h0,fun j hj=>h j (by simpa [bs,ByteArray.size] using hj)⟩
theorem opWord_name {s:ByteArray} (h:OpWord s):NameP s:=by
 rcases h with rfl|rfl|rfl<;>exact nameP_of _ (by simp) (by decide)
theorem rest_scalarA (S:Src) (hS:S.text=scalarA):Rest S ([(15,wScalar),(15,bs [65])]++[(1,eB)]) 0:=by
 have h1:NameP wScalar:=nameP_of _ (by simp) (by decide)
 have h2:NameP (bs [65]):=nameP_of _ (by simp) (by decide)
 have hsp:Spaced none [wScalar,bs [65]] (bs []++(wScalar++(bs [32]++(bs [65]++bs [])))):=by
  refine .cons _ _ _ _ _ ⟨by simp[gapL],fun _ p hp=>by cases hp⟩ (.cons _ _ _ _ _ ⟨by simp[gapL],fun he=>?_⟩ (.nil _))
  exact absurd (congrArg ByteArray.size he) (by decide)
 refine rest_of S (by rw[hS];decide) (bs []) [(1,eB)] tail_eof _ _ (.cons (tokS_name h1) (.cons (tokS_name h2) .nil)) none _ hsp 0 (fun h=>by cases h) ?_
 have e:bs []++(wScalar++(bs [32]++(bs [65]++bs [])))++bs []=S.text:=by
  rw[hS];simp only[bs_app];rfl
 rw[e]
 exact Sfx.zero _
theorem partName_26 (H:Heap):Fn PP fq33 #[.int .i64 26] H fun v H'=>v= .string wScalar∧H=H':=by
 refine partName.enter 26 H _ ?_
 unfold partName.W
 repeat refine fkI (fun hh=>absurd hh (by decide)) (fun _=>?_)
 refine fkI (fun _=>rkI ⟨rfl,rfl⟩) (fun hh=>absurd hh (by decide))
theorem ReadPart_scalarA (H:Heap) (hT:TabsAt H.size H):Fn PP fq27 #[.int .i64 26,.string scalarA] H fun v H'=> ∃(g c nx n:Nat),v= .tuple #[.slice (some ⟨g,0,none⟩) n c,.int .i64 nx,.bool true]∧Ext [] H H':=by
 refine(ReadPart_ok wScalar 26 partName_26 (fun h=>absurd (congrArg ByteArray.size h) (by decide)) scalarA (by decide) _ (1,eB) _ (.inr rfl) (by simp) rest_scalarA (step_scalar0 26 (bs [65])) (by simp) H hT).mono ?_
 rintro _ H' ⟨g,c,nx,Y,rfl,x,_⟩
 exact⟨g,c,nx,_,rfl,x⟩
end Go.Vx
