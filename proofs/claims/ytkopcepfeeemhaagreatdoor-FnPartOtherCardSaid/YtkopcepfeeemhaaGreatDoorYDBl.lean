/- A part of the proof of what the last text of this claim says: QE8. Conditions: none. -/
import Derived.Test.YtkopcepfeeemhaaGreatDoorYDAx
import Derived.Test.YtkopcepfeeemhaaGreatDoorYDBj
import Derived.Test.YtkopcepfeeemhaaGreatDoorYDBk
set_option maxRecDepth 10000
namespace Go.Vx
open Go Go.Proofs
def Nine (s:Int):Prop:=s=24∨s=26∨s=27∨s=31∨s=32∨s=34∨s=36∨s=37∨s=39
theorem kiW {s:Int} (hs:Nine s) (H:Heap):Fn PP fq33 #[.int .i64 s] H fun v H'=>v= .string (k4t s)∧H=H':=by
 rcases hs with rfl|rfl|rfl|rfl|rfl|rfl|rfl|rfl|rfl
 ·exact kdq H
 ·exact kam H
 ·exact kdr H
 ·exact kds H
 ·exact kdt H
 ·exact kdu H
 ·exact kdv H
 ·exact kdw H
 ·exact kdx H
theorem kkk {s:Int} (hs:Nine s):k4t s≠eB:=by
 rcases hs with rfl|rfl|rfl|rfl|rfl|rfl|rfl|rfl|rfl
 all_goals exact fun h=>absurd (congrArg ByteArray.size h) (by decide)
theorem kha {k:Int} (hk:DefK k): ∃nm,KindOk k k nm:=by
 rcases hk with rfl|rfl|rfl|rfl|rfl|rfl|rfl|rfl|rfl|rfl|rfl
 ·exact⟨_,khh⟩
 ·exact⟨_,khd⟩
 ·exact⟨_,khj⟩
 ·exact⟨_,khi⟩
 ·exact⟨_,khg⟩
 ·exact⟨_,khf⟩
 ·exact⟨_,khk⟩
 ·exact⟨_,khb⟩
 ·exact⟨_,khe⟩
 ·exact⟨_,kh9⟩
 ·exact⟨_,khc⟩
theorem kft {s:Int} (hs:Nine s) (text:BA) (hsm:text.size<268435456) (t:KV) (l:List KV) (hr: ∀S:Src,S.text=text→Rest S (t::l) 0)
 (hno: ∀(E:PEnv) (H:Heap),PS E H (t::l)→Fn PP fq62 #[.pointer (some ⟨E.p,0,none⟩),.string (k4t s)] H (k29 E H)) (H:Heap) (hT:TabsAt H.size H):
 Fn PP fq27 #[.int .i64 s,.string text] H fun v H'=>v= .tuple #[.slice none 0 0,.int .i64 0,.bool false]∧Ext [] H H':=by
 refine ReadPart.enter s text H _ ?_
 unfold ReadPart.W
 refine(kiW hs H).mono ?_
 rintro _ _ ⟨rfl,rfl⟩
 refine⟨k4t s,rfl,fkI (fun hh=>?_) (fun _=>?_)⟩
 ·rw[k0t] at hh
  exact absurd (by simpa using hh) (kkk hs)
 refine(kjq (k4t s) s text hsm t l hr hno H hT).mono ?_
 rintro _ H1 ⟨rfl,x1⟩
 exact⟨((none,0,0),0,false),rfl,rkI ⟨rfl,x1⟩⟩
theorem kgc {t:Tr} (h:ShapedP t) (hk:t.n.kind=1):(∀x∈t.ks,DefK x.n.kind)∧0<t.ks.length:=by
 cases h with
 |document _ h1 h2=>
  refine⟨fun x hx=>?_,h2⟩
  have:=h1 x hx
  simp only[List.mem_cons,List.not_mem_nil,or_false] at this
  unfold DefK
  exact this
 |_=>exfalso;first|omega|(rename_i h;rcases h with h|h<;>omega)
theorem kkf {k:Int} (hk:DefK k): ¬(k<24∧k≠2∧k≠3):=by
 unfold DefK at hk;omega
theorem klL (b o n c:Nat) (ds:List Nd) (H:Heap) (h:k0X H b o ds) (hn:n=ds.length) (which other:Int) (hw:0≤which∧which≤255) (ho:0≤other∧other≤255) (hTb:TabsAt H.size H):
 Fn PP fq14 #[.slice (some ⟨b,o,none⟩) n c,.int .u8 which,.int .u8 other] H fun v H'=>v= .bool true∧Ext [] H H':=by
 refine FnPartOther.enter b o n c which other H _ ?_
 unfold FnPartOther.W
 refine(keI b o n c ds H h hn).mono ?_
 rintro _ H1 ⟨r,rfl,x1,hr⟩
 refine⟨r,rfl,fkI (fun _=>rkI ⟨rfl,x1⟩) (fun hr1=>?_)⟩
 obtain⟨hs1,hlt⟩:=hr (by simpa using hr1)
 refine nbI fun H2 e2 hb2 x2 s2=>?_
 have y2:=x1.trans x2
 rw[i64w (n:=other) (by omega),i64w (n:=which) (by omega)]
 have hm9:Int.tmod other ((9:Nat):Int)=((other.toNat% 9:Nat):Int):=by
  have e:other=((other.toNat:Nat):Int):=by omega
  rw[e,←Int.ofNat_tmod]
  simp
 rw[hm9]
 have hk9:other.toNat% 9<9:=Nat.mod_lt _ (by decide)
 generalize other.toNat% 9=k9 at hk9
 have hstep: ∃s:Int,Nine s∧k07 H2 false 1 ⟨H1.size,0+((k9:Nat):Int).toNat*1,none⟩=some (.int .i64 s):=by
  have e:0+((k9:Nat):Int).toNat*1=k9:=by omega
  rw[e]
  have hc:k9=0∨k9=1∨k9=2∨k9=3∨k9=4∨k9=5∨k9=6∨k9=7∨k9=8:=by omega
  rcases hc with rfl|rfl|rfl|rfl|rfl|rfl|rfl|rfl|rfl
  ·exact⟨24,by simp[Nine],lcO hb2 rfl⟩
  ·exact⟨26,by simp[Nine],lcO hb2 rfl⟩
  ·exact⟨27,by simp[Nine],lcO hb2 rfl⟩
  ·exact⟨31,by simp[Nine],lcO hb2 rfl⟩
  ·exact⟨32,by simp[Nine],lcO hb2 rfl⟩
  ·exact⟨34,by simp[Nine],lcO hb2 rfl⟩
  ·exact⟨36,by simp[Nine],lcO hb2 rfl⟩
  ·exact⟨37,by simp[Nine],lcO hb2 rfl⟩
  ·exact⟨39,by simp[Nine],lcO hb2 rfl⟩
 obtain⟨s,hs9,hls⟩:=hstep
 refine⟨by decide,k0k (by omega) (by omega),s,hls,?_⟩
 refine(kaZ b o n c ds H2 ⟨h.ext y2 (by simp),hn,hlt⟩ hs1).mono ?_
 rintro _ H3 ⟨r3,rfl,x3,hr3⟩
 have y3:=y2.trans x3
 refine⟨r3,rfl,fkI (fun _=>rkI ⟨rfl,y3⟩) (fun hh3=>?_)⟩
 obtain⟨t,ht,hk1⟩:=hr3 (by simpa using hh3)
 obtain⟨hdk,hpos⟩:=kgc (ht.good t (k3t t)).2 hk1
 have h3:Doc H3 b o n ds:=⟨h.ext y3 (by simp),hn,hlt⟩
 have hat0:At ds 0 (flat t):=⟨[],by rw[ht.flat];simp⟩
 refine(k3W b o n c ds H3 h3 0 t hat0 ht.ws).mono ?_
 rintro _ H4 ⟨ka,km,kc,ps,rfl,hf,hp⟩
 have hS:=k0G.of_own hf.own
 have hkm:=hS.1
 simp only[intL,List.length_map] at hkm
 have hpl:=hp.length
 refine⟨(ka,km,kc),rfl,?_⟩
 dsimp only
 have y4:=y3.trans hf.ext
 have hwm:Int.tmod which ((km:Nat):Int)=((which.toNat% km:Nat):Int):=by
  have e:which=((which.toNat:Nat):Int):=by omega
  rw[e,←Int.ofNat_tmod]
  simp
 rw[hwm]
 have hj:which.toNat% km<t.ks.length:=by rw[←hpl,←hkm];exact Nat.mod_lt _ (by omega)
 generalize which.toNat% km=j at hj
 obtain⟨p,hpj,hat,hws⟩:=hp.get j hj
 have hi:(intL ps)[j]?=some (.int .i64 (p:Int)):=by simp[intL,hpj]
 have hL:=hS.load hi
 refine⟨by omega,hL.1,(p:Int),hL.2,?_⟩
 have hmem:t.ks[j]∈t.ks:=List.getElem_mem hj
 have hdef:=hdk _ hmem
 have hfine:Fine t:=⟨ht.good,ht.ws,by rw[←ht.flat];exact ht.len⟩
 have hfu:=hfine.kid hmem
 have hsu:k3y t.ks[j]:=fun q hq=>ht.small q (k52 hmem q hq)
 generalize t.ks[j]=u at hat hws hdef hfu hsu
 have hroot:=hat.root
 have hdlt:=(List.getElem?_eq_some_iff.1 hroot).1
 have hix:IxOk (some ⟨b,o,none⟩) ((p:Nat):Int) n:=k0k (by omega) (by omega)
 have hkd: ∀ {H':Heap},Ext [] H H'→k07 H' false 1 ⟨b,o+((p:Nat):Int).toNat*6,none⟩=some (.int .i64 u.n.kind):=fun x=>(h.ext x (by simp)).kind hroot
 refine⟨((u.n.kind==s),()),?_,?_⟩
 ·refine⟨hix,_,hkd y4,?_⟩
  refine fkI (fun hh=>⟨by rw[hh],rfl⟩) (fun hh=>?_)
  rw[hh]
  refine⟨hix,_,hkd y4,?_⟩
  refine fkI (fun h24=>?_) (fun _=>⟨rfl,rfl⟩)
  refine⟨hix,_,hkd y4,?_⟩
  refine fkI (fun hn2=>?_) (fun _=>⟨rfl,rfl⟩)
  refine⟨hix,_,hkd y4,?_,rfl⟩
  have:=kkf hdef
  simp only[decide_eq_true_eq,bne_iff_ne] at h24 hn2
  have h3:u.n.kind=3:=by omega
  rw[h3];rfl
 dsimp only
 refine fkI (fun _=>rkI ⟨rfl,y4⟩) (fun hne=>?_)
 have hne':u.n.kind≠s:=by simpa using hne
 have hTR:=(kaT u hfu.1 hsu).toks
 obtain⟨hT,hsz⟩:=hTR
 have hkl:=k9P u hfu.1
 have hfl:=hfu.2.2
 have htl:=hT.len
 have hnode:k23 k1E u:=ka7 u hfu.1 fun q hq=>by have:=hsu q hq;simp only[k1c] at this;omega
 have h4:Doc H4 b o n ds:=⟨h.ext y4 (by simp),hn,hlt⟩
 refine(kbh b o n c ds H4 h4 p u hat hws hnode (by omega)).mono ?_
 rintro _ H5 ⟨a5,m5,k5,rfl,x5,o5⟩
 refine⟨(a5,m5,k5),rfl,?_⟩
 dsimp only
 obtain⟨de,hd,rest,hkv,_⟩:=kbO hfu hdef
 obtain⟨k0,kr,hk0⟩: ∃k0 kr,kvs u=k0::kr:=by
  rw[hkv]
  cases kvF de with
  |nil=>exact⟨_,_,rfl⟩
  |cons a l=>exact⟨a,_,rfl⟩
 have hm5:=o5.1
 simp only[List.length_map,Nat.mul_one] at hm5
 have hkpos:0<(kvs u).length:=by rw[hk0];simp
 rcases o5.2 with⟨_,h0,_⟩|⟨g5,cur,ha5,_⟩
 ·omega
 subst ha5
 have y5:=y4.trans x5
 refine(kb3 g5 m5 k5 none 0 0 (toks u) [] H5 (k0I.of_own o5) ⟨rfl,.inl rfl⟩ (by simp) (fun s hsm=>⟨hT.pos s hsm,by have:=hsz s hsm;omega⟩) (by omega)).mono ?_
 rintro _ H6 ⟨body,rfl,x6,hsp,_⟩
 refine⟨body,rfl,?_⟩
 have y6:=y5.trans x6
 have hbs:=hsp.size 30000 hsz
 have hbs2:body.size≤4000*30005:=Nat.le_trans hbs (Nat.mul_le_mul_right _ (by omega))
 have hrest: ∀ks,Toks (toks u) ks→ ∀S:Src,S.text=body→Rest S (ks++[(1,eB)]) 0:=by
  intro ks hT2 S hS
  refine kax S (by rw[hS];omega) (bs []) [(1,eB)] kee (toks u) ks hT2 none body hsp 0 (fun h0=>?_) (by rw[hS,k7K];exact Sfx.zero _)
  rw[h0] at htl
  simp at htl
  omega
 have hno: ∀(E:PEnv) (G:Heap),PS E G (k0::(kr++[(1,eB)]))→Fn PP fq62 #[.pointer (some ⟨E.p,0,none⟩),.string (k4t s)] G (k29 E G):=by
  intro E G ps
  refine kiX hfu hdef s hs9 hne' E (1,eB) [] G ?_
  rw[hk0]
  exact ps
 have hrest1: ∀S:Src,S.text=body→Rest S (k0::(kr++[(1,eB)])) 0:=by
  intro S hS
  have:=hrest _ hT S hS
  rw[hk0] at this
  exact this
 refine(kft hs9 body (by omega) k0 _ hrest1 hno H6 (hTb.up y6)).mono ?_
 rintro _ H7 ⟨rfl,x7⟩
 refine⟨((none,0,0),0,false),rfl,?_⟩
 dsimp only
 have y7:=y6.trans x7
 refine⟨hix,_,hkd y7,?_⟩
 obtain⟨nm,hK⟩:=kha hdef
 have hbytes: ∀m∈flat u,k1c m≤4000:=by
  intro m hm
  rw[k3G,List.mem_map] at hm
  obtain⟨q,hq,rfl⟩:=hm
  exact hsu q hq
 obtain⟨ks,hT8,hne8,_,_,hst⟩:=hK.ok u hfu.1 hws rfl hfl hbytes
 refine(k94 nm u.n.kind hK.name hK.ne body (by omega) ks (1,eB) (flat u) (.inr rfl) hne8 (hrest ks hT8) hst (k1i u) H7 (hTb.up y7)).mono ?_
 rintro _ H8 ⟨g8,c8,nx,Y,rfl,x8,_,_,_⟩
 refine⟨((some ⟨g8,0,none⟩,Y.length,c8),(nx:Int),true),rfl,?_⟩
 dsimp only
 refine⟨(true,()),fkI (fun _=>⟨rfl,rfl⟩) (fun hh=>absurd hh (by decide)),rkI ⟨rfl,y7.trans x8⟩⟩
theorem klM (a:OA) (c:Nat) (which other:Int) (ho:0≤other∧other≤255) (H:Heap):
 Fn PP fq14 #[.slice a 0 c,.int .u8 which,.int .u8 other] H fun v H'=>v= .bool true∧Ext [] H H':=by
 refine k5g.enter a 0 c which other H _ ?_
 unfold k5g.W
 refine(keH a c H).mono ?_
 rintro _ _ ⟨rfl,rfl⟩
 refine⟨true,rfl,fkI (fun hh=>absurd hh (by decide)) (fun _=>?_)⟩
 refine nbI fun H2 e2 hb2 x2 s2=>?_
 rw[i64w (n:=other) (by omega)]
 have hm9:Int.tmod other ((9:Nat):Int)=((other.toNat% 9:Nat):Int):=by
  have e:other=((other.toNat:Nat):Int):=by omega
  rw[e,←Int.ofNat_tmod]
  simp
 rw[hm9]
 have hk9:other.toNat% 9<9:=Nat.mod_lt _ (by decide)
 generalize other.toNat% 9=k9 at hk9
 have hstep: ∃s:Int,k07 H2 false 1 ⟨H.size,0+((k9:Nat):Int).toNat*1,none⟩=some (.int .i64 s):=by
  have e:0+((k9:Nat):Int).toNat*1=k9:=by omega
  rw[e]
  have hc:k9=0∨k9=1∨k9=2∨k9=3∨k9=4∨k9=5∨k9=6∨k9=7∨k9=8:=by omega
  rcases hc with rfl|rfl|rfl|rfl|rfl|rfl|rfl|rfl|rfl
  all_goals exact⟨_,lcO hb2 rfl⟩
 obtain⟨s,hls⟩:=hstep
 refine⟨by decide,k0k (by omega) (by omega),s,hls,?_⟩
 refine(kaY a c H2).mono ?_
 rintro _ _ ⟨rfl,rfl⟩
 exact⟨false,rfl,fkI (fun _=>rkI ⟨rfl,x2⟩) (fun hh=>absurd hh (by decide))⟩
end Go.Vx
