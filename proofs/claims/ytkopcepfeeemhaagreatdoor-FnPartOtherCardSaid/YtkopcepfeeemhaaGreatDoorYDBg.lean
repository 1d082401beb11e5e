/- A part of the proof of what the last text of this claim says: QV2, QV3, QV4, QT4, QT5, QV5, QV6, QV7, QV8. Conditions: none. -/
import Derived.Test.YtkopcepfeeemhaaGreatDoorYDAv
import Derived.Test.YtkopcepfeeemhaaGreatDoorYDBb
import Derived.Test.YtkopcepfeeemhaaGreatDoorYDBf
set_option maxRecDepth 10000
namespace Go.Vx
open Go Go.Proofs
abbrev N2v (x:Nat×Nat):Value:= .tuple #[.iface x.1 (.pointer (some ⟨x.2,0,none⟩)),nI]
abbrev N2p:Pat:=⟨Nat×Nat,fun x=>(.tuple #[(.iface x.1 (.pointer (some ⟨x.2,0,none⟩))),nI])⟩
abbrev P1v (b:Nat):Value:= .tuple #[.pointer (some ⟨b,0,none⟩),nI]
theorem k45 {n:Nd} (h:BodyP n) (hk:n.kind=1∨n.kind=5∨n.kind=17∨n.kind=18∨n.kind=21∨n.kind=22∨n.kind=24∨n.kind=39):n.name=eB∧n.text=eB:=by
 cases h<;>first|exact⟨by assumption,by assumption⟩|(exfalso;omega)
theorem k1l {n:Nd} (h:BodyP n) (hk:n.kind=4∨n.kind=6∨n.kind=7∨9≤n.kind∧n.kind≤11∨n.kind=16∨19≤n.kind∧n.kind≤20∨26≤n.kind∧n.kind≤38):n.text=eB:=by
 cases h<;>first|assumption|(exfalso;omega)
theorem k4E {n:Nd} (h:BodyP n) (hk:n.kind=12∨n.kind=13∨n.kind=14∨n.kind=15∨n.kind=23∨n.kind=8):n.name=eB:=by
 cases h<;>first|assumption|(exfalso;omega)
theorem k0R {n:Nd} (h:k2H n) (hk:n.kind≠6):n.alias=eB:=by
 rcases h.1 with h1|h1
 ·exact h1
 ·exact absurd h1.1 hk
theorem Good.self {t:Tr} (h:Good t):k2H t.n∧ShapedP t:=h t (k3t t)
theorem Ws.kid {t k:Tr} (h:Ws t) (hk:k∈t.ks):Ws k:=k8g t h k (k52 hk k (k3t k))
theorem PS.tok {E:PEnv} {H:Heap} {t:KV} {l:List KV} (h:PS E H (t::l)): ∃st en:Nat,k07 H true 4 ⟨E.p,5,none⟩=some (.agg #[.int .i64 t.1,.int .i64 (st:Nat),.int .i64 (en:Nat),.string t.2]):=by
 obtain⟨pe,t',st,en,r,hl,hp,_⟩:=h.p
 cases hl
 exact⟨st,en,lcO hp rfl⟩
theorem PS.ne {E:PEnv} {H:Heap} {l:List KV} (h:PS E H l): ∃t r,l=t::r:=by
 obtain⟨_,t,_,_,r,hl,_⟩:=h.p
 exact⟨t,r,hl⟩
def k71 (p b2 T v:Nat) (H:Heap) (R:Value→Heap→Prop):Prop:=
 k00 PP fq150 #[(.pointer (some ⟨p,0,none⟩)),(.int .i64 2)] H ⟨Bool,fun x=>(.tuple #[(.bool x),nI])⟩ fun(x19:Bool) H20=>
  k02 x19
  (k01 H20 false 1 ⟨b2,1,none⟩ (pInt .i64) fun(x21:Int)=>
    k00 PP fq141 #[(.pointer (some ⟨p,0,none⟩)),(.int .i64 x21)] H20 pBlk fun(x22:Nat) H23=>
    newB H23 (.cells #[sE,(.pointer (some ⟨x22,0,none⟩)),(.iface T (.pointer (some ⟨v,0,none⟩)))] tq299) fun b24 H25=>
    k00 PP fq205 #[(.pointer (some ⟨b24,0,none⟩))] H25 pBlk fun(x26:Nat) H27=>
    rk [(.iface tq298 (.pointer (some ⟨x26,0,none⟩))),nI] H27 R)
  (rk [(.iface T (.pointer (some ⟨v,0,none⟩))),nI] H20 R)
def kbg (H:Heap) (b:Nat):Prop:= ∃(k i e:Int) (s:BA),H[b]?=some (.cells #[.int .i64 k,.int .i64 i,.int .i64 e,.string s] tq85)
theorem kkv {E:PEnv} {A H:Heap} {u:KV} {r:List KV} {F:Heap→Prop} {b2 T v:Nat} {X:List Nd} (c:Cx E A H (u::r) F) (hu:u.1≠2) (hF: ∀G,F G→k1L T v X G):
 k71 E.p b2 T v H fun w H'=> ∃x:Nat×Nat,w=N2v x∧Cx E A H' (u::r) fun G=>k1L x.1 x.2 X G:=by
 unfold k71
 refine c.call1 (k3v E u r 2 hu) false rfl fun H1 _ c1=>?_
 exact fkI (fun hh=>absurd hh (by decide)) (fun _=>rkI ⟨(T,v),rfl,c1.weak fun G hG=>hF G hG⟩)
theorem kkt {E:PEnv} {A H:Heap} {u:KV} {r:List KV} {F:Heap→Prop} {b2 T v:Nat} {t k:Tr} (c:Cx E A H (k69::u::r) F) (hb:A.size≤b2) (hb2:kbg H b2) (hF: ∀G,F G→k1L T v (flat k) G)
 (hf:k2H t.n) (hk:t.n.kind=22) (hks:t.ks=[k]) (hw:Ws t):
 k71 E.p b2 T v H fun w H'=> ∃x:Nat×Nat,w=N2v x∧Cx E A H' (u::r) fun G=>k1L x.1 x.2 (flat t) G:=by
 obtain⟨a0,a1,a2,a3,hb2⟩:=hb2
 unfold k71
 refine c.call1 (k3S E k69 u r 2 rfl) true rfl fun H1 y1 c1=>?_
 refine fkI (fun _=>?_) (fun hh=>absurd hh (by decide))
 refine⟨_,lcO (y1.get _ _ hb2 (c.nin hb)) rfl,?_⟩
 refine c1.call (k0D E _ _) fun lb H2 _ c2=>?_
 refine c2.node (kfd _ _ _) fun b H3 _ c3=>?_
 refine rkI ⟨(tq298,b),rfl,c3.weak fun G hG=>?_⟩
 obtain⟨⟨hFG,hl⟩,hbG⟩:=hG
 obtain⟨h1,h2⟩:=k45 hf.2 (by omega)
 exact kkC hl hbG (hF G hFG) hk h1 h2 (k0R hf (by omega)) hks hw
theorem ket (E:PEnv) (k:Tr) (hk:k.n.kind=20∨k.n.kind=21) (hg:Good k) (hw:Ws k) (x1:KV) (X:List KV)
 (ih: ∀q∈k.ks,k0q q.n=true→ ∀(u:KV) (r:List KV),u.1≠2→POk E fq151 #[.pointer (some ⟨E.p,0,none⟩)] (kvs q++u::r) (u::r) N2v fun x G=>k1L x.1 x.2 (flat q) G)
 {R:Value→Heap→Prop} {H:Heap} (ps:PS E H (kvs k++x1::X))
 (fin: ∀(b2 T v:Nat) (H':Heap) (F:Heap→Prop),Cx E H H' (x1::X) F→H.size≤b2→kbg H' b2→(∀G,F G→k1L T v (flat k) G)→k71 E.p b2 T v H' R):parseType.W E.p H R:=by
 obtain⟨hf,hs⟩:=hg.self
 unfold parseType.W
 rcases hk with hk|hk
 ·have hks:k.ks=[]:=by
   cases hs with
   |leaf _ h=>exact h
   |_=>omega
  have hkv:kvs k=[nmK k.n.name]:=by rw[k0z];simp[k0r,k0E,hk]
  rw[hkv] at ps
  obtain⟨st,en,htk⟩:=ps.tok
  refine⟨(15,(st:Int),(en:Int),k.n.name),htk,?_⟩
  dsimp only
  refine(Cx.start ps).tok rfl fun H2 y2 hb2 c2=>?_
  refine⟨(15:Int),lcO hb2 rfl,?_⟩
  refine fkI (fun hh=>absurd hh (by decide)) (fun _=>fkI (fun hh=>absurd hh (by decide)) (fun _=>fkI (fun _=>?_) (fun hh=>absurd hh (by decide))))
  refine c2.call (k4V E k.n.name x1 X) fun nb H3 y3 c3=>?_
  have hb3:=y3.get _ _ hb2 (c2.nin (Nat.le_refl _))
  refine fin H.size tq107 nb H3 _ c3 (Nat.le_refl _) ⟨_,_,_,_,hb3⟩ fun G hG=>?_
  exact kkB hG.2 hk (k1l hf.2 (by omega)) (k0R hf (by omega)) hks hw
 ·obtain⟨q,hks,hq⟩: ∃q,k.ks=[q]∧k0q q.n=true:=by
   cases hs with
   |tlist ty _ h h2=>exact⟨ty,h,h2⟩
   |_=>omega
  have hkv:kvs k=kSL::(kvs q++[kSR]):=by rw[k0z];simp[k0r,k0E,hk,hks,k7I,kvF]
  rw[hkv,List.cons_append,List.append_assoc,List.singleton_append] at ps
  obtain⟨st,en,htk⟩:=ps.tok
  refine⟨(10,(st:Int),(en:Int),eB),htk,?_⟩
  dsimp only
  refine(Cx.start ps).tok rfl fun H2 y2 hb2 c2=>?_
  refine⟨(10:Int),lcO hb2 rfl,?_⟩
  refine fkI (fun _=>?_) (fun hh=>absurd hh (by decide))
  obtain⟨v1,v2,hv⟩: ∃v1 v2,kvs q++kSR::x1::X=v1::v2:=by
   cases hh:kvs q with
   |nil=>exact⟨_,_,rfl⟩
   |cons a b=>exact⟨_,_,rfl⟩
  have c2':=c2
  rw[hv] at c2'
  refine c2'.call1 (k2q E kSL v1 v2) () rfl fun H3 y3 c3=>?_
  rw[←hv] at c3
  refine c3.call (p:=N2p) (ih q (by rw[hks];simp) hq kSR (x1::X) (by decide)) fun x H4 y4 c4=>?_
  refine c4.call1 (k2q E kSR x1 X) () rfl fun H5 y5 c5=>?_
  have hb5:=y5.get _ _ (y4.get _ _ (y3.get _ _ hb2 (c2.nin (Nat.le_refl _))) (c2.nin (Nat.le_refl _))) (c2.nin (Nat.le_refl _))
  refine⟨_,lcO hb5 rfl,?_⟩
  refine c5.call (k0D E _ _) fun lb H6 y6 c6=>?_
  refine c6.node (kf9 _ _ _) fun b H7 y7 c7=>?_
  have hb7:=y7.get _ _ (y6.get _ _ hb5 (c2.nin (Nat.le_refl _))) (by simp)
  refine fin H.size tq295 b H7 _ c7 (Nat.le_refl _) ⟨_,_,_,_,hb7⟩ fun G hG=>?_
  obtain⟨⟨⟨_,hT⟩,hl⟩,hbG⟩:=hG
  obtain⟨h1,h2⟩:=k45 hf.2 (by omega)
  exact kkA hl hbG hT hk h1 h2 (k0R hf (by omega)) hks hw
theorem kak (E:PEnv) (t:Tr) (ht:k0q t.n=true) (hg:Good t) (hw:Ws t) (u:KV) (r:List KV) (hu:u.1≠2):
 POk E fq151 #[.pointer (some ⟨E.p,0,none⟩)] (kvs t++u::r) (u::r) N2v fun x G=>k1L x.1 x.2 (flat t) G:=by
 intro H ps
 obtain⟨hf,hs⟩:=hg.self
 refine parseType.enter _ H _ ?_
 have hk:t.n.kind=20∨t.n.kind=21∨t.n.kind=22:=by simp only[k0q,Bool.and_eq_true,decide_eq_true_eq] at ht;omega
 by_cases h22:t.n.kind=22
 ·obtain⟨k,hks,hq⟩: ∃k,t.ks=[k]∧k3J k.n=true:=by
   cases hs with
   |tnon ty _ h h2=>exact⟨ty,h,h2⟩
   |_=>omega
  have hkm:k∈t.ks:=by rw[hks];simp
  have hkk:k.n.kind=20∨k.n.kind=21:=by
   simp only[k3J,k0q,Bool.and_eq_true,decide_eq_true_eq,bne_iff_ne] at hq;omega
  have hkv:kvs t=kvs k++[k69]:=by rw[k0z];simp[k0r,k0E,h22,hks,k7I,kvF]
  rw[hkv,List.append_assoc,List.singleton_append] at ps
  refine ket E k hkk (hg.kid hkm) (hw.kid hkm) k69 (u::r) (fun q hq1 hq2 u' r' hu'=>kak E q hq2 ((hg.kid hkm).kid hq1) ((hw.kid hkm).kid hq1) u' r' hu') ps ?_
  intro b2 T v H' F c hb hb2 hF
  exact kkt c hb hb2 hF hf h22 hks hw
 ·refine ket E t (by omega) hg hw u r (fun q hq1 hq2 u' r' hu'=>kak E q hq2 (hg.kid hq1) (hw.kid hq1) u' r' hu') ps ?_
  intro b2 T v H' F c hb hb2 hF
  exact kkv c hu hF
 termination_by SizeOf.sizeOf t
 decreasing_by
 all_goals
  cases t with|node n ks=>
  simp only[Tr.ks] at*
  first
   |(have:=List.sizeOf_lt_of_mem hkm;cases k with|node n2 ks2=>simp only[] at*;have:=List.sizeOf_lt_of_mem hq1;simp at*;omega)
   |(have:=List.sizeOf_lt_of_mem hq1;simp;omega)
def ValT (T:Nat):Prop:=T=tq169∨T=tq300∨T=tq302∨T=tq102∨T=tq304∨T=tq307∨T=tq309∨T=tq313
theorem kev (x:Nat×Nat) (h:ValT x.1): ∀w,(Instr.typeAssert (ifV x) tq20 tq173 false).run PP w= .ok (asV (ifV x) false) w:=by
 obtain⟨T,b⟩:=x
 rcases h with rfl|rfl|rfl|rfl|rfl|rfl|rfl|rfl
 all_goals
  intro w
  kernel_rfl
def ValQ (x:Nat×Nat) (t:Tr) (G:Heap):Prop:=k1P x.1 x.2 (flat t) G∧ValT x.1
def kbf (b:Nat) (s:BA) (G:Heap):Prop:= ∃lb,k0B lb G∧G[b]?=some (.cells #[.string k9y,.pointer (some ⟨lb,0,none⟩),.string s] tq183)
theorem kaj (E:PEnv) (k:Int) (s:BA) (u:KV) (r:List KV):
 POk E fq164 #[.pointer (some ⟨E.p,0,none⟩)] ((k,s)::u::r) (u::r) P1v fun b G=>kbf b s G:=by
 intro H ps
 refine parseStringLiteral.enter _ H _ ?_
 unfold parseStringLiteral.W
 obtain⟨st,en,htk⟩:=ps.tok
 refine⟨(k,(st:Int),(en:Int),s),htk,?_⟩
 dsimp only
 refine(Cx.start ps).tok rfl fun H2 y2 hb2 c2=>?_
 refine c2.call1 (k2q E (k,s) u r) () rfl fun H3 y3 c3=>?_
 have hb3:=y3.get _ _ hb2 (c2.nin (Nat.le_refl _))
 refine⟨_,lcO hb3 rfl,_,lcO hb3 rfl,?_⟩
 refine c3.call (k0D E _ _) fun lb H4 y4 c4=>?_
 have hb4:=y4.get _ _ hb3 (c2.nin (Nat.le_refl _))
 refine⟨lcO hb4 rfl,?_⟩
 refine c4.node (kfl _ _) fun b H5 _ c5=>?_
 exact rkI ⟨b,rfl,c5.weak fun G hG=>⟨lb,hG.1.2,hG.2⟩⟩
def kbi (b:Nat) (s:BA) (G:Heap):Prop:= ∃lb nb,k0B lb G∧k0W nb s G∧G[b]?=some (.cells #[.string k9z,.pointer (some ⟨lb,0,none⟩),.pointer (some ⟨nb,0,none⟩)] tq176)
theorem kdo (E:PEnv) (s:BA) (u:KV) (r:List KV):
 POk E fq170 #[.pointer (some ⟨E.p,0,none⟩)] (kDol::nmK s::u::r) (u::r) P1v fun b G=>kbi b s G:=by
 intro H ps
 refine parseVariable.enter _ H _ ?_
 unfold parseVariable.W
 obtain⟨st,hst,_⟩:=ps.start
 refine⟨_,hst,?_⟩
 refine(Cx.start ps).call (k1R E kDol _ _ 3 rfl) fun x H1 _ c1=>?_
 refine c1.call (k1p E s u r) fun nb H2 _ c2=>?_
 refine c2.call (k0D E _ _) fun lb H3 _ c3=>?_
 refine c3.node (kfp _ _) fun b H4 _ c4=>?_
 exact rkI ⟨b,rfl,c4.weak fun G hG=>⟨lb,nb,hG.1.2,hG.1.1.2,hG.2⟩⟩
theorem k1K.kid {t k:Tr} (h:k1K t) (hk:k∈t.ks):k1K k:=by
 intro m hm
 refine h m ?_
 rw[k3G,List.mem_map] at hm⊢
 obtain⟨q,hq,rfl⟩:=hm
 exact⟨q,k52 hk q hq,rfl⟩
theorem k1K.self {t:Tr} (h:k1K t):t.n.kind≠11:=h t.n (by cases t;simp[flat,Tr.n])
theorem kcE {t:Tr} (h:k0n t.n=true): ∃a l,kvs t=a::l∧a.1≠11∧a.1≠14:=by
 have hk:11≤t.n.kind∧t.n.kind≤18:=by simpa [k0n] using h
 rw[k0z]
 have hcases:t.n.kind=11∨t.n.kind=12∨t.n.kind=13∨t.n.kind=14∨t.n.kind=15∨t.n.kind=16∨t.n.kind=17∨t.n.kind=18:=by omega
 rcases hcases with h|h|h|h|h|h|h|h
 ·exact⟨kDol,[nmK t.n.name],by simp[k0r,k0E,h],by decide,by decide⟩
 ·exact⟨numK t.n,[],by simp[k0r,k0E,h],by simp[numK,h],by simp[numK,h]⟩
 ·exact⟨numK t.n,[],by simp[k0r,k0E,h],by simp[numK,h],by simp[numK,h]⟩
 ·refine⟨strK t.n,[],by simp[k0r,k0E,h],?_,?_⟩<;>(unfold strK;split<;>simp)
 ·exact⟨nmK (if t.n.flag=0 then k2I else k37),[],by simp[k0r,k0E,h],by simp,by simp⟩
 ·exact⟨nmK t.n.name,[],by simp[k0r,k0E,h],by simp,by simp⟩
 ·exact⟨kSL,_,by simp[k0r,k0E,h];rfl,by decide,by decide⟩
 ·exact⟨kBL,_,by simp[k0r,k0E,h];rfl,by decide,by decide⟩
def PVal (E:PEnv) (c:Bool) (t:Tr):Prop:= ∀(u:KV) (r:List KV),POk E fq171 #[.pointer (some ⟨E.p,0,none⟩),.bool c] (kvs t++u::r) (u::r) N2v fun x G=>ValQ x t G
theorem kdc {E:PEnv} {t:Tr} (h:PVal E true t) (u:KV) (r:List KV):POk E fq154 #[.pointer (some ⟨E.p,0,none⟩)] (kvs t++u::r) (u::r) N2v fun x G=>ValQ x t G:=by
 intro H ps
 refine parseConstValue.enter _ H _ ?_
 unfold parseConstValue.W
 refine(Cx.start ps).call (p:=N2p) (h u r) fun x H1 _ c1=>?_
 exact rkI ⟨x,rfl,c1.weak fun G hG=>hG.2⟩
theorem kiC {E:PEnv} {t:Tr} (h:PVal E false t) (u:KV) (r:List KV):POk E fq233 #[.pointer (some ⟨E.p,0,none⟩)] (kvs t++u::r) (u::r) N2v fun x G=>ValQ x t G:=by
 intro H ps
 refine parseValueValue.enter _ H _ ?_
 unfold parseValueValue.W
 refine(Cx.start ps).call (p:=N2p) (h u r) fun x H1 _ c1=>?_
 exact rkI ⟨x,rfl,c1.weak fun G hG=>hG.2⟩
theorem kdA:k15 tq173:=by unfold k15;decide
theorem k9B {t:Tr} (h:(flat t).length≤400):t.ks.length≤400:=by
 have:=k6a t;omega
theorem k7T {t k:Tr} (hk:k∈t.ks):(flat k).length≤(flat t).length:=by
 rw[k1S t,List.length_cons]
 have: ∀l:List Tr,k∈l→(flat k).length≤(k0a l).length:=by
  intro l
  induction l with
  |nil=>intro h;simp at h
  |cons a r ih=>
   intro h
   rw[k4e,List.length_append]
   rcases List.mem_cons.1 h with rfl|h
   ·omega
   ·have:=ih h;omega
 have:=this _ hk
 omega
theorem kis (E:PEnv) (c:Bool) (t:Tr) (hk:t.n.kind=17) (hg:Good t) (hw:Ws t) (hl:(flat t).length≤400) (hv: ∀k∈t.ks,PVal E c k) (u:KV) (r:List KV):
 POk E fq210 #[.pointer (some ⟨E.p,0,none⟩),.bool c] (kvs t++u::r) (u::r) P1v fun b G=>k1P tq309 b (flat t) G:=by
 intro H ps
 obtain⟨hf,hs⟩:=hg.self
 have hks: ∀x∈t.ks,k0n x.n=true:=by
  cases hs with
  |list _ h=>exact h
  |_=>omega
 have hfew:=k9B hl
 obtain⟨hn1,hn2⟩:=k45 hf.2 (by omega)
 have hal:=k0R hf (by omega)
 have hkv:kvs t++u::r=kSL::(t.ks.flatMap kvs++kSR::u::r):=by rw[k0z];simp[k0r,k0E,hk,k7I,kvF]
 rw[hkv] at ps
 refine parseList.enter _ _ H _ ?_
 unfold parseList.W
 obtain⟨st,hst,_⟩:=ps.start
 refine⟨_,hst,?_⟩
 have hF: ∀k∈t.ks,∃h r,kvs k=h::r∧True∧h.1≠11:=fun k hkm=>by
  obtain⟨a,l,h1,h2,_⟩:=kcE (hks k hkm)
  exact⟨a,l,h1,trivial,h2⟩
 have fin: ∀ {A0 H3:Heap} (y:Sl) (bs:List (Nat×Nat)),Cx E A0 H3 (u::r) (fun G=>SlAt y (bs.map ifV) G∧All2 (fun b t=>ValQ b t G) bs t.ks)→
  k00 PP fq141 #[(.pointer (some ⟨E.p,0,none⟩)),(.int .i64 (st:Int))] H3 pBlk fun(x15:Nat) H16=>
  newB H16 (.cells #[(.string (Go.Vx.bs [])),(.pointer (some ⟨x15,0,none⟩)),(.slice y.1 y.2.1 y.2.2)] tq312) fun b17 H18=>
  k00 PP fq234 #[(.pointer (some ⟨b17,0,none⟩))] H18 pBlk fun(x19:Nat) H20=>
  rk [(.pointer (some ⟨x19,0,none⟩)),nI] H20 fun v H'=> ∃x,v=P1v x∧Cx E A0 H' (u::r) fun G=>k1P tq309 x (flat t) G:=by
  intro A0 H3 y bs c3
  refine c3.call (k0D E _ _) fun lb H4 _ c4=>?_
  refine c4.node (kf8 _ _ _ _) fun b H5 _ c5=>?_
  refine rkI ⟨b,rfl,c5.weak fun G hG=>?_⟩
  obtain⟨⟨⟨hsl,hall⟩,hl⟩,hbG⟩:=hG
  exact kkG hl hbG hsl (hall.imp fun _ _ h=>h.1) hk hn1 hn2 hal hw
 cases c with
 |true=>
  refine fkI (fun _=>?_) (fun hh=>absurd hh (by decide))
  refine nbI fun H1 e1 hb1 x1 s1=>?_
  refine(kjK.enter _ _ _ _ _ _ (k8k fq154 E 10 11 false kvs ValQ (fun _=>True) t.ks (by omega) (by simp) (fun k hkm u' r' _=>kdc (hv k hkm) u' r') hF trivial u r H1 (ps.grow x1))).mono ?_
  rintro _ H2 ⟨x,bs,rfl,c2⟩
  refine⟨x,rfl,?_⟩
  have hV:=c2.self.2.left (P:=fun b=>ValT b.1) fun _ _ h=>h.2
  have hbl:=c2.self.2.len
  have hb2:=c2.ext.get _ _ hb1 (by have:=ps.lt;simp only[PEnv.S,List.mem_cons,List.not_mem_nil,or_false,not_or];omega)
  exact k9c tq173 tq173 ValT kdA kev E hV c2 (by omega) x1.of_nil ps.lt (Ext.refl _ _) hb2 (Nat.le_refl _) (.inl (by omega)) fun y H3 c3=>fin y bs c3
 |false=>
  refine fkI (fun hh=>absurd hh (by decide)) (fun _=>?_)
  refine nbI fun H1 e1 hb1 x1 s1=>?_
  refine(kjO.enter _ _ _ _ _ _ (k8k fq233 E 10 11 false kvs ValQ (fun _=>True) t.ks (by omega) (by simp) (fun k hkm u' r' _=>kiC (hv k hkm) u' r') hF trivial u r H1 (ps.grow x1))).mono ?_
  rintro _ H2 ⟨x,bs,rfl,c2⟩
  refine⟨x,rfl,?_⟩
  have hV:=c2.self.2.left (P:=fun b=>ValT b.1) fun _ _ h=>h.2
  have hbl:=c2.self.2.len
  have hb2:=c2.ext.get _ _ hb1 (by have:=ps.lt;simp only[PEnv.S,List.mem_cons,List.not_mem_nil,or_false,not_or];omega)
  exact k9c tq173 tq173 ValT kdA kev E hV c2 (by omega) x1.of_nil ps.lt (Ext.refl _ _) hb2 (Nat.le_refl _) (.inl (by omega)) fun y H3 c3=>fin y bs c3
theorem kiu (E:PEnv) (c:Bool) (t v:Tr) (hk:t.n.kind=19) (hks:t.ks=[v]) (hvv:k0n v.n=true) (hf:k2H t.n) (hw:Ws t) (hv:PVal E c v) (u:KV) (r:List KV):
 POk E fq235 #[.pointer (some ⟨E.p,0,none⟩),.bool c] (kvs t++u::r) (u::r) P1v fun b G=>k5k b t G:=by
 intro H ps
 have hkv:kvs t=nmK t.n.name::kCol::kvs v:=by rw[k0z];simp[k0r,hk,hks,kvL,k12,hvv,optK]
 rw[hkv,List.cons_append,List.cons_append] at ps
 refine parseObjectField.enter _ _ H _ ?_
 unfold parseObjectField.W
 obtain⟨st,hst,_⟩:=ps.start
 refine⟨_,hst,?_⟩
 refine(Cx.start ps).call (k1p E t.n.name _ _) fun nb H1 _ c1=>?_
 obtain⟨v1,v2,hv12⟩:=c1.ps.ne
 obtain⟨w1,w2,hw12⟩: ∃w1 w2,kvs v++u::r=w1::w2:=by
  cases hh:kvs v with
  |nil=>exact⟨_,_,rfl⟩
  |cons a b=>exact⟨_,_,rfl⟩
 rw[hw12] at c1
 refine c1.call (k1R E kCol w1 w2 7 rfl) fun x H2 _ c2=>?_
 rw[←hw12] at c2
 refine c2.call (p:=N2p) (hv u r) fun x H3 _ c3=>?_
 refine c3.call (k0D E _ _) fun lb H4 _ c4=>?_
 refine c4.node (kff _ _ _ _) fun b H5 _ c5=>?_
 refine rkI ⟨b,rfl,c5.weak fun G hG=>?_⟩
 obtain⟨⟨⟨⟨⟨_,hn⟩,_⟩,hV⟩,hl⟩,hbG⟩:=hG
 exact⟨lb,nb,x.1,x.2,v,hl,hn,hbG,hV.1,hks,hk,k0R hf (by omega),k1l hf.2 (by omega),hw⟩
theorem kiv (E:PEnv) (c:Bool) (t:Tr) (hk:t.n.kind=18) (hg:Good t) (hw:Ws t) (hl:(flat t).length≤400)
 (hv: ∀k∈t.ks,∀(u:KV) (r:List KV),POk E fq235 #[.pointer (some ⟨E.p,0,none⟩),.bool c] (kvs k++u::r) (u::r) P1v fun b G=>k5k b k G) (u:KV) (r:List KV):
 POk E fq211 #[.pointer (some ⟨E.p,0,none⟩),.bool c] (kvs t++u::r) (u::r) P1v fun b G=>k1P tq313 b (flat t) G:=by
 intro H ps
 obtain⟨hf,hs⟩:=hg.self
 have hks:InK [19] t.ks:=by
  cases hs with
  |object _ h=>exact h
  |_=>omega
 have hfew:=k9B hl
 obtain⟨hn1,hn2⟩:=k45 hf.2 (by omega)
 have hal:=k0R hf (by omega)
 have hkv:kvs t++u::r=kBL::(t.ks.flatMap kvs++kBR::u::r):=by rw[k0z];simp[k0r,k0E,hk,k7I,kvF]
 rw[hkv] at ps
 have hhead: ∀k∈t.ks,∃l,kvs k=nmK k.n.name::l:=by
  intro k hkm
  have h19:k.n.kind=19:=by simpa using hks k hkm
  exact⟨_,by rw[k0z];simp[k0r,h19];rfl⟩
 refine parseObject.enter _ _ H _ ?_
 unfold parseObject.W
 obtain⟨st,hst,_⟩:=ps.start
 refine⟨_,hst,?_⟩
 obtain⟨v1,v2,hv12⟩: ∃v1 v2,t.ks.flatMap kvs++kBR::u::r=v1::v2:=by
  cases hh:t.ks.flatMap kvs with
  |nil=>exact⟨_,_,rfl⟩
  |cons a b=>exact⟨_,_,rfl⟩
 rw[hv12] at ps
 refine(Cx.start ps).call (k1R E kBL v1 v2 12 rfl) fun x1 H1 _ c1=>?_
 rw[←hv12] at c1
 refine c1.tok rfl fun H2 y2 hb2 c2=>?_
 refine Lst.row0 c2.ps tq317 ptV (fun b k G=>k5k b k G) fun b0 H3 l0=>?_
 refine⟨fun z H'=> ∃(done rest:List Tr) (bs:List Nat),t.ks=done++rest∧Lst E H2 H' (rest.flatMap kvs++kBR::u::r) tq317 z.1 ptV (fun b k G=>k5k b k G) bs done,fun z _=>t.ks.length -z.1.2.1,⟨[],t.ks,[],rfl,l0⟩,?_⟩
 rintro⟨⟨xa,xn,xc⟩,_⟩ H4 ⟨done,rest,bs,hl4,l4⟩
 dsimp only at l4⊢
 have hn:=l4.own.1
 simp only[List.length_map,Nat.mul_one] at hn
 have hbl:=l4.facts.len
 have hll:=congrArg List.length hl4
 simp only[List.length_append] at hll
 cases rest with
 |nil=>
  simp only[List.flatMap_nil,List.nil_append] at l4
  refine l4.call1 (k3S E kBR u r 14 rfl) true rfl fun H5 l5=>?_
  refine fkI (fun _=>?_) (fun hh=>absurd hh (by decide))
  rw[List.append_nil] at hl4
  refine(c2.trans l5.fin).call (k0D E _ _) fun lb H6 _ c6=>?_
  refine c6.node (kfg _ _ _ _) fun b H7 _ c7=>?_
  refine rkI ⟨b,rfl,c7.weak fun G hG=>?_⟩
  obtain⟨⟨⟨_,hsl,hall⟩,hl⟩,hbG⟩:=hG
  exact kkH hl hbG hsl (by rw[hl4];exact hall) hk hn1 hn2 hal hw
 |cons k rest=>
  have hkm:k∈t.ks:=by rw[hl4];simp
  obtain⟨q,hq⟩:=hhead k hkm
  have e1:(k::rest).flatMap kvs++kBR::u::r=kvs k++(rest.flatMap kvs++kBR::u::r):=by simp
  rw[e1] at l4
  have l4':=l4
  rw[hq,List.cons_append] at l4'
  refine l4'.call1 (k3v E (nmK k.n.name) _ 14 (by simp)) false rfl fun H5 l5=>?_
  refine fkI (fun hh=>absurd hh (by decide)) (fun _=>?_)
  rw[←List.cons_append,←hq] at l5
  obtain⟨w1,w2,hw12⟩: ∃w1 w2,rest.flatMap kvs++kBR::u::r=w1::w2:=by
   cases hh:rest.flatMap kvs with
   |nil=>exact⟨_,_,rfl⟩
   |cons a b=>exact⟨_,_,rfl⟩
  rw[hw12] at l5
  refine l5.call (hv k hkm w1 w2) fun y H6 l6 f6=>?_
  refine l6.push (b:=y) (m:=k) (by unfold k15;decide) (fun _=>rfl) 8 (by decide) (by omega) f6 fun a c H7 l7=>?_
  rw[←hw12] at l7
  refine⟨⟨done++[k],rest,bs++[y],by rw[hl4];simp,l7⟩,?_⟩
  simp only[List.length_cons] at hll
  omega
theorem kal (E:PEnv) (c:Bool) (t:Tr) (ht:k0n t.n=true) (hg:Good t) (hw:Ws t) (hl:(flat t).length≤400) (hfx:c=true→k1K t):PVal E c t:=by
 intro u r H ps
 obtain⟨hf,hs⟩:=hg.self
 have hk:11≤t.n.kind∧t.n.kind≤18:=by simpa [k0n] using ht
 have hal:=k0R hf (by omega)
 have hleaf:t.n.kind≤16→t.ks=[]:=by
  intro h
  cases hs with
  |leaf _ h=>exact h
  |_=>omega
 refine parseValueLiteral.enter _ _ H _ ?_
 unfold parseValueLiteral.W
 -- a token with a text, and what is made of it
 have hcases:t.n.kind=11∨t.n.kind=12∨t.n.kind=13∨t.n.kind=14∨t.n.kind=15∨t.n.kind=16∨t.n.kind=17∨t.n.kind=18:=by omega
 rcases hcases with hk|hk|hk|hk|hk|hk|hk|hk
 ·have hkv:kvs t=[kDol,nmK t.n.name]:=by rw[k0z];simp[k0r,k0E,hk]
  rw[hkv,List.cons_append,List.singleton_append] at ps
  obtain⟨st,en,htk⟩:=ps.tok
  refine⟨(3,(st:Int),(en:Int),eB),htk,?_⟩
  dsimp only
  refine(Cx.start ps).tok rfl fun H2 y2 hb2 c2=>?_
  refine⟨(3:Int),lcO hb2 rfl,?_⟩
  repeat refine fkI (fun hh=>absurd hh (by decide)) (fun _=>?_)
  refine fkI (fun _=>?_) (fun hh=>absurd hh (by decide))
  refine fkI (fun _=>?_) (fun hc=>?_)
  ·refine c2.call (kdo E t.n.name u r) fun b H3 _ c3=>?_
   refine rkI ⟨(tq169,b),rfl,c3.weak fun G hG=>?_⟩
   obtain⟨_,lb,nb,h1,h2,h3⟩:=hG
   exact⟨kkJ h1 h2 h3 hk hal (k1l hf.2 (by omega)) (hleaf (by omega)) hw,.inl rfl⟩
  ·exfalso
   have:c=true:=by simpa using hc
   exact(hfx this).self hk
 ·have hkv:kvs t=[(16,t.n.text)]:=by rw[k0z];simp[k0r,k0E,hk,numK]
  rw[hkv,List.singleton_append] at ps
  obtain⟨st,en,htk⟩:=ps.tok
  refine⟨(16,(st:Int),(en:Int),t.n.text),htk,?_⟩
  dsimp only
  refine(Cx.start ps).tok rfl fun H2 y2 hb2 c2=>?_
  refine⟨(16:Int),lcO hb2 rfl,?_⟩
  repeat refine fkI (fun hh=>absurd hh (by decide)) (fun _=>?_)
  refine fkI (fun _=>?_) (fun hh=>absurd hh (by decide))
  refine c2.call1 (k2q E (16,t.n.text) u r) () rfl fun H3 y3 c3=>?_
  have hb3:=y3.get _ _ hb2 (c2.nin (Nat.le_refl _))
  refine⟨_,lcO hb3 rfl,_,lcO hb3 rfl,?_⟩
  refine c3.call (k0D E _ _) fun lb H4 y4 c4=>?_
  refine⟨lcO (y4.get _ _ hb3 (c2.nin (Nat.le_refl _))) rfl,?_⟩
  refine c4.node (kf6 _ _) fun b H5 _ c5=>?_
  refine rkI ⟨(tq300,b),rfl,c5.weak fun G hG=>?_⟩
  exact⟨kkF hG.1.2 hG.2 hk (k4E hf.2 (by omega)) hal (hleaf (by omega)) hw,.inr (.inl rfl)⟩
 ·have hkv:kvs t=[(17,t.n.text)]:=by rw[k0z];simp[k0r,k0E,hk,numK]
  rw[hkv,List.singleton_append] at ps
  obtain⟨st,en,htk⟩:=ps.tok
  refine⟨(17,(st:Int),(en:Int),t.n.text),htk,?_⟩
  dsimp only
  refine(Cx.start ps).tok rfl fun H2 y2 hb2 c2=>?_
  refine⟨(17:Int),lcO hb2 rfl,?_⟩
  repeat refine fkI (fun hh=>absurd hh (by decide)) (fun _=>?_)
  refine fkI (fun _=>?_) (fun hh=>absurd hh (by decide))
  refine c2.call1 (k2q E (17,t.n.text) u r) () rfl fun H3 y3 c3=>?_
  have hb3:=y3.get _ _ hb2 (c2.nin (Nat.le_refl _))
  refine⟨_,lcO hb3 rfl,_,lcO hb3 rfl,?_⟩
  refine c3.call (k0D E _ _) fun lb H4 y4 c4=>?_
  refine⟨lcO (y4.get _ _ hb3 (c2.nin (Nat.le_refl _))) rfl,?_⟩
  refine c4.node (kf0 _ _) fun b H5 _ c5=>?_
  refine rkI ⟨(tq302,b),rfl,c5.weak fun G hG=>?_⟩
  exact⟨kkE hG.1.2 hG.2 hk (k4E hf.2 (by omega)) hal (hleaf (by omega)) hw,.inr (.inr (.inl rfl))⟩
 ·obtain⟨kd,hkd,hkv⟩: ∃kd:Int,(kd=18∨kd=19)∧kvs t=[(kd,t.n.text)]:=by
   rw[k0z]
   by_cases hfl:t.n.flag=1
   ·exact⟨19,.inr rfl,by simp[k0r,k0E,hk,strK,hfl]⟩
   ·exact⟨18,.inl rfl,by simp[k0r,k0E,hk,strK,hfl]⟩
  rw[hkv,List.singleton_append] at ps
  obtain⟨st,en,htk⟩:=ps.tok
  refine⟨(kd,(st:Int),(en:Int),t.n.text),htk,?_⟩
  dsimp only
  refine(Cx.start ps).tok rfl fun H2 y2 hb2 c2=>?_
  refine⟨kd,lcO hb2 rfl,?_⟩
  have fin:k00 PP fq164 #[(.pointer (some ⟨E.p,0,none⟩))] H2 ⟨Nat,fun x=>(.tuple #[(.pointer (some ⟨x,0,none⟩)),nI])⟩ fun(x30:Nat) H31=>
   rk [(.iface tq102 (.pointer (some ⟨x30,0,none⟩))),nI] H31 fun v H'=> ∃x,v=N2v x∧Cx E H H' (u::r) (ValQ x t):=by
   refine c2.call (kaj E kd t.n.text u r) fun b H3 _ c3=>?_
   refine rkI ⟨(tq102,b),rfl,c3.weak fun G hG=>?_⟩
   obtain⟨_,lb,h1,h2⟩:=hG
   exact⟨kkI h1 h2 hk (k4E hf.2 (by omega)) hal (hleaf (by omega)) hw,.inr (.inr (.inr (.inl rfl)))⟩
  rcases hkd with rfl|rfl
  ·repeat refine fkI (fun hh=>absurd hh (by decide)) (fun _=>?_)
   exact fkI (fun _=>fin) (fun hh=>absurd hh (by decide))
  ·repeat refine fkI (fun hh=>absurd hh (by decide)) (fun _=>?_)
   exact fkI (fun _=>fin) (fun hh=>absurd hh (by decide))
 ·have hkv:kvs t=[nmK (if t.n.flag=0 then k2I else k37)]:=by rw[k0z];simp[k0r,k0E,hk]
  have hfl:=kc2 hf hk
  rw[hkv,List.singleton_append] at ps
  obtain⟨st,en,htk⟩:=ps.tok
  have hx:=k4E hf.2 (n:=t.n) (by omega)
  have htx:t.n.text=eB:=by
   cases hf.2<;>first|assumption|(exfalso;omega)
  rcases hfl with hfl|hfl
  ·rw[if_pos hfl] at ps htk
   refine⟨(15,(st:Int),(en:Int),k2I),htk,?_⟩
   dsimp only
   refine(Cx.start ps).tok rfl fun H2 y2 hb2 c2=>?_
   refine⟨(15:Int),lcO hb2 rfl,?_⟩
   repeat refine fkI (fun hh=>absurd hh (by decide)) (fun _=>?_)
   refine fkI (fun _=>?_) (fun hh=>absurd hh (by decide))
   refine⟨(true,()),⟨k2I,lcO hb2 rfl,fkI (fun hh=>(k0N (by decide) hh).elim) (fun _=>⟨k2I,lcO hb2 rfl,by rw[k0t,decide_eq_true rfl],rfl⟩)⟩,?_⟩
   refine fkI (fun _=>?_) (fun hh=>absurd hh (by decide))
   refine c2.call1 (k2q E (nmK k2I) u r) () rfl fun H3 y3 c3=>?_
   have hb3:=y3.get _ _ hb2 (c2.nin (Nat.le_refl _))
   refine⟨_,lcO hb3 rfl,fkI (fun _=>?_) (fun hh=>(k0J hh).elim)⟩
   refine⟨_,lcO hb3 rfl,?_⟩
   refine c3.call (k0D E _ _) fun lb H4 y4 c4=>?_
   refine c4.node (kb7 _ _) fun b H5 _ c5=>?_
   refine rkI ⟨(tq304,b),rfl,c5.weak fun G hG=>?_⟩
   exact⟨kei hG.1.2 hG.2 hk hx htx hal hfl (hleaf (by omega)) hw,.inr (.inr (.inr (.inr (.inl rfl))))⟩
  ·rw[if_neg (by omega)] at ps htk
   refine⟨(15,(st:Int),(en:Int),k37),htk,?_⟩
   dsimp only
   refine(Cx.start ps).tok rfl fun H2 y2 hb2 c2=>?_
   refine⟨(15:Int),lcO hb2 rfl,?_⟩
   repeat refine fkI (fun hh=>absurd hh (by decide)) (fun _=>?_)
   refine fkI (fun _=>?_) (fun hh=>absurd hh (by decide))
   refine⟨(true,()),⟨k37,lcO hb2 rfl,fkI (fun _=>⟨rfl,rfl⟩) (fun hh=>(k0J hh).elim)⟩,?_⟩
   refine fkI (fun _=>?_) (fun hh=>absurd hh (by decide))
   refine c2.call1 (k2q E (nmK k37) u r) () rfl fun H3 y3 c3=>?_
   have hb3:=y3.get _ _ hb2 (c2.nin (Nat.le_refl _))
   refine⟨_,lcO hb3 rfl,fkI (fun hh=>(k0N (by decide) hh).elim) (fun _=>?_)⟩
   refine⟨_,lcO hb3 rfl,?_⟩
   refine c3.call (k0D E _ _) fun lb H4 y4 c4=>?_
   refine c4.node (kb7 _ _) fun b H5 _ c5=>?_
   refine rkI ⟨(tq304,b),rfl,c5.weak fun G hG=>?_⟩
   exact⟨kei (v:=true) hG.1.2 hG.2 hk hx htx hal hfl (hleaf (by omega)) hw,.inr (.inr (.inr (.inr (.inl rfl))))⟩
 ·have hkv:kvs t=[nmK t.n.name]:=by rw[k0z];simp[k0r,k0E,hk]
  obtain⟨n1,n2,n3⟩:t.n.name≠k37∧t.n.name≠k2I∧t.n.name≠kd3:=by
   cases hf.2<;>first|exact⟨by assumption,by assumption,by assumption⟩|(exfalso;omega)
  rw[hkv,List.singleton_append] at ps
  obtain⟨st,en,htk⟩:=ps.tok
  refine⟨(15,(st:Int),(en:Int),t.n.name),htk,?_⟩
  dsimp only
  refine(Cx.start ps).tok rfl fun H2 y2 hb2 c2=>?_
  refine⟨(15:Int),lcO hb2 rfl,?_⟩
  repeat refine fkI (fun hh=>absurd hh (by decide)) (fun _=>?_)
  refine fkI (fun _=>?_) (fun hh=>absurd hh (by decide))
  have f1:(t.n.name.toList==(bs [116,114,117,101]).toList)=false:=by rw[k0t];simpa using n1
  have f2:(t.n.name.toList==(bs [102,97,108,115,101]).toList)=false:=by rw[k0t];simpa using n2
  have f3:(t.n.name.toList==(bs [110,117,108,108]).toList)=false:=by rw[k0t];simpa using n3
  refine⟨(false,()),⟨_,lcO hb2 rfl,fkI (fun hh=>by rw[f1] at hh;cases hh) (fun _=>⟨_,lcO hb2 rfl,by rw[f2],rfl⟩)⟩,?_⟩
  refine fkI (fun hh=>absurd hh (by decide)) (fun _=>?_)
  refine⟨_,lcO hb2 rfl,fkI (fun _=>?_) (fun hh=>by rw[f3] at hh;cases hh)⟩
  refine c2.call1 (k2q E (nmK t.n.name) u r) () rfl fun H3 y3 c3=>?_
  have hb3:=y3.get _ _ hb2 (c2.nin (Nat.le_refl _))
  refine⟨_,lcO hb3 rfl,_,lcO hb3 rfl,?_⟩
  refine c3.call (k0D E _ _) fun lb H4 y4 c4=>?_
  refine⟨lcO (y4.get _ _ hb3 (c2.nin (Nat.le_refl _))) rfl,?_⟩
  refine c4.node (keY _ _) fun b H5 _ c5=>?_
  refine rkI ⟨(tq307,b),rfl,c5.weak fun G hG=>?_⟩
  exact⟨kkD hG.1.2 hG.2 hk (k1l hf.2 (by omega)) hal (hleaf (by omega)) hw,.inr (.inr (.inr (.inr (.inr (.inl rfl)))))⟩
 ·obtain⟨l,hkv⟩: ∃l,kvs t++u::r=kSL::l:=⟨_,by rw[k0z];simp[k0r,k0E,hk];rfl⟩
  have hks: ∀x∈t.ks,k0n x.n=true:=by
   cases hs with
   |list _ h=>exact h
   |_=>omega
  have ps':=ps
  rw[hkv] at ps'
  obtain⟨st,en,htk⟩:=ps'.tok
  refine⟨(10,(st:Int),(en:Int),eB),htk,?_⟩
  dsimp only
  refine(Cx.start ps).tok rfl fun H2 y2 hb2 c2=>?_
  refine⟨(10:Int),lcO hb2 rfl,?_⟩
  refine fkI (fun _=>?_) (fun hh=>absurd hh (by decide))
  refine c2.call (kis E c t hk hg hw hl (fun k hkm=>kal E c k (hks k hkm) (hg.kid hkm) (hw.kid hkm) (by have:=k7T hkm;omega) (fun h=>(hfx h).kid hkm)) u r) fun b H3 _ c3=>?_
  exact rkI ⟨(tq309,b),rfl,c3.weak fun G hG=>⟨hG.2,.inr (.inr (.inr (.inr (.inr (.inr (.inl rfl))))))⟩⟩
 ·obtain⟨l,hkv⟩: ∃l,kvs t++u::r=kBL::l:=⟨_,by rw[k0z];simp[k0r,k0E,hk];rfl⟩
  have hks:InK [19] t.ks:=by
   cases hs with
   |object _ h=>exact h
   |_=>omega
  have ps':=ps
  rw[hkv] at ps'
  obtain⟨st,en,htk⟩:=ps'.tok
  refine⟨(12,(st:Int),(en:Int),eB),htk,?_⟩
  dsimp only
  refine(Cx.start ps).tok rfl fun H2 y2 hb2 c2=>?_
  refine⟨(12:Int),lcO hb2 rfl,?_⟩
  refine fkI (fun hh=>absurd hh (by decide)) (fun _=>?_)
  refine fkI (fun _=>?_) (fun hh=>absurd hh (by decide))
  refine c2.call (kiv E c t hk hg hw hl (fun k hkm u' r'=>?_) u r) fun b H3 _ c3=>?_
  ·have h19:k.n.kind=19:=by simpa using hks k hkm
   obtain⟨v,hv1,hv2⟩: ∃v,k.ks=[v]∧k0n v.n=true:=by
    cases(hg.kid hkm).self.2 with
    |argument v _ h1 h2=>exact⟨v,h1,h2⟩
    |_=>omega
   have hvm:v∈k.ks:=by rw[hv1];simp
   exact kiu E c k v h19 hv1 hv2 (hg.kid hkm).self.1 (hw.kid hkm) (kal E c v hv2 ((hg.kid hkm).kid hvm) ((hw.kid hkm).kid hvm) (by have:=k7T hkm;have:=k7T hvm;omega) (fun h=>((hfx h).kid hkm).kid hvm)) u' r'
  ·exact rkI ⟨(tq313,b),rfl,c3.weak fun G hG=>⟨hG.2,.inr (.inr (.inr (.inr (.inr (.inr (.inr rfl))))))⟩⟩
 termination_by SizeOf.sizeOf t
 decreasing_by
 all_goals
  cases t with|node n ks=>
  simp only[Tr.ks] at*
  first
   |(have:=List.sizeOf_lt_of_mem hkm;cases k with|node n2 ks2=>simp only[] at*;have:=List.sizeOf_lt_of_mem hvm;simp at*;omega)
   |(have:=List.sizeOf_lt_of_mem hkm;simp;omega)
def Fine (t:Tr):Prop:=Good t∧Ws t∧(flat t).length≤400
theorem Fine.kid {t k:Tr} (h:Fine t) (hk:k∈t.ks):Fine k:=⟨h.1.kid hk,h.2.1.kid hk,by have:=k7T hk;have:=h.2.2;omega⟩
theorem Fine.val (E:PEnv) (c:Bool) {t:Tr} (h:Fine t) (ht:k0n t.n=true) (hfx:c=true→k1K t):PVal E c t:=kal E c t ht h.1 h.2.1 h.2.2 hfx
theorem Fine.typ (E:PEnv) {t:Tr} (h:Fine t) (ht:k0q t.n=true) (u:KV) (r:List KV) (hu:u.1≠2):
 POk E fq151 #[.pointer (some ⟨E.p,0,none⟩)] (kvs t++u::r) (u::r) N2v fun x G=>k1L x.1 x.2 (flat t) G:=kak E t ht h.1 h.2.1 u r hu
theorem Fine.few {t:Tr} (h:Fine t):t.ks.length≤400:=k9B h.2.2
abbrev ifP (T:Nat) (b:Nat):Value:= .tuple #[.iface T (.pointer (some ⟨b,0,none⟩)),nI]
theorem k0P (l:List KV) (u:KV) (r:List KV): ∃a b,l++u::r=a::b:=by
 cases l with
 |nil=>exact⟨_,_,rfl⟩
 |cons a b=>exact⟨_,_,rfl⟩
theorem k6H (T eT:Nat) (_he:k15 eT) {f:FuncId} {E:PEnv} {ok ck:Int} {z:Bool} {Q:Nat→Tr→Heap→Prop} (Fo:KV→Prop) {l:List Tr} (hlen:l.length≤400) (hne:l≠ [])
 (hP: ∀t∈l,∀(u:KV) (r:List KV),Fo u→POk E f #[.pointer (some ⟨E.p,0,none⟩)] (kvs t++u::r) (u::r) (ifP T) fun b G=>Q b t G)
 (hF: ∀t∈l,∃h r,kvs t=h::r∧Fo h∧h.1≠ck) (hc:Fo (ck,eB)) {u:KV} {r:List KV} {H:Heap} (ps:PS E H ((ok,eB)::(l.flatMap kvs++(ck,eB)::u::r)))
 {args:Array Value} (hRev: ∀R,k1q.W f E.p ok ck z H R→Fn PP fq139 args H R) {K:Sl→Heap→Prop}
 (hk: ∀(x:Sl) (bs:List Nat) (H':Heap),bs.length=l.length→(Cx E H H' (u::r) fun G=>SlAt x (bs.map fun b=>ifV (T,b)) G∧All2 (fun b t=>Q b t G) bs l)→K x H'):
 k00 PP fq139 args H ⟨Sl,fun x=>(.tuple #[(.slice x.1 x.2.1 x.2.2),nI])⟩ K:=by
 have h:=hRev _ (k8k f E ok ck z kvs (fun x t G=>x.1=T∧Q x.2 t G) Fo l (by omega) (fun _=>hne) (fun t ht u r hu H ps=>by
  refine(hP t ht u r hu H ps).mono ?_
  rintro _ H' ⟨b,rfl,c⟩
  exact⟨(T,b),rfl,c.weak fun G hG=>⟨rfl,hG⟩⟩) hF hc u r H ps)
 refine h.mono ?_
 rintro v H' ⟨x,bs,rfl,c⟩
 have ht:=c.self.2.left (P:=fun b=>b.1=T) fun _ _ h=>h.1
 have hl:=c.self.2.len
 refine⟨x,rfl,hk x (bs.map (·.2)) H' (by simpa using hl) (c.weak fun G hG=>⟨?_,All2.map (hG.2.imp fun _ _ h=>h.2)⟩)⟩
 rw[←kfP ht]
 exact hG.1
theorem k9D {t v:Tr} (hk:t.n.kind=9) (hks:t.ks=[v]) (hv:k0n v.n=true):kvs t=nmK t.n.name::kCol::kvs v:=by
 rw[k0z];simp[k0r,hk,hks,kvL,k12,hv,optK]
theorem k95 {t:Tr} (h:Good t) (hk:t.n.kind=9): ∃v,t.ks=[v]∧k0n v.n=true:=by
 cases h.self.2 with
 |argument v _ h1 h2=>exact⟨v,h1,h2⟩
 |_=>omega
theorem kda (E:PEnv) (t:Tr) (hk:t.n.kind=9) (hf:Fine t) (u:KV) (r:List KV):
 POk E fq114 #[.pointer (some ⟨E.p,0,none⟩)] (kvs t++u::r) (u::r) (ifP tq96) fun b G=>k4y b t G:=by
 intro H ps
 obtain⟨v,hks,hvv⟩:=k95 hf.1 hk
 rw[k9D hk hks hvv,List.cons_append,List.cons_append] at ps
 refine parseArgument.enter _ H _ ?_
 unfold parseArgument.W
 obtain⟨st,hst,_⟩:=ps.start
 refine⟨_,hst,?_⟩
 refine(Cx.start ps).call (k1p E t.n.name _ _) fun nb H1 _ c1=>?_
 obtain⟨w1,w2,hw12⟩:=k0P (kvs v) u r
 rw[hw12] at c1
 refine c1.call (k1R E kCol w1 w2 7 rfl) fun x H2 _ c2=>?_
 rw[←hw12] at c2
 refine c2.call (p:=N2p) ((hf.kid (by rw[hks];simp)).val E false hvv (fun h=>by cases h) u r) fun x H3 _ c3=>?_
 refine c3.call (k0D E _ _) fun lb H4 _ c4=>?_
 refine c4.node (keT _ _ _) fun b H5 _ c5=>?_
 refine rkI ⟨b,rfl,c5.weak fun G hG=>?_⟩
 obtain⟨⟨⟨⟨⟨_,hn⟩,_⟩,hV⟩,hl⟩,hbG⟩:=hG
 exact⟨lb,nb,x.1,x.2,v,hl,hn,hbG,hV.1,hks,hk,k0R hf.1.self.1 (by omega),k1l hf.1.self.1.2 (by omega),hf.2.1⟩
theorem SlAt.zero (a:OA) (c:Nat) (G:Heap):SlAt (a,0,c) [] G:=⟨rfl,.inl rfl⟩
theorem k2V (b e:Option KV):brK b e []=[]:=by simp[brK]
theorem k2W {b e:KV} {l:List Tr} (h:l≠ []) (u:KV) (r:List KV):brK (some b) (some e) l++u::r=b::(l.flatMap kvs++e::u::r):=by simp[brK,h,optK,kvF]
theorem kdb (E:PEnv) (l:List Tr) (hK:InK [9] l) (hf: ∀t∈l,Fine t) (hlen:l.length≤400) (u:KV) (r:List KV) (hu:u.1≠4):
 POk E fq173 #[.pointer (some ⟨E.p,0,none⟩)] (brK (some kPL) (some kPR) l++u::r) (u::r) slV fun x G=>k0O fq64 x (k0a l) G:=by
 intro H ps
 refine parseArguments.enter _ H _ ?_
 unfold parseArguments.W
 refine nbI fun H1 e1 hb1 x1 s1=>?_
 have c1:=((Cx.start ps).add (F':=fun _=>True) x1 fun _ _=>trivial).weak fun _ h=>h.1
 by_cases hl:l=[]
 ·subst hl
  rw[k2V,List.nil_append] at c1
  refine c1.call1 (k1k E u r 4) (u.1==4) rfl fun H2 _ c2=>?_
  refine fkI (fun hh=>by simp[hu] at hh) (fun _=>rkI ⟨(some ⟨H.size,0,none⟩,0,0),rfl,c2.weak fun G _=>?_⟩)
  exact kek (bs:=[]) (SlAt.zero _ _ _) .nil
 ·rw[k2W hl] at c1
  refine c1.call1 (k1k E kPL _ 4) true rfl fun H2 y2 c2=>?_
  refine fkI (fun _=>?_) (fun hh=>absurd hh (by decide))
  have hb2:=y2.get _ _ hb1 (c1.nin (Nat.le_refl _))
  refine k6H tq96 tq96 (by unfold k15;decide) (Q:=fun b t G=>k4y b t G) (fun _=>True) hlen hl (fun t ht u' r' _=>kda E t (by simpa using hK t ht) (hf t ht) u' r') (fun t ht=>?_) trivial c2.ps (fun R h=>kjJ.enter _ _ _ _ _ R h) fun x bs H3 hbl c3=>?_
  ·obtain⟨v,h1,h2⟩:=k95 (hf t ht).1 (by simpa using hK t ht)
   exact⟨_,_,k9D (by simpa using hK t ht) h1 h2,trivial,by simp⟩
  have hb3:=c3.ext.get _ _ hb2 (c1.nin (Nat.le_refl _))
  refine k5r tq96 tq96 (by unfold k15;decide) E c3 (by omega) c2.ext ps.lt (Ext.refl _ _) hb3 (Nat.le_refl _) (.inl (k0l hb2)) (K:=fun y H'=>rk [(.slice y.1 y.2.1 y.2.2),nI] H' _) fun y H4 c4=>?_
  exact rkI ⟨y,rfl,c4.weak fun G hG=>kek hG.1 hG.2⟩
theorem k4M {t:Tr} (hk:t.n.kind=10) (hK:InK [9] t.ks):kvs t=kAt::nmK t.n.name::brK (some kPL) (some kPR) t.ks:=by
 rw[k0z];simp only[k0r,hk];simp[k0T (k0Q hK (K:=[9]) (by simp))]
theorem k4H {t:Tr} (h:Good t) (hk:t.n.kind=10):InK [9] t.ks:=by
 cases h.self.2 with
 |directive _ h1=>exact h1
 |_=>omega
theorem kde (E:PEnv) (t:Tr) (hk:t.n.kind=10) (hf:Fine t) (u:KV) (r:List KV) (hu:u.1≠4):
 POk E fq115 #[.pointer (some ⟨E.p,0,none⟩)] (kvs t++u::r) (u::r) P1v fun b G=>k3V b t G:=by
 intro H ps
 have hK:=k4H hf.1 hk
 rw[k4M hk hK,List.cons_append,List.cons_append] at ps
 refine parseDirective.enter _ H _ ?_
 unfold parseDirective.W
 obtain⟨st,hst,_⟩:=ps.start
 refine⟨_,hst,?_⟩
 refine(Cx.start ps).call (k1R E kAt _ _ 9 rfl) fun x H1 _ c1=>?_
 obtain⟨w1,w2,hw12⟩:=k0P (brK (some kPL) (some kPR) t.ks) u r
 rw[hw12] at c1
 refine c1.call (k1p E t.n.name w1 w2) fun nb H2 _ c2=>?_
 rw[←hw12] at c2
 refine c2.call (p:=⟨Sl,slV⟩) (kdb E t.ks hK (fun k hk=>hf.kid hk) hf.few u r hu) fun y H3 _ c3=>?_
 refine c3.call (k0D E _ _) fun lb H4 _ c4=>?_
 refine c4.node (keV _ _ _ _ _) fun b H5 _ c5=>?_
 refine rkI ⟨b,rfl,c5.weak fun G hG=>?_⟩
 obtain⟨⟨⟨⟨⟨_,_⟩,hn⟩,hT⟩,hl⟩,hbG⟩:=hG
 exact⟨lb,nb,y,hl,hn,hbG,hT,hk,k0R hf.1.self.1 (by omega),k1l hf.1.self.1.2 (by omega),hf.2.1⟩
theorem k1T (E:PEnv) (l:List Tr) (hK:InK [10] l) (hf: ∀t∈l,Fine t) (hlen:l.length≤400) (u:KV) (r:List KV) (hu:u.1≠4) (hu9:u.1≠9):
 POk E fq138 #[.pointer (some ⟨E.p,0,none⟩)] (kvF l++u::r) (u::r) slV fun x G=>k0O fq65 x (k0a l) G:=by
 intro H ps
 have hhead: ∀k∈l,∃m,kvs k=kAt::m:=fun k hkm=>⟨_,k4M (by simpa using hK k hkm) (k4H (hf k hkm).1 (by simpa using hK k hkm))⟩
 refine parseDirectives.enter _ H _ ?_
 unfold parseDirectives.W
 refine Lst.row0 ps tq99 ptV (fun b k G=>k3V b k G) fun b0 H3 l0=>?_
 refine⟨fun z H'=> ∃(done rest:List Tr) (bs:List Nat),l=done++rest∧Lst E H H' (kvF rest++u::r) tq99 z.1 ptV (fun b k G=>k3V b k G) bs done,fun z _=>l.length -z.1.2.1,⟨[],l,[],rfl,l0⟩,?_⟩
 rintro⟨⟨xa,xn,xc⟩,_⟩ H4 ⟨done,rest,bs,hl4,l4⟩
 dsimp only at l4⊢
 have hn:=l4.own.1
 simp only[List.length_map,Nat.mul_one] at hn
 have hbl:=l4.facts.len
 have hll:=congrArg List.length hl4
 simp only[List.length_append] at hll
 cases rest with
 |nil=>
  simp only[kvF,List.flatMap_nil,List.nil_append] at l4
  refine l4.call1 (k1k E u r 9) (u.1==9) rfl fun H5 l5=>?_
  refine fkI (fun hh=>by simp[hu9] at hh) (fun _=>?_)
  rw[List.append_nil] at hl4
  refine rkI ⟨(xa,xn,xc),rfl,l5.fin.weak fun G hG=>?_⟩
  rw[hl4]
  exact kel hG.1 hG.2
 |cons k rest=>
  have hkm:k∈l:=by rw[hl4];simp
  obtain⟨q,hq⟩:=hhead k hkm
  rw[k4L,List.append_assoc] at l4
  have l4':=l4
  rw[hq,List.cons_append] at l4'
  refine l4'.call1 (k1k E kAt _ 9) true rfl fun H5 l5=>?_
  refine fkI (fun _=>?_) (fun hh=>absurd hh (by decide))
  rw[←List.cons_append,←hq] at l5
  obtain⟨w1,w2,hw12,hw4⟩: ∃w1 w2,kvF rest++u::r=w1::w2∧w1.1≠4:=by
   cases rest with
   |nil=>exact⟨_,_,rfl,hu⟩
   |cons k2 rest2=>
    obtain⟨q2,hq2⟩:=hhead k2 (by rw[hl4];simp)
    exact⟨kAt,_,by rw[k4L,hq2];rfl,by decide⟩
  rw[hw12] at l5
  refine l5.call (kde E k (by simpa using hK k hkm) (hf k hkm) w1 w2 hw4) fun y H6 l6 f6=>?_
  refine l6.push (b:=y) (m:=k) (by unfold k15;decide) (fun _=>rfl) 8 (by decide) (by omega) f6 fun a c H7 l7=>?_
  rw[←hw12] at l7
  refine⟨⟨done++[k],rest,bs++[y],by rw[hl4];simp,l7⟩,?_⟩
  simp only[List.length_cons] at hll
  omega
def k22 (f:FuncId) (eT:TypeId) (xb:Nat) (X:List Nd) (G:Heap):Prop:= ∀(H:Heap) (tk c1 c2:Nat) (D:List Nd),TkAt G H tk D→D.length+X.length≤5000→
 H[c1]?=some (.cells #[.pointer (some ⟨tk,0,none⟩)] tq60)→H[c2]?=some (.cells #[.pointer (some ⟨xb,0,none⟩)] eT)→
 Fn PP f #[.pointer (some ⟨c1,0,none⟩),.pointer (some ⟨c2,0,none⟩)] H (Took G tk H D X)
structure ItemAt (fcl:FuncId) (eT:TypeId) (kd:Int) (ni:Nat) (b:Nat) (t:Tr) (G:Heap):Prop where
 cells: ∃(lb nb:Nat) (c:Array Value) (e:TypeId),k0B lb G∧k0W nb t.n.name G∧G[b]?=some (.cells c e)∧c[1]?=some (.pointer (some ⟨lb,0,none⟩))∧c[ni]?=some (.pointer (some ⟨nb,0,none⟩))
 close:k22 fcl eT b (k0a t.ks) G
 kind:t.n.kind=kd
 alias_:t.n.alias=eB
 text_:t.n.text=eB
 ws:Ws t
theorem ka3 {H:Heap} {b i:Nat} {c:Array Value} {e:TypeId} {fr:Nat×Nat} {v:Value} (hb:H[b]?=some (.cells c e fr)) (hi:c[i]?=some v):k07 H false 1 ⟨b,i,none⟩=some v:=by
 simp[k07,k1a,hb,hi]
def k4B (fcl:FuncId):Prop:= ∀(t l:Nat) (x:Nd) (c1 c2:Nat) (H:Heap) (R:Value→Heap→Prop),putG.W fcl t l x c1 c2 H R→
 Fn PP fq67 #[.pointer (some ⟨t,0,none⟩),.pointer (some ⟨l,0,none⟩),.agg x.val,.func (.func fcl) #[] #[.pointer (some ⟨c1,0,none⟩),.pointer (some ⟨c2,0,none⟩)]] H R
def k0V (e:TypeId):Prop:=e≠tq63∧e≠tq41∧e≠tq65
def k84 (fcl:FuncId) (kd:Int) (ni c1 c2:Nat) (H:Heap) (K:Heap→Prop):Prop:=
 k01 H false 1 ⟨c1,0,none⟩ pPtr fun(x10:OA)=>
 k01 H false 1 ⟨c2,0,none⟩ pBlk fun(x11:Nat)=>
 k01 H false 1 ⟨x11,1,none⟩ pPtr fun(x12:OA)=>
 k01 H false 1 ⟨c2,0,none⟩ pBlk fun(x13:Nat)=>
 k01 H false 1 ⟨x13,ni,none⟩ pPtr fun(x14:OA)=>
 k00 PP fq69 #[(.pointer x14)] H pStr fun(x15:BA) H16=>
 k07 H16 false 1 ⟨x11,1,none⟩=some (.pointer x12)∧
 k07 H16 false 1 ⟨c2,0,none⟩=some (.pointer (some ⟨x11,0,none⟩))∧
 k07 H16 false 1 ⟨c1,0,none⟩=some (.pointer x10)∧
 k00 PP fq67 #[(.pointer x10),(.pointer x12),(.agg #[(.int .i64 kd),(.string x15),sE,sE,(.int .i64 0),(.int .i64 0)]),(.func (.func fcl) #[] #[(.pointer (some ⟨c1,0,none⟩)),(.pointer (some ⟨c2,0,none⟩))])] H16 ⟨Unit,fun _=>(.tuple #[])⟩ fun(_:Unit) H18=>
 k07 H18 false 1 ⟨c2,0,none⟩=some (.pointer (some ⟨x13,0,none⟩))∧K H18
section
variable {G H:Heap} {tk b c1 c2 ni:Nat} {D:List Nd} {fcl:FuncId} {eT:TypeId} {kd:Int} {t:Tr}
theorem k85 (hput:k4B fcl) (hE:k0V eT) (hkd:kd≠15) (hI:ItemAt fcl eT kd ni b t G) (h:TkAt G H tk D) (hD:D.length+(flat t).length≤5000)
 (h1:H[c1]?=some (.cells #[.pointer (some ⟨tk,0,none⟩)] tq60)) (h2:H[c2]?=some (.cells #[.pointer (some ⟨b,0,none⟩)] eT)) {K:Heap→Prop}
 (hk: ∀(H':Heap) (Z:List Nd),KpT H H'→Sames Z (flat t)→TkAt G H' tk (D++Z)→K H'):k84 fcl kd ni c1 c2 H K:=by
 obtain⟨⟨lb,nb,c,e,hl,⟨lb3,_,hnm⟩,hb,hi1,hi2⟩,hclose,hkind,hal,htx,hw⟩:=hI
 obtain⟨ls,le,lq,hl⟩:=hl
 have hfl:(flat t).length=1+(k0a t.ks).length:=by rw[k1S];simp;omega
 have bx:=h.ext.get _ _ hb (by simp)
 unfold k84
 refine⟨_,lcO h1 rfl,_,lcO h2 rfl,_,ka3 bx hi1,_,lcO h2 rfl,_,ka3 bx hi2,?_⟩
 refine(k2R nb t.n.name H (h.ext.get _ _ hnm (by simp))).mono ?_
 rintro _ _ ⟨rfl,rfl⟩
 refine⟨_,rfl,ka3 bx hi1,lcO h2 rfl,lcO h1 rfl,?_⟩
 refine(hput tk lb ⟨kd,t.n.name,eB,eB,0,0⟩ c1 c2 H _ (k2c fcl h (by omega) lb hl ⟨kd,t.n.name,eB,eB,0,0⟩ c1 c2 (P:=fun W=>Sames W (k0a t.ks)) fun H10 k10 t10=>?_)).mono ?_
 ·refine(hclose H10 tk c1 c2 _ t10 (by simp only[List.length_append,List.length_cons,List.length_nil];omega) (k10.get _ _ _ _ h1 (by decide) (by decide) (by decide)) (k10.get _ _ _ _ h2 hE.1 hE.2.1 hE.2.2)).mono ?_
  intro v' H11 hT
  exact hT.within (by omega)
 ·rintro _ H11 ⟨rfl,k11,W,hW,t11⟩
  refine⟨(),rfl,lcO (k11.get _ _ _ _ h2 hE.1 hE.2.1 hE.2.2) rfl,?_⟩
  exact hk H11 _ k11 (k2C hw hW ⟨kd,t.n.name,eB,eB,0,0⟩ hkind.symm rfl hal.symm htx.symm (by simpa using hkd)) t11
def kcc (fcl:FuncId) (eT:TypeId) (kd:Int) (ni t v:Nat) (H:Heap) (R:Value→Heap→Prop):Prop:=
 newB H (.cells #[(.pointer (some ⟨t,0,none⟩))] tq60) fun b1 H2=>
 newB H2 (.cells #[(.pointer none)] eT) fun b3 H4=>
 k08 H4 ⟨b3,0,none⟩ [(.pointer (some ⟨v,0,none⟩))] fun H5=>
 k84 fcl kd ni b1 b3 H5 fun H18=>rk [] H18 R
theorem k3q (hput:k4B fcl) (hE:k0V eT) (hkd:kd≠15) (hI:ItemAt fcl eT kd ni b t G) (h:TkAt G H tk D) (hD:D.length+(flat t).length≤5000):kcc fcl eT kd ni tk b H (Took G tk H D (flat t)):=by
 unfold kcc
 refine caps h b eT fun b1 b3 H5 x5 t5 h1 h3=>?_
 refine k85 hput hE hkd hI t5 hD h1 h3 fun H' Z k hZ ht=>?_
 exact rkI ⟨rfl,x5.kpT.trans k,Z,hZ,ht⟩
def k3M (fcl:FuncId) (eT:TypeId) (kd:Int) (ni t:Nat) (l:OA) (lN:Nat) (H:Heap) (R:Value→Heap→Prop):Prop:=
 newB H (.cells #[(.pointer (some ⟨t,0,none⟩))] tq60) fun b1 H2=>
 k0e (Int×Unit) (0,()) H2 fun z3 H4 next5=>
 k02 (decide (z3.1<((lN:Nat):Int)))
 ((IxOk l z3.1 lN)∧
   k01 H4 false 1 ⟨(k0c l),(k0b l+z3.1.toNat*1),none⟩ pBlk fun(x6:Nat)=>
   newB H4 (.cells #[(.pointer none)] eT) fun b7 H8=>
   k08 H8 ⟨b7,0,none⟩ [(.pointer (some ⟨x6,0,none⟩))] fun H9=>
   k84 fcl kd ni b1 b7 H9 fun H18=>
   next5 ((IntKind.i64.wrap (z3.1+1)),()) H18)
 (rk [] H4 R)
def SlK (G H:Heap) (tk:Nat) (x:Sl) (vs:List Value):Prop:= ∀(H':Heap) (D':List Nd),KpT H H'→TkAt G H' tk D'→SlAt x vs H'
theorem kcQ (hput:k4B fcl) (hE:k0V eT) (hkd:kd≠15) {x:Sl} {bs:List Nat} {ts:List Tr} (hs:SlK G H tk x (bs.map ptV)) (hv:All2 (fun b k=>ItemAt fcl eT kd ni b k G) bs ts)
 (h:TkAt G H tk D) (hD:D.length+(k0a ts).length≤5000):k3M fcl eT kd ni tk x.1 x.2.1 H (Took G tk H D (k0a ts)):=by
 obtain⟨a,n,c⟩:=x
 have hnl:n=ts.length:=by have:=(hs H D (KpT.refl H) h).1;simp at this;rw[this,hv.len]
 have hks:ts.length≤(k0a ts).length:=k2v ts
 unfold k3M
 refine nbI fun H1 e1 hb1 x1 s1=>?_
 refine k2Q ts n hnl (by omega) (KpT.refl H1) (h.grow x1) (fun k kt H8 Y next hi k8 hY t8 hnext=>?_) (fun H8 Y k8 hY t8=>rkI ⟨rfl,x1.kpT.trans k8,Y,hY,t8⟩) (fun k H8 next=>rfl)
 obtain⟨xb,hxi,hI⟩:=hv.get k kt hi
 have hL:=(hs H8 _ (x1.kpT.trans k8) t8).load (i:=k) (v:=ptV xb) (by simp[hxi])
 have hlen:=k2J ts (k+1)
 rw[k3o ts k kt hi,List.length_append] at hlen
 have hYl:=hY.len
 refine⟨hL.1,xb,hL.2,?_⟩
 refine cap1 t8 xb eT fun b9 H9 x9 t9 h9=>?_
 have k9:=k8.trans x9.kpT
 refine k85 hput hE hkd hI t9 (by simp only[List.length_append];omega) (k9.get _ _ _ _ hb1 (by decide) (by decide) (by decide)) h9 fun H11 Z k11 hZ t11=>?_
 rw[k0h (k:=k) (by have:=(List.getElem?_eq_some_iff.1 hi).1;omega)]
 exact hnext H11 Z (k9.trans k11) hZ t11
end
theorem SlAt.slK {G H:Heap} {tk:Nat} {x:Sl} {vs:List Value} (h:SlAt x vs G):SlK G H tk x vs:=fun _ _ _ t=>h.keep t.ext
theorem k8C {G:Heap} {x:Sl} {bs:List Nat} {ts:List Tr} {fcl:FuncId} {eT:TypeId} {kd:Int} {ni:Nat} {f:FuncId} (hput:k4B fcl) (hE:k0V eT) (hkd:kd≠15)
 (hent: ∀(t:Nat) (l:OA) (lN lC:Nat) (H:Heap) (R:Value→Heap→Prop),k3M fcl eT kd ni t l lN H R→Fn PP f #[.pointer (some ⟨t,0,none⟩),.slice l lN lC] H R)
 (hs:SlAt x (bs.map ptV) G) (hv:All2 (fun b k=>ItemAt fcl eT kd ni b k G) bs ts):k0O f x (k0a ts) G:=
 fun H tk _D h hD=>hent tk x.1 x.2.1 x.2.2 H _ (kcQ hput hE hkd hs.slK hv h hD)
theorem Took.part {G H H':Heap} {tk:Nat} {D X:List Nd} {v:Value} (h:Took G tk H D X v H'):v= .tuple #[]∧ ∃Y,Sames Y X∧TkAt G H' tk (D++Y):=⟨h.1,h.2.2⟩
theorem k9u: ∀(t:Nat) (l:OA) (lN lC:Nat) (H:Heap) (R:Value→Heap→Prop),k3M fq123 tq120 30 2 t l lN H R→Fn PP fq71 #[.pointer (some ⟨t,0,none⟩),.slice l lN lC] H R:=
 fun t l lN lC H R h=>k7V.enter t l lN lC H R h
theorem k9j: ∀(t:Nat) (l:OA) (lN lC:Nat) (H:Heap) (R:Value→Heap→Prop),k3M fq122 tq117 29 2 t l lN H R→Fn PP fq70 #[.pointer (some ⟨t,0,none⟩),.slice l lN lC] H R:=
 fun t l lN lC H R h=>k7R.enter t l lN lC H R h
def k1V (x:OA) (X:List Nd) (G:Heap):Prop:= ∀(H:Heap) (tk:Nat) (D:List Nd),TkAt G H tk D→D.length+X.length≤5000→
 Fn PP fq66 #[.pointer (some ⟨tk,0,none⟩),.pointer x] H (Took G tk H D X)
theorem kkw (G:Heap):k1V none [] G:=by
 intro H tk D h _
 refine k49.enter tk H _ ?_
 unfold k49.W
 exact rkI (Took.zero h)
theorem kef {b:Nat} {t:Tr} {G:Heap} (h:kbf b t.n.text G) (hk:t.n.kind=23) (hn:t.n.name=eB) (ha:t.n.alias=eB) (hks:t.ks=[]) (hw:Ws t):k1V (some ⟨b,0,none⟩) (flat t) G:=by
 intro H tk D ht hD
 obtain⟨lb,hl,hb⟩:=h
 refine k5C.enter tk b H _ ?_
 unfold k5C.W
 have bx:=ht.ext.get _ _ hb (by simp)
 refine⟨_,lcO bx rfl,_,lcO bx rfl,?_⟩
 exact k3s ht (by omega) (KpT.refl H) lb hl ⟨23,eB,eB,t.n.text,0,0⟩ (k2B hks hw _ hk.symm hn.symm ha.symm rfl (fun h=>by simp at h))
section
variable {G:Heap} {b lb nb:Nat} {t:Tr}
def k7E (b:Nat) (t:Tr) (G:Heap):Prop:= ∃(lb nb:Nat) (xd:OA) (xs:Sl) (de ds:List Tr) (k0:Value),k0B lb G∧k0W nb t.n.name G∧
 G[b]?=some (.cells #[k0,.pointer (some ⟨lb,0,none⟩),.pointer (some ⟨nb,0,none⟩),.pointer xd,.slice xs.1 xs.2.1 xs.2.2] tq125)∧k1V xd (k0a de) G∧k0O fq65 xs (k0a ds) G∧t.ks=de++ds∧t.n.kind=35∧t.n.alias=eB∧t.n.text=eB∧Ws t
theorem kgN {xd:OA} {xs:Sl} {de ds:List Tr} {k0:Value} (hl:k0B lb G) (hn:k0W nb t.n.name G)
 (hb:G[b]?=some (.cells #[k0,.pointer (some ⟨lb,0,none⟩),.pointer xd,.pointer (some ⟨nb,0,none⟩),.slice xs.1 xs.2.1 xs.2.2] tq234))
 (hd:k1V xd (k0a de) G) (hs:k0O fq65 xs (k0a ds) G) (hks:t.ks=de++ds) (hk:t.n.kind=26) (ha:t.n.alias=eB) (hx:t.n.text=eB) (hw:Ws t):ItemAt fq186 tq231 26 3 b t G:=by
 refine⟨⟨lb,nb,_,_,hl,hn,hb,rfl,rfl⟩,?_,hk,ha,hx,hw⟩
 intro H tk c1 c2 D ht hD h1 h2
 rw[hks,k0L] at hD⊢
 rw[List.length_append] at hD
 have bx:=ht.ext.get _ _ hb (by simp)
 refine k4i.enter c1 c2 H _ ?_
 unfold k4i.W
 refine⟨_,lcO h1 rfl,_,lcO h2 rfl,_,lcO bx rfl,?_⟩
 refine(hd H tk D ht (by omega)).mono ?_
 rintro _ H5 ⟨rfl,k5,Y,hY,t5⟩
 have q1:=k5.get _ _ _ _ h1 (by decide) (by decide) (by decide)
 have q2:=k5.get _ _ _ _ h2 (by decide) (by decide) (by decide)
 have bx5:=t5.ext.get _ _ hb (by simp)
 have hYl:=hY.len
 refine⟨(),rfl,_,lcO q1 rfl,_,lcO q2 rfl,xs,lcO bx5 rfl,?_⟩
 refine(hs H5 tk _ t5 (by rw[List.length_append];omega)).mono ?_
 intro v' H6 hT
 obtain rfl:=hT.unit
 exact⟨(),rfl,rkI (Took.seq k5 hY hT)⟩
theorem kgO {xs:Sl} {k0:Value} (hl:k0B lb G) (hn:k0W nb t.n.name G)
 (hb:G[b]?=some (.cells #[k0,.pointer (some ⟨lb,0,none⟩),.pointer (some ⟨nb,0,none⟩),.slice xs.1 xs.2.1 xs.2.2] tq197))
 (hs:k0O fq65 xs (k0a t.ks) G) (hk:t.n.kind=7) (ha:t.n.alias=eB) (hx:t.n.text=eB) (hw:Ws t):ItemAt fq126 tq128 7 2 b t G:=by
 refine⟨⟨lb,nb,_,_,hl,hn,hb,rfl,rfl⟩,?_,hk,ha,hx,hw⟩
 intro H tk c1 c2 D ht hD h1 h2
 have bx:=ht.ext.get _ _ hb (by simp)
 refine k5P.enter c1 c2 H _ ?_
 unfold k5P.W
 refine⟨_,lcO h1 rfl,_,lcO h2 rfl,xs,lcO bx rfl,?_⟩
 refine(hs H tk _ ht hD).mono ?_
 intro v' H6 hT
 obtain rfl:=hT.unit
 exact⟨(),rfl,rkI hT⟩
theorem kgG {xd:OA} {xa xs:Sl} {T v:Nat} {de ar ds:List Tr} {ty:Tr} {k0:Value} (hl:k0B lb G) (hn:k0W nb t.n.name G)
 (hb:G[b]?=some (.cells #[k0,.pointer (some ⟨lb,0,none⟩),.pointer (some ⟨nb,0,none⟩),.pointer xd,.slice xa.1 xa.2.1 xa.2.2,.iface T (.pointer (some ⟨v,0,none⟩)),.slice xs.1 xs.2.1 xs.2.2] tq187))
 (hd:k1V xd (k0a de) G) (hA:k0O fq71 xa (k0a ar) G) (hT:k1L T v (flat ty) G) (hs:k0O fq65 xs (k0a ds) G)
 (hks:t.ks=de++(ar++ty::ds)) (hk:t.n.kind=29) (ha:t.n.alias=eB) (hx:t.n.text=eB) (hw:Ws t):ItemAt fq122 tq117 29 2 b t G:=by
 refine⟨⟨lb,nb,_,_,hl,hn,hb,rfl,rfl⟩,?_,hk,ha,hx,hw⟩
 intro H tk c1 c2 D ht hD h1 h2
 rw[hks,k0L,k0L,k4e] at hD⊢
 simp only[List.length_append] at hD
 have bx:=ht.ext.get _ _ hb (by simp)
 refine k5J.enter c1 c2 H _ ?_
 unfold k5J.W
 refine⟨_,lcO h1 rfl,_,lcO h2 rfl,_,lcO bx rfl,?_⟩
 refine(hd H tk D ht (by omega)).mono ?_
 rintro _ H5 ⟨rfl,k5,Y,hY,t5⟩
 have q1:=k5.get _ _ _ _ h1 (by decide) (by decide) (by decide)
 have q2:=k5.get _ _ _ _ h2 (by decide) (by decide) (by decide)
 have bx5:=t5.ext.get _ _ hb (by simp)
 have hYl:=hY.len
 refine⟨(),rfl,_,lcO q1 rfl,_,lcO q2 rfl,xa,lcO bx5 rfl,?_⟩
 refine(hA H5 tk _ t5 (by rw[List.length_append];omega)).mono ?_
 rintro _ H6 ⟨rfl,k6,Z,hZ,t6⟩
 have p1:=k6.get _ _ _ _ q1 (by decide) (by decide) (by decide)
 have p2:=k6.get _ _ _ _ q2 (by decide) (by decide) (by decide)
 have bx6:=t6.ext.get _ _ hb (by simp)
 have hZl:=hZ.len
 refine⟨(),rfl,_,lcO p1 rfl,_,lcO p2 rfl,_,lcO bx6 rfl,?_⟩
 refine(hT H6 tk _ t6 (by simp only[List.length_append];omega)).mono ?_
 rintro _ H7 ⟨rfl,k7,U,hU,t7⟩
 have r1:=k7.get _ _ _ _ p1 (by decide) (by decide) (by decide)
 have r2:=k7.get _ _ _ _ p2 (by decide) (by decide) (by decide)
 have bx7:=t7.ext.get _ _ hb (by simp)
 have hUl:=hU.len
 refine⟨(),rfl,_,lcO r1 rfl,_,lcO r2 rfl,xs,lcO bx7 rfl,?_⟩
 refine(hs H7 tk _ t7 (by simp only[List.length_append];omega)).mono ?_
 intro v' H8 hT
 obtain rfl:=hT.unit
 exact⟨(),rfl,rkI (Took.seq k5 hY (Took.seq k6 hZ (Took.seq k7 hU hT)))⟩
theorem kgI {xd:OA} {xs:Sl} {T v T2 v2:Nat} {de ds:List Tr} {ty va:Tr} {k0:Value} (hl:k0B lb G) (hn:k0W nb t.n.name G)
 (hb:G[b]?=some (.cells #[k0,.pointer (some ⟨lb,0,none⟩),.pointer (some ⟨nb,0,none⟩),.pointer xd,.iface T (.pointer (some ⟨v,0,none⟩)),.iface T2 (.pointer (some ⟨v2,0,none⟩)),.slice xs.1 xs.2.1 xs.2.2] tq189))
 (hd:k1V xd (k0a de) G) (hT:k1L T v (flat ty) G) (hV:k1P T2 v2 (flat va) G) (hs:k0O fq65 xs (k0a ds) G)
 (hks:t.ks=de++(ty::([va]++ds))) (hk:t.n.kind=30) (ha:t.n.alias=eB) (hx:t.n.text=eB) (hw:Ws t):ItemAt fq123 tq120 30 2 b t G:=by
 refine⟨⟨lb,nb,_,_,hl,hn,hb,rfl,rfl⟩,?_,hk,ha,hx,hw⟩
 intro H tk c1 c2 D ht hD h1 h2
 rw[hks,k0L,k4e,List.singleton_append,k4e] at hD⊢
 simp only[List.length_append] at hD
 have bx:=ht.ext.get _ _ hb (by simp)
 refine k5K.enter c1 c2 H _ ?_
 unfold k5K.W
 refine⟨_,lcO h1 rfl,_,lcO h2 rfl,_,lcO bx rfl,?_⟩
 refine(hd H tk D ht (by omega)).mono ?_
 rintro _ H5 ⟨rfl,k5,Y,hY,t5⟩
 have q1:=k5.get _ _ _ _ h1 (by decide) (by decide) (by decide)
 have q2:=k5.get _ _ _ _ h2 (by decide) (by decide) (by decide)
 have bx5:=t5.ext.get _ _ hb (by simp)
 have hYl:=hY.len
 refine⟨(),rfl,_,lcO q1 rfl,_,lcO q2 rfl,_,lcO bx5 rfl,?_⟩
 refine(hT H5 tk _ t5 (by rw[List.length_append];omega)).mono ?_
 rintro _ H6 ⟨rfl,k6,Z,hZ,t6⟩
 have p1:=k6.get _ _ _ _ q1 (by decide) (by decide) (by decide)
 have p2:=k6.get _ _ _ _ q2 (by decide) (by decide) (by decide)
 have bx6:=t6.ext.get _ _ hb (by simp)
 have hZl:=hZ.len
 refine⟨(),rfl,_,lcO p2 rfl,(T2,v2),lcO bx6 rfl,_,lcO p1 rfl,_,lcO p2 rfl,(T2,v2),lcO bx6 rfl,?_⟩
 refine(hV H6 tk _ t6 (by simp only[List.length_append];omega)).mono ?_
 rintro _ H7 ⟨rfl,k7,U,hU,t7⟩
 have r1:=k7.get _ _ _ _ p1 (by decide) (by decide) (by decide)
 have r2:=k7.get _ _ _ _ p2 (by decide) (by decide) (by decide)
 have bx7:=t7.ext.get _ _ hb (by simp)
 have hUl:=hU.len
 refine⟨(),rfl,_,lcO r1 rfl,_,lcO r2 rfl,xs,lcO bx7 rfl,?_⟩
 refine(hs H7 tk _ t7 (by simp only[List.length_append];omega)).mono ?_
 intro v' H8 hT
 obtain rfl:=hT.unit
 exact⟨(),rfl,rkI (Took.seq k5 hY (Took.seq k6 hZ (Took.seq k7 hU hT)))⟩
theorem kgJ {xd:OA} {xs:Sl} {T v:Nat} {de ds:List Tr} {ty:Tr} {k0:Value} (hl:k0B lb G) (hn:k0W nb t.n.name G)
 (hb:G[b]?=some (.cells #[k0,.pointer (some ⟨lb,0,none⟩),.pointer (some ⟨nb,0,none⟩),.pointer xd,.iface T (.pointer (some ⟨v,0,none⟩)),nI,.slice xs.1 xs.2.1 xs.2.2] tq189))
 (hd:k1V xd (k0a de) G) (hT:k1L T v (flat ty) G) (hs:k0O fq65 xs (k0a ds) G)
 (hks:t.ks=de++(ty::([]++ds))) (hk:t.n.kind=30) (ha:t.n.alias=eB) (hx:t.n.text=eB) (hw:Ws t):ItemAt fq123 tq120 30 2 b t G:=by
 refine⟨⟨lb,nb,_,_,hl,hn,hb,rfl,rfl⟩,?_,hk,ha,hx,hw⟩
 intro H tk c1 c2 D ht hD h1 h2
 rw[hks,k0L,k4e,List.nil_append] at hD⊢
 simp only[List.length_append] at hD
 have bx:=ht.ext.get _ _ hb (by simp)
 refine k5L.enter c1 c2 H _ ?_
 unfold k5L.W
 refine⟨_,lcO h1 rfl,_,lcO h2 rfl,_,lcO bx rfl,?_⟩
 refine(hd H tk D ht (by omega)).mono ?_
 rintro _ H5 ⟨rfl,k5,Y,hY,t5⟩
 have q1:=k5.get _ _ _ _ h1 (by decide) (by decide) (by decide)
 have q2:=k5.get _ _ _ _ h2 (by decide) (by decide) (by decide)
 have bx5:=t5.ext.get _ _ hb (by simp)
 have hYl:=hY.len
 refine⟨(),rfl,_,lcO q1 rfl,_,lcO q2 rfl,_,lcO bx5 rfl,?_⟩
 refine(hT H5 tk _ t5 (by rw[List.length_append];omega)).mono ?_
 rintro _ H6 ⟨rfl,k6,Z,hZ,t6⟩
 have p1:=k6.get _ _ _ _ q1 (by decide) (by decide) (by decide)
 have p2:=k6.get _ _ _ _ q2 (by decide) (by decide) (by decide)
 have bx6:=t6.ext.get _ _ hb (by simp)
 have hZl:=hZ.len
 refine⟨(),rfl,_,lcO p2 rfl,(),lcO bx6 rfl,_,lcO p1 rfl,_,lcO p2 rfl,xs,lcO bx6 rfl,?_⟩
 refine(hs H6 tk _ t6 (by simp only[List.length_append];omega)).mono ?_
 intro v' H8 hT
 obtain rfl:=hT.unit
 exact⟨(),rfl,rkI (Took.seq k5 hY (Took.seq k6 hZ hT))⟩
structure VarDAt (b:Nat) (t:Tr) (G:Heap):Prop where
 cells: ∃(lb vb:Nat) (k0 ty va:Value),k0B lb G∧kbi vb t.n.name G∧G[b]?=some (.cells #[k0,.pointer (some ⟨lb,0,none⟩),.pointer (some ⟨vb,0,none⟩),ty,va] tq175)
 close:k22 fq117 tq93 b (k0a t.ks) G
 kind:t.n.kind=4
 alias_:t.n.alias=eB
 text_:t.n.text=eB
 ws:Ws t
theorem kfW {T v T2 v2:Nat} {ty va:Tr} {k0 k1 k2:Value} (hb:G[b]?=some (.cells #[k0,k1,k2,.iface T (.pointer (some ⟨v,0,none⟩)),.iface T2 (.pointer (some ⟨v2,0,none⟩))] tq175))
 (hT:k1L T v (flat ty) G) (hV:k1P T2 v2 (flat va) G) (hks:t.ks=[ty,va]):k22 fq117 tq93 b (k0a t.ks) G:=by
 intro H tk c1 c2 D ht hD h1 h2
 have e:k0a t.ks=flat ty++flat va:=by rw[hks];simp[k0a]
 rw[e] at hD⊢
 rw[List.length_append] at hD
 have bx:=ht.ext.get _ _ hb (by simp)
 refine k65.enter c1 c2 H _ ?_
 unfold k65.W
 refine⟨_,lcO h1 rfl,_,lcO h2 rfl,_,lcO bx rfl,?_⟩
 refine(hT H tk D ht (by omega)).mono ?_
 rintro _ H6 ⟨rfl,k6,Z,hZ,t6⟩
 have p1:=k6.get _ _ _ _ h1 (by decide) (by decide) (by decide)
 have p2:=k6.get _ _ _ _ h2 (by decide) (by decide) (by decide)
 have bx6:=t6.ext.get _ _ hb (by simp)
 have hZl:=hZ.len
 refine⟨(),rfl,_,lcO p2 rfl,(T2,v2),lcO bx6 rfl,_,lcO p1 rfl,_,lcO p2 rfl,(T2,v2),lcO bx6 rfl,?_⟩
 refine(hV H6 tk _ t6 (by simp only[List.length_append];omega)).mono ?_
 intro v' H8 hT
 obtain rfl:=hT.unit
 exact⟨(),rfl,rkI (Took.seq k6 hZ hT)⟩
theorem kfX {T v:Nat} {ty:Tr} {k0 k1 k2:Value} (hb:G[b]?=some (.cells #[k0,k1,k2,.iface T (.pointer (some ⟨v,0,none⟩)),nI] tq175))
 (hT:k1L T v (flat ty) G) (hks:t.ks=[ty]):k22 fq117 tq93 b (k0a t.ks) G:=by
 intro H tk c1 c2 D ht hD h1 h2
 rw[k3O hks] at hD⊢
 have bx:=ht.ext.get _ _ hb (by simp)
 refine k66.enter c1 c2 H _ ?_
 unfold k66.W
 refine⟨_,lcO h1 rfl,_,lcO h2 rfl,_,lcO bx rfl,?_⟩
 refine(hT H tk D ht hD).mono ?_
 intro v' H6 hT
 have t6:=hT.2.2
 obtain rfl:=hT.unit
 obtain⟨_,k6,Z,hZ,t6⟩:=hT
 have p2:=k6.get _ _ _ _ h2 (by decide) (by decide) (by decide)
 have bx6:=t6.ext.get _ _ hb (by simp)
 exact⟨(),rfl,_,lcO p2 rfl,(),lcO bx6 rfl,rkI ⟨rfl,k6,Z,hZ,t6⟩⟩
theorem kaQ {H:Heap} {tk:Nat} {D:List Nd} {x:Sl} {bs:List Nat} {ts:List Tr} (hs:SlK G H tk x (bs.map ptV)) (hv:All2 (fun b k=>VarDAt b k G) bs ts)
 (h:TkAt G H tk D) (hD:D.length+(k0a ts).length≤5000):Fn PP fq63 #[.pointer (some ⟨tk,0,none⟩),.slice x.1 x.2.1 x.2.2] H (Took G tk H D (k0a ts)):=by
 obtain⟨a,n,c⟩:=x
 have hnl:n=ts.length:=by have:=(hs H D (KpT.refl H) h).1;simp at this;rw[this,hv.len]
 have hks:ts.length≤(k0a ts).length:=k2v ts
 refine k7w.enter tk a n c H _ ?_
 unfold k7w.W
 refine nbI fun H1 e1 hb1 x1 s1=>?_
 refine k2Q ts n hnl (by omega) (KpT.refl H1) (h.grow x1) (fun k kt H8 Y next hi k8 hY t8 hnext=>?_) (fun H8 Y k8 hY t8=>rkI ⟨rfl,x1.kpT.trans k8,Y,hY,t8⟩) (fun k H8 next=>rfl)
 obtain⟨xb,hxi,hI⟩:=hv.get k kt hi
 obtain⟨⟨lb,vb,k0,ty,va,⟨ls,le,lq,hl⟩,⟨lb2,nb,_,⟨lb3,_,hnm⟩,hvb⟩,hb⟩,hclose,hkind,hal,htx,hw⟩:=hI
 have hL:=(hs H8 _ (x1.kpT.trans k8) t8).load (i:=k) (v:=ptV xb) (by simp[hxi])
 have hlen:=k2J ts (k+1)
 rw[k3o ts k kt hi,List.length_append] at hlen
 have hYl:=hY.len
 have hfl:(flat kt).length=1+(k0a kt.ks).length:=by rw[k1S];simp;omega
 refine⟨hL.1,xb,hL.2,?_⟩
 refine cap1 t8 xb tq93 fun b9 H9 x9 t9 h9=>?_
 have k9:=k8.trans x9.kpT
 have q19:=k9.get _ _ _ _ hb1 (by decide) (by decide) (by decide)
 have bx9:=t9.ext.get _ _ hb (by simp)
 have vx9:=t9.ext.get _ _ hvb (by simp)
 refine⟨_,lcO h9 rfl,_,lcO bx9 rfl,_,lcO h9 rfl,_,lcO bx9 rfl,_,lcO vx9 rfl,?_⟩
 refine(k2R nb kt.n.name H9 (t9.ext.get _ _ hnm (by simp))).mono ?_
 rintro _ _ ⟨rfl,rfl⟩
 refine⟨_,rfl,_,lcO q19 rfl,_,lcO h9 rfl,_,lcO bx9 rfl,?_⟩
 refine(kjk.enter tk lb ⟨4,kt.n.name,eB,eB,0,0⟩ H.size b9 H9 _ (k2c fq117 t9 (by simp only[List.length_append];omega) lb hl ⟨4,kt.n.name,eB,eB,0,0⟩ H.size b9 (P:=fun W=>Sames W (k0a kt.ks)) fun H10 k10 t10=>?_)).mono ?_
 ·refine(hclose H10 tk H.size b9 _ t10 (by simp only[List.length_append,List.length_cons,List.length_nil];omega) (k10.get _ _ _ _ q19 (by decide) (by decide) (by decide)) (k10.get _ _ _ _ h9 (by decide) (by decide) (by decide))).mono ?_
  intro v' H11 hT
  exact hT.within (by omega)
 ·rintro _ H11 ⟨rfl,k11,W,hW,t11⟩
  refine⟨(),rfl,?_⟩
  rw[k0h (k:=k) (by have:=(List.getElem?_eq_some_iff.1 hi).1;omega)]
  exact hnext H11 _ (k9.trans k11) (k2C hw hW ⟨4,kt.n.name,eB,eB,0,0⟩ hkind.symm rfl hal.symm htx.symm (by simp)) t11
end
def wtP (p:Nd→Bool):KK→Nat
 |[]=>0
 |x::r=>(if p x.1=true then x.2.length+1 else 0)+wtP p r
def wtA:KK→Nat
 |[]=>0
 |x::r=>x.2.length+1+wtA r
abbrev pK (K:List Int):Nd→Bool:=fun n=>decide (n.kind∈K)
theorem ke1 (s:Option KV): ∀kk:KK,(sepK s kk).length≤wtA kk
 |[]=>by simp[sepK]
 |[x]=>by simp[sepK,wtA]
 |x::y::r=>by
  have:=ke1 s (y::r)
  have hs:(optK s).length≤1:=by cases s<;>simp[optK]
  simp only[sepK,List.length_append,wtA] at this⊢
  omega
theorem ke0 (K:List Int): ∀kk:KK,wtA (selK K kk)=wtP (pK K) kk
 |[]=>rfl
 |x::r=>by
  have:=ke0 K r
  unfold selK at this⊢
  rw[List.filter_cons]
  split
  ·rename_i h
   simp only[wtA,wtP,h,if_true,this]
  ·rename_i h
   simp only[wtP,h,this]
   simp
theorem k0C (b e s:Option KV) (K:List Int) (kk:KK):(k0g b e s K kk).length≤b.toList.length+e.toList.length+wtP (pK K) kk:=by
 rw[←ke0]
 unfold k0g
 cases selK K kk with
 |nil=>simp
 |cons x r=>
  have:=ke1 s (x::r)
  simp only[List.length_append,optK]
  omega
theorem k4d (b:Option KV) (p:Nd→Bool): ∀kk:KK,(k12 b p kk).length≤b.toList.length+wtP p kk
 |[]=>by simp[k12]
 |x::r=>by
  have:=k4d b p r
  unfold k12 at this⊢
  rw[List.find?_cons]
  simp only[wtP]
  cases h:p x.1 with
  |true=>simp[optK];omega
  |false=>simp;exact this
theorem kbl: ∀kk:KK,(allK kk).length≤wtA kk
 |[]=>by simp[allK]
 |x::r=>by
  have:=kbl r
  unfold allK at this⊢
  rw[List.flatMap_cons,List.length_append]
  simp only[wtA]
  omega
def wtL (ps:List (Nd→Bool)) (kk:KK):Nat:=match ps with
 |[]=>0
 |p::r=>wtP p kk+wtL r kk
def cnt (ps:List (Nd→Bool)) (n:Nd):Nat:=match ps with
 |[]=>0
 |p::r=>(if p n=true then 1 else 0)+cnt r n
theorem keF (x:Nd×List KV) (kk:KK): ∀ps,wtL ps (x::kk)=cnt ps x.1*(x.2.length+1)+wtL ps kk
 |[]=>by simp[wtL,cnt]
 |p::r=>by
  simp only[wtL,cnt,keF x kk r,wtP]
  split<;>simp only[Nat.add_mul,Nat.one_mul,Nat.zero_mul]<;>omega
theorem keG (ps:List (Nd→Bool)) (h: ∀n,cnt ps n≤1): ∀kk,wtL ps kk≤wtA kk
 |[]=>by
  have: ∀ps:List (Nd→Bool),wtL ps []=0:=by
   intro ps
   induction ps with
   |nil=>rfl
   |cons p r ih=>simp[wtL,wtP,ih]
  rw[this];exact Nat.zero_le _
 |x::r=>by
  have:=keG ps h r
  rw[keF]
  have h1:=Nat.mul_le_mul_right (x.2.length+1) (h x.1)
  simp only[wtA]
  omega
theorem wt4 (p1 p2 p3 p4:Nd→Bool) (h: ∀n,cnt [p1,p2,p3,p4] n≤1) (kk:KK):wtP p1 kk+wtP p2 kk+wtP p3 kk+wtP p4 kk≤wtA kk:=by
 have:=keG _ h kk
 simp only[wtL] at this
 omega
theorem khD (kk:KK):(k0g (some kPL) (some kPR) none [4] kk).length+(k0g none none none [10] kk).length+(k0g none none none [5] kk).length≤2+wtA kk:=by
 have d:=wt4 (pK [4]) (pK [10]) (pK [5]) (pK [100]) (by intro n;simp only[cnt,pK,List.mem_cons,List.not_mem_nil,or_false,decide_eq_true_eq];(repeat' split)<;>omega) kk
 have h0:=k0C (some kPL) (some kPR) none [4] kk
 have h1:=k0C none none none [10] kk
 have h2:=k0C none none none [5] kk
 simp only[Option.toList,List.length_cons,List.length_nil] at h0 h1 h2
 omega
theorem khH (kk:KK):(k0g none none none [10] kk).length+(k0g none none none [5] kk).length≤0+wtA kk:=by
 have d:=wt4 (pK [10]) (pK [5]) (pK [100]) (pK [101]) (by intro n;simp only[cnt,pK,List.mem_cons,List.not_mem_nil,or_false,decide_eq_true_eq];(repeat' split)<;>omega) kk
 have h0:=k0C none none none [10] kk
 have h1:=k0C none none none [5] kk
 simp only[Option.toList,List.length_nil] at h0 h1
 omega
theorem khO (kk:KK):(k12 none k0q kk).length+(k12 (some kEq) k0n kk).length≤1+wtA kk:=by
 have d:=wt4 k0q k0n (pK [100]) (pK [101]) (by intro n;simp only[cnt,pK,k0q,k0n,Bool.and_eq_true,List.mem_cons,List.not_mem_nil,or_false,decide_eq_true_eq];(repeat' split)<;>omega) kk
 have h0:=k4d none k0q kk
 have h1:=k4d (some kEq) k0n kk
 simp only[Option.toList,List.length_cons,List.length_nil] at h0 h1
 omega
theorem khP (kk:KK):(k0g (some kBL) (some kBR) none [6,7,8] kk).length≤2+wtA kk:=by
 have d:=wt4 (pK [6,7,8]) (pK [100]) (pK [101]) (pK [102]) (by intro n;simp only[cnt,pK,List.mem_cons,List.not_mem_nil,or_false,decide_eq_true_eq];(repeat' split)<;>omega) kk
 have h0:=k0C (some kBL) (some kBR) none [6,7,8] kk
 simp only[Option.toList,List.length_cons,List.length_nil] at h0
 omega
theorem khQ (kk:KK):(k0g (some kPL) (some kPR) none [9] kk).length+(k0g none none none [10] kk).length+(k0g none none none [5] kk).length≤2+wtA kk:=by
 have d:=wt4 (pK [9]) (pK [10]) (pK [5]) (pK [100]) (by intro n;simp only[cnt,pK,List.mem_cons,List.not_mem_nil,or_false,decide_eq_true_eq];(repeat' split)<;>omega) kk
 have h0:=k0C (some kPL) (some kPR) none [9] kk
 have h1:=k0C none none none [10] kk
 have h2:=k0C none none none [5] kk
 simp only[Option.toList,List.length_cons,List.length_nil] at h0 h1 h2
 omega
theorem khR (kk:KK):(k0g none none none [10] kk).length≤0+wtA kk:=by
 have d:=wt4 (pK [10]) (pK [100]) (pK [101]) (pK [102]) (by intro n;simp only[cnt,pK,List.mem_cons,List.not_mem_nil,or_false,decide_eq_true_eq];(repeat' split)<;>omega) kk
 have h0:=k0C none none none [10] kk
 simp only[Option.toList,List.length_nil] at h0
 omega
theorem khS (kk:KK):(k0g none none none [10] kk).length+(k0g none none none [5] kk).length≤0+wtA kk:=by
 have d:=wt4 (pK [10]) (pK [5]) (pK [100]) (pK [101]) (by intro n;simp only[cnt,pK,List.mem_cons,List.not_mem_nil,or_false,decide_eq_true_eq];(repeat' split)<;>omega) kk
 have h0:=k0C none none none [10] kk
 have h1:=k0C none none none [5] kk
 simp only[Option.toList,List.length_nil] at h0 h1
 omega
theorem khT (kk:KK):(k12 none k0n kk).length≤0+wtA kk:=by
 have d:=wt4 k0n (pK [100]) (pK [101]) (pK [102]) (by intro n;simp only[cnt,pK,k0n,Bool.and_eq_true,List.mem_cons,List.not_mem_nil,or_false,decide_eq_true_eq];(repeat' split)<;>omega) kk
 have h0:=k4d none k0n kk
 simp only[Option.toList,List.length_nil] at h0
 omega
theorem khC (kk:KK):(k0g (some kPL) (some kPR) none [9] kk).length≤2+wtA kk:=by
 have d:=wt4 (pK [9]) (pK [100]) (pK [101]) (pK [102]) (by intro n;simp only[cnt,pK,List.mem_cons,List.not_mem_nil,or_false,decide_eq_true_eq];(repeat' split)<;>omega) kk
 have h0:=k0C (some kPL) (some kPR) none [9] kk
 simp only[Option.toList,List.length_cons,List.length_nil] at h0
 omega
theorem khE (kk:KK):(k0g none none none [23] kk).length+(k0g none none none [10] kk).length+(k0g (some kBL) (some kBR) none [25] kk).length≤2+wtA kk:=by
 have d:=wt4 (pK [23]) (pK [10]) (pK [25]) (pK [100]) (by intro n;simp only[cnt,pK,List.mem_cons,List.not_mem_nil,or_false,decide_eq_true_eq];(repeat' split)<;>omega) kk
 have h0:=k0C none none none [23] kk
 have h1:=k0C none none none [10] kk
 have h2:=k0C (some kBL) (some kBR) none [25] kk
 simp only[Option.toList,List.length_cons,List.length_nil] at h0 h1 h2
 omega
theorem kcN (kk:KK):(k0g none none none [23] kk).length≤0+wtA kk:=by
 have d:=wt4 (pK [23]) (pK [100]) (pK [101]) (pK [102]) (by intro n;simp only[cnt,pK,List.mem_cons,List.not_mem_nil,or_false,decide_eq_true_eq];(repeat' split)<;>omega) kk
 have h0:=k0C none none none [23] kk
 simp only[Option.toList,List.length_nil] at h0
 omega
theorem kcO (kk:KK):(k0g none none none [23] kk).length+(k0g none none none [10] kk).length≤0+wtA kk:=by
 have d:=wt4 (pK [23]) (pK [10]) (pK [100]) (pK [101]) (by intro n;simp only[cnt,pK,List.mem_cons,List.not_mem_nil,or_false,decide_eq_true_eq];(repeat' split)<;>omega) kk
 have h0:=k0C none none none [23] kk
 have h1:=k0C none none none [10] kk
 simp only[Option.toList,List.length_nil] at h0 h1
 omega
theorem khF (kk:KK):(k0g none none none [23] kk).length+(k0g (some (nmK k1H)) none (some kAmp) [28] kk).length+(k0g none none none [10] kk).length+(k0g (some kBL) (some kBR) none [29] kk).length≤3+wtA kk:=by
 have d:=wt4 (pK [23]) (pK [28]) (pK [10]) (pK [29]) (by intro n;simp only[cnt,pK,List.mem_cons,List.not_mem_nil,or_false,decide_eq_true_eq];(repeat' split)<;>omega) kk
 have h0:=k0C none none none [23] kk
 have h1:=k0C (some (nmK k1H)) none (some kAmp) [28] kk
 have h2:=k0C none none none [10] kk
 have h3:=k0C (some kBL) (some kBR) none [29] kk
 simp only[Option.toList,List.length_cons,List.length_nil] at h0 h1 h2 h3
 omega
theorem khJ (kk:KK):(k0g none none none [23] kk).length+(k0g none none none [10] kk).length+(k0g (some kBL) (some kBR) none [29] kk).length≤2+wtA kk:=by
 have d:=wt4 (pK [23]) (pK [10]) (pK [29]) (pK [100]) (by intro n;simp only[cnt,pK,List.mem_cons,List.not_mem_nil,or_false,decide_eq_true_eq];(repeat' split)<;>omega) kk
 have h0:=k0C none none none [23] kk
 have h1:=k0C none none none [10] kk
 have h2:=k0C (some kBL) (some kBR) none [29] kk
 simp only[Option.toList,List.length_cons,List.length_nil] at h0 h1 h2
 omega
theorem khG (kk:KK):(k0g none none none [23] kk).length+(k0g (some kPL) (some kPR) none [30] kk).length+(k12 (some kCol) k0q kk).length+(k0g none none none [10] kk).length≤3+wtA kk:=by
 have d:=wt4 (pK [23]) (pK [30]) k0q (pK [10]) (by intro n;simp only[cnt,pK,k0q,Bool.and_eq_true,List.mem_cons,List.not_mem_nil,or_false,decide_eq_true_eq];(repeat' split)<;>omega) kk
 have h0:=k0C none none none [23] kk
 have h1:=k0C (some kPL) (some kPR) none [30] kk
 have h2:=k4d (some kCol) k0q kk
 have h3:=k0C none none none [10] kk
 simp only[Option.toList,List.length_cons,List.length_nil] at h0 h1 h2 h3
 omega
theorem khI (kk:KK):(k0g none none none [23] kk).length+(k12 (some kCol) k0q kk).length+(k12 (some kEq) k0n kk).length+(k0g none none none [10] kk).length≤2+wtA kk:=by
 have d:=wt4 (pK [23]) k0q k0n (pK [10]) (by intro n;simp only[cnt,pK,k0q,k0n,Bool.and_eq_true,List.mem_cons,List.not_mem_nil,or_false,decide_eq_true_eq];(repeat' split)<;>omega) kk
 have h0:=k0C none none none [23] kk
 have h1:=k4d (some kCol) k0q kk
 have h2:=k4d (some kEq) k0n kk
 have h3:=k0C none none none [10] kk
 simp only[Option.toList,List.length_cons,List.length_nil] at h0 h1 h2 h3
 omega
theorem khK (kk:KK):(k0g none none none [23] kk).length+(k0g none none none [10] kk).length+(k0g (some kEq) none (some k0M) [33] kk).length≤1+wtA kk:=by
 have d:=wt4 (pK [23]) (pK [10]) (pK [33]) (pK [100]) (by intro n;simp only[cnt,pK,List.mem_cons,List.not_mem_nil,or_false,decide_eq_true_eq];(repeat' split)<;>omega) kk
 have h0:=k0C none none none [23] kk
 have h1:=k0C none none none [10] kk
 have h2:=k0C (some kEq) none (some k0M) [33] kk
 simp only[Option.toList,List.length_cons,List.length_nil] at h0 h1 h2
 omega
theorem khL (kk:KK):(k0g none none none [23] kk).length+(k0g none none none [10] kk).length+(k0g (some kBL) (some kBR) none [35] kk).length≤2+wtA kk:=by
 have d:=wt4 (pK [23]) (pK [10]) (pK [35]) (pK [100]) (by intro n;simp only[cnt,pK,List.mem_cons,List.not_mem_nil,or_false,decide_eq_true_eq];(repeat' split)<;>omega) kk
 have h0:=k0C none none none [23] kk
 have h1:=k0C none none none [10] kk
 have h2:=k0C (some kBL) (some kBR) none [35] kk
 simp only[Option.toList,List.length_cons,List.length_nil] at h0 h1 h2
 omega
theorem khM (kk:KK):(k0g none none none [23] kk).length+(k0g none none none [10] kk).length+(k0g (some kBL) (some kBR) none [30] kk).length≤2+wtA kk:=by
 have d:=wt4 (pK [23]) (pK [10]) (pK [30]) (pK [100]) (by intro n;simp only[cnt,pK,List.mem_cons,List.not_mem_nil,or_false,decide_eq_true_eq];(repeat' split)<;>omega) kk
 have h0:=k0C none none none [23] kk
 have h1:=k0C none none none [10] kk
 have h2:=k0C (some kBL) (some kBR) none [30] kk
 simp only[Option.toList,List.length_cons,List.length_nil] at h0 h1 h2
 omega
theorem khN (kk:KK):(k0g none none none [23] kk).length+(k0g (some kPL) (some kPR) none [30] kk).length+(k0g (some (nmK onB)) none (some k0M) [38] kk).length≤3+wtA kk:=by
 have d:=wt4 (pK [23]) (pK [30]) (pK [38]) (pK [100]) (by intro n;simp only[cnt,pK,List.mem_cons,List.not_mem_nil,or_false,decide_eq_true_eq];(repeat' split)<;>omega) kk
 have h0:=k0C none none none [23] kk
 have h1:=k0C (some kPL) (some kPR) none [30] kk
 have h2:=k0C (some (nmK onB)) none (some k0M) [38] kk
 simp only[Option.toList,List.length_cons,List.length_nil] at h0 h1 h2
 omega
theorem kfG (n:Nd) (kk:KK) (h39:n.kind=39→k0g none none none [23] kk=[]):(k0r n kk).length≤6+wtA kk:=by
 have ha:=kbl kk
 have ho1:(if n.flag=0 then[nmK n.text]++(if n.name=eB then[] else[nmK n.name]) else[]).length≤2:=by
  split
  ·split<;>simp
  ·simp
 have ho2:(if n.alias=eB then[] else[nmK n.alias,kCol]).length≤2:=by split<;>simp
 have ho3:(if n.text=eB then[] else[nmK onB,nmK n.text]).length≤2:=by split<;>simp
 unfold k0r
 by_cases hk:n.kind=1
 ·rw[if_pos hk]
  simp only[List.length_append,List.length_nil];omega
 rw[if_neg hk];clear hk
 by_cases hk:n.kind=2
 ·rw[if_pos hk]
  have:=khD kk
  simp only[List.length_append,k0o,k21,List.length_nil];omega
 rw[if_neg hk];clear hk
 by_cases hk:n.kind=3
 ·rw[if_pos hk]
  have:=khH kk
  simp only[List.length_append,k0o,k21,List.length_nil,List.length_cons];omega
 rw[if_neg hk];clear hk
 by_cases hk:n.kind=4
 ·rw[if_pos hk]
  have:=khO kk
  simp only[List.length_append,List.length_nil,List.length_cons];omega
 rw[if_neg hk];clear hk
 by_cases hk:n.kind=5
 ·rw[if_pos hk]
  have:=khP kk
  simp only[List.length_append,List.length_nil];omega
 rw[if_neg hk];clear hk
 by_cases hk:n.kind=6
 ·rw[if_pos hk]
  have:=khQ kk
  simp only[List.length_append,k0o,k21,List.length_nil,List.length_cons];omega
 rw[if_neg hk];clear hk
 by_cases hk:n.kind=7
 ·rw[if_pos hk]
  have:=khR kk
  simp only[List.length_append,k0o,List.length_nil,List.length_cons];omega
 rw[if_neg hk];clear hk
 by_cases hk:n.kind=8
 ·rw[if_pos hk]
  have:=khS kk
  simp only[List.length_append,k0o,k21,List.length_nil,List.length_cons];omega
 rw[if_neg hk];clear hk
 by_cases hk:n.kind=9∨n.kind=19
 ·rw[if_pos hk]
  have:=khT kk
  simp only[List.length_append,List.length_nil,List.length_cons];omega
 rw[if_neg hk];clear hk
 by_cases hk:n.kind=10
 ·rw[if_pos hk]
  have:=khC kk
  simp only[List.length_append,List.length_nil,List.length_cons];omega
 rw[if_neg hk];clear hk
 clear ho1 ho2 ho3
 unfold k0E
 by_cases hk:n.kind=11
 ·rw[if_pos hk]
  simp only[List.length_append,List.length_nil,List.length_cons];omega
 rw[if_neg hk];clear hk
 by_cases hk:n.kind=12∨n.kind=13
 ·rw[if_pos hk]
  simp only[List.length_append,List.length_nil,List.length_cons];omega
 rw[if_neg hk];clear hk
 by_cases hk:n.kind=14∨n.kind=23
 ·rw[if_pos hk]
  simp only[List.length_append,List.length_nil,List.length_cons];omega
 rw[if_neg hk];clear hk
 by_cases hk:n.kind=15
 ·rw[if_pos hk]
  simp only[List.length_append,List.length_nil,List.length_cons];omega
 rw[if_neg hk];clear hk
 by_cases hk:n.kind=17
 ·rw[if_pos hk]
  simp only[List.length_append,List.length_nil,List.length_cons];omega
 rw[if_neg hk];clear hk
 by_cases hk:n.kind=18
 ·rw[if_pos hk]
  simp only[List.length_append,List.length_nil,List.length_cons];omega
 rw[if_neg hk];clear hk
 by_cases hk:n.kind=21
 ·rw[if_pos hk]
  simp only[List.length_append,List.length_nil,List.length_cons];omega
 rw[if_neg hk];clear hk
 by_cases hk:n.kind=22
 ·rw[if_pos hk]
  simp only[List.length_append,List.length_nil,List.length_cons];omega
 rw[if_neg hk];clear hk
 by_cases hk:n.kind=16∨n.kind=20∨n.kind=28∨n.kind=33∨n.kind=38
 ·rw[if_pos hk]
  simp only[List.length_append,List.length_nil,List.length_cons];omega
 rw[if_neg hk];clear hk
 unfold defK
 rw[List.length_append]
 by_cases hk:n.kind=24
 ·rw[if_pos hk]
  have:=khE kk
  simp only[List.length_append,k0o,List.length_nil,List.length_cons];omega
 rw[if_neg hk];clear hk
 by_cases hk:n.kind=25
 ·rw[if_pos hk]
  have:=kcN kk
  simp only[List.length_append,List.length_nil,List.length_cons];omega
 rw[if_neg hk];clear hk
 by_cases hk:n.kind=26
 ·rw[if_pos hk]
  have:=kcO kk
  simp only[List.length_append,k0o,List.length_nil,List.length_cons];omega
 rw[if_neg hk];clear hk
 by_cases hk:n.kind=27
 ·rw[if_pos hk]
  have:=khF kk
  simp only[List.length_append,k0o,List.length_nil,List.length_cons];omega
 rw[if_neg hk];clear hk
 by_cases hk:n.kind=31
 ·rw[if_pos hk]
  have:=khJ kk
  simp only[List.length_append,k0o,List.length_nil,List.length_cons];omega
 rw[if_neg hk];clear hk
 by_cases hk:n.kind=29
 ·rw[if_pos hk]
  have:=khG kk
  simp only[List.length_append,k0o,List.length_nil,List.length_cons];omega
 rw[if_neg hk];clear hk
 by_cases hk:n.kind=30
 ·rw[if_pos hk]
  have:=khI kk
  simp only[List.length_append,k0o,List.length_nil,List.length_cons];omega
 rw[if_neg hk];clear hk
 by_cases hk:n.kind=32
 ·rw[if_pos hk]
  have:=khK kk
  simp only[List.length_append,k0o,List.length_nil,List.length_cons];omega
 rw[if_neg hk];clear hk
 by_cases hk:n.kind=34
 ·rw[if_pos hk]
  have:=khL kk
  simp only[List.length_append,k0o,List.length_nil,List.length_cons];omega
 rw[if_neg hk];clear hk
 by_cases hk:n.kind=35
 ·rw[if_pos hk]
  have:=kcO kk
  simp only[List.length_append,k0o,List.length_nil,List.length_cons];omega
 rw[if_neg hk];clear hk
 by_cases hk:n.kind=36
 ·rw[if_pos hk]
  have:=khM kk
  simp only[List.length_append,k0o,List.length_nil,List.length_cons];omega
 rw[if_neg hk];clear hk
 by_cases hk:n.kind=37
 ·rw[if_pos hk]
  have:=khN kk
  simp only[List.length_append,List.length_nil,List.length_cons];omega
 rw[if_neg hk];clear hk
 have:=kcN kk
 by_cases hk:n.kind=39
 ·rw[if_pos hk]
  rw[h39 hk]
  simp only[List.length_append,List.length_nil,List.length_cons];omega
 rw[if_neg hk]
 simp only[List.length_nil];omega
theorem k9P (t:Tr) (hg:Good t):(kvs t).length+1≤8*(flat t).length:=by
 have hk: ∀l:List Tr,(∀k∈l,k∈t.ks)→wtA (kvL l)≤8*(k0a l).length:=by
  intro l
  induction l with
  |nil=>intro _;simp[kvL,wtA]
  |cons k r ih=>
   intro h
   have hkm:=h k (by simp)
   have h1:=ih fun x hx=>h x (by simp[hx])
   have h2:=k9P k (hg.kid hkm)
   rw[k4e,List.length_append]
   simp only[kvL,wtA]
   omega
 have h1:=hk t.ks fun _ h=>h
 have h2:=kfG t.n (kvL t.ks) (fun h39=>by
  obtain⟨ob,h1,h2⟩: ∃ob,t.ks=[ob]∧ob.n.kind=27:=by
   cases hg.self.2 with
   |extend ob _ h1 h2 _=>exact⟨ob,h1,h2⟩
   |_=>omega
  rw[h1]
  simp[k0g,selK,kvL,h2])
 rw[k0z,k1S,List.length_cons]
 omega
 termination_by SizeOf.sizeOf t
 decreasing_by
 cases t with|node n ks=>
 have:=List.sizeOf_lt_of_mem hkm
 simp only[Tr.ks] at this
 simp;omega
theorem k1t (kind step:Int) (nm:BA) (hname: ∀H,Fn PP fq33 #[.int .i64 step] H fun v H'=>v= .string nm∧H=H') (hne:nm≠eB)
 (hst: ∀t:Tr,Fine t→t.n.kind=kind→kvs t≠ []∧k3Z nm step (kvs t) (flat t)):KindOk kind step nm where
 name:=hname
 ne:=hne
 ok:=by
  intro t hg hw hk hl hb
  have hs:k3y t:=fun u hu=>hb u.n (by rw[k3G,List.mem_map];exact⟨u,hu,rfl⟩)
  obtain⟨h1,h2⟩:=(kaT t hg hs).toks
  obtain⟨h3,h4⟩:=hst t ⟨hg,hw,hl⟩ hk
  have:=k9P t hg
  exact⟨kvs t,h1,h3,by omega,h2,h4⟩
theorem k1B {E:PEnv} {u:KV} {l:List KV} {f:FuncId} {kind:Int} {X:List Nd} {H:Heap} {α:Type} {val:α→Value} {ofA:α→Nat×Nat} (ps:PS E H l)
 (hf:POk E f #[.pointer (some ⟨E.p,0,none⟩)] l [u] val fun x G=>k0Y kind (ofA x).1 (ofA x).2 X G):
 k00 PP f #[.pointer (some ⟨E.p,0,none⟩)] H ⟨α,val⟩ fun(x1:α) H2=>
  k00 PP fq87 #[.iface (ofA x1).1 (.pointer (some ⟨(ofA x1).2,0,none⟩)),nI] H2 ⟨Sl,fun x=>(.tuple #[(.slice x.1 x.2.1 x.2.2),nI])⟩ fun(x3:Sl) H4=>
  rk [(.slice x3.1 x3.2.1 x3.2.2),nI] H4 fun v H'=> ∃x:Sl,v= .tuple #[.slice x.1 x.2.1 x.2.2,nI]∧
   Cx E H H' [u] fun G=>x.2.1=1∧ ∃g T b:Nat,x.1=some ⟨g,0,none⟩∧G[g]?=some (.cells #[.iface T (.pointer (some ⟨b,0,none⟩))] tq20)∧k0Y kind T b X G:=by
 refine(Cx.start ps).call (p:=⟨α,val⟩) hf fun b H1 _ c1=>?_
 refine c1.call (p:=⟨Sl,fun x=> .tuple #[.slice x.1 x.2.1 x.2.2,nI]⟩) (k7J E [u] _ _) fun x H2 _ c2=>?_
 refine rkI ⟨x,rfl,c2.weak fun G hG=>?_⟩
 obtain⟨⟨_,hO⟩,h1,g,h2,h3⟩:=hG
 exact⟨h1,g,_,_,h2,h3,hO⟩
theorem EndT.no {u:KV} (h:EndT u) {k:Int} (h1:k≠14) (h2:k≠1):u.1≠k:=by
 rcases h with h|h<;>omega
theorem k1y {X:List Nd} (h:X.length≤400) {D:List Nd} (hD:D.length≤1000):D.length+X.length≤5000:=by omega
theorem POk.imp {E:PEnv} {f:FuncId} {args:Array Value} {l l':List KV} {α:Type} {val:α→Value} {Q R:α→Heap→Prop} (h:POk E f args l l' val Q) (hi: ∀x G,Q x G→R x G):POk E f args l l' val R:=by
 intro H ps
 refine(h H ps).mono ?_
 rintro _ H' ⟨x,rfl,c⟩
 exact⟨x,rfl,c.weak fun G hG=>hi x G hG⟩
abbrev optP:OA→Value:=fun x=> .tuple #[.pointer x,nI]
theorem klf (x:Nat×Nat) (h:ValT x.1): ∀w,(Instr.typeAssert (ifV x) tq20 tq173 true).run PP w= .ok (asV (ifV x) true) w:=by
 obtain⟨T,b⟩:=x
 rcases h with rfl|rfl|rfl|rfl|rfl|rfl|rfl|rfl
 all_goals
  intro w
  kernel_rfl
theorem k27 {l:List Tr} (h:l.length≤1):l=[]∨ ∃d,l=[d]:=by
 cases l with
 |nil=>exact .inl rfl
 |cons a r=>cases r with
  |nil=>exact .inr ⟨a,rfl⟩
  |cons b r=>simp at h
theorem kbR {d:Tr} (h:Fine d) (hk:d.n.kind=23):d.ks=[]∧d.n.name=eB∧d.n.alias=eB:=by
 obtain⟨hf,hs⟩:=h.1.self
 refine⟨?_,k4E hf.2 (by omega),k0R hf (by omega)⟩
 cases hs with
 |leaf _ h=>exact h
 |scalar _ _ h=>omega
 |_=>omega
theorem k3L {d:Tr} (hk:d.n.kind=23):kvs d=[strK d.n]:=by
 rw[k0z];simp[k0r,k0E,hk]
theorem k35 (n:Nd):(strK n).1=18∨(strK n).1=19:=by unfold strK;split<;>simp
theorem ked (n:Nd):(strK n).2=n.text:=by unfold strK;split<;>rfl
theorem k31 (E:PEnv) (de:List Tr) (hK:InK [23] de) (h1:de.length≤1) (hf: ∀t∈de,Fine t) (u:KV) (r:List KV) (hu:u.1≠18∧u.1≠19):
 POk E fq108 #[.pointer (some ⟨E.p,0,none⟩)] (kvF de++u::r) (u::r) optP fun x G=>k1V x (k0a de) G:=by
 rcases k27 h1 with rfl|⟨d,rfl⟩
 ·intro H ps
  refine(kdd E u r hu.1 hu.2 H ps).mono ?_
  rintro _ H' ⟨rfl,c⟩
  exact⟨none,rfl,c.weak fun G _=>kkw G⟩
 ·intro H ps
  have hk:d.n.kind=23:=by simpa using hK d (by simp)
  have hfd:=hf d (by simp)
  obtain⟨hks,hn,ha⟩:=kbR hfd hk
  have e:kvF [d]++u::r=strK d.n::u::r:=by simp[kvF,k3L hk]
  rw[e] at ps
  have e2:k0a [d]=flat d:=by simp[k0a]
  rw[e2]
  refine parseDescription.enter _ H _ ?_
  unfold parseDescription.W
  have hp:((strK d.n).1==18||(strK d.n).1==19)=true:=by rcases k35 d.n with h|h<;>simp[h]
  refine(Cx.start ps).call1 (kan E (strK d.n) _) true (by rw[hp];rfl) fun H1 _ c1=>?_
  refine fkI (fun _=>?_) (fun hh=>absurd hh (by decide))
  refine c1.call (kaj E (strK d.n).1 (strK d.n).2 u r) fun b H2 _ c2=>?_
  refine rkI ⟨some ⟨b,0,none⟩,rfl,c2.weak fun G hG=>?_⟩
  have:=hG.2
  rw[ked] at this
  exact kef this hk hn ha hks hfd.2.1
theorem k0H {K:List Int} {l:List Tr} (h: ∀x∈l,x.n.kind∉K):selK K (kvL l)=[]:=by
 induction l with
 |nil=>rfl
 |cons x r ih=>
  have h1:=ih fun y hy=>h y (by simp[hy])
  unfold selK at*
  simp only[kvL]
  rw[List.filter_cons,if_neg (by simpa using h x (by simp)),h1]
theorem kaL {K:List Int} {t:Tr} {l:List Tr} (h:t.n.kind∉K):selK K (kvL (t::l))=selK K (kvL l):=by
 unfold selK
 simp only[kvL]
 rw[List.filter_cons,if_neg (by simpa using h)]
theorem k0p (K:List Int) (a b:List Tr):selK K (kvL (a++b))=selK K (kvL a)++selK K (kvL b):=by rw[khl,kk0]
theorem k8K {n:Nd} (h:k0q n=true):20≤n.kind∧n.kind≤22:=by simpa [k0q] using h
theorem k7n {n:Nd} (h:k0n n=true):11≤n.kind∧n.kind≤18:=by simpa [k0n] using h
theorem k0f {a:Int} {l:List Tr} (h:InK [a] l): ∀x∈l,x.n.kind=a:=fun x hx=>by simpa using h x hx
theorem ka9 {a:Int} {l:List Tr} (h:InK [a] l) (ha:a<20∨22<a): ∀x∈l,k0q x.n=false:=fun x hx=>by
 have:=k0f h x hx
 cases hh:k0q x.n with
 |false=>rfl
 |true=>have:=k8K hh;omega
theorem kaa {a:Int} {l:List Tr} (h:InK [a] l) (ha:a<11∨18<a): ∀x∈l,k0n x.n=false:=fun x hx=>by
 have:=k0f h x hx
 cases hh:k0n x.n with
 |false=>rfl
 |true=>have:=k7n hh;omega
section
variable {E:PEnv} {t:Tr} {de ds ar:List Tr} {ty:Tr}
theorem k3u (hde:InK [23] de) {l:List Tr} (hl: ∀x∈l,x.n.kind≠23):k0g none none none [23] (kvL (de++l))=kvF de:=by
 rw[k0T (l:=de) (by rw[k0p,k0Q hde (by simp),k0H (by simpa using hl),List.append_nil]),k1x]
theorem k9G (hk:t.n.kind=35) (hks:t.ks=de++ds) (hde:InK [23] de) (hds:InK [10] ds):kvs t=kvF de++(nmK t.n.name::kvF ds):=by
 have e1:=k3u hde (l:=ds) fun x hx=>by rw[k0f hds x hx];decide
 have e2:k0o (kvL (de++ds))=kvF ds:=by
  unfold k0o
  rw[k0T (l:=ds) (by rw[k0p,k0H (fun x hx=>by rw[k0f hde x hx];decide),k0Q hds (by simp),List.nil_append]),k1x]
 rw[k0z,hks];simp[k0r,k0E,defK,hk,e1,e2]
theorem k9T (hk:t.n.kind=26) (hks:t.ks=de++ds) (hde:InK [23] de) (hds:InK [10] ds):kvs t=kvF de++(nmK k1f::nmK t.n.name::kvF ds):=by
 have e1:=k3u hde (l:=ds) fun x hx=>by rw[k0f hds x hx];decide
 have e2:k0o (kvL (de++ds))=kvF ds:=by
  unfold k0o
  rw[k0T (l:=ds) (by rw[k0p,k0H (fun x hx=>by rw[k0f hde x hx];decide),k0Q hds (by simp),List.nil_append]),k1x]
 rw[k0z,hks];simp[k0r,k0E,defK,hk,e1,e2]
theorem k9I (hk:t.n.kind=29) (hks:t.ks=de++(ar++ty::ds)) (hde:InK [23] de) (har:InK [30] ar) (hty:k0q ty.n=true) (hds:InK [10] ds):
 kvs t=kvF de++(nmK t.n.name::(brK (some kPL) (some kPR) ar++(kCol::(kvs ty++kvF ds)))):=by
 have hT:=k8K hty
 have e1:=k3u hde (l:=ar++ty::ds) fun x hx=>by
  rcases List.mem_append.1 hx with h|h
  ·rw[k0f har x h];decide
  ·rcases List.mem_cons.1 h with rfl|h
   ·omega
   ·rw[k0f hds x h];decide
 have e2:k0o (kvL (de++(ar++ty::ds)))=kvF ds:=by
  unfold k0o
  rw[k0T (l:=ds) (by rw[k0p,k0p,kaL (by simp;omega),k0H (fun x hx=>by rw[k0f hde x hx];decide),k0H (fun x hx=>by rw[k0f har x hx];decide),k0Q hds (by simp),List.nil_append,List.nil_append]),k1x]
 have e3:k0g (some kPL) (some kPR) none [30] (kvL (de++(ar++ty::ds)))=brK (some kPL) (some kPR) ar:=
  k0T (l:=ar) (by rw[k0p,k0p,kaL (by simp;omega),k0H (fun x hx=>by rw[k0f hde x hx];decide),k0H (l:=ds) (fun x hx=>by rw[k0f hds x hx];decide),k0Q har (by simp),List.nil_append,List.append_nil])
 have e4:k12 (some kCol) k0q (kvL (de++(ar++ty::ds)))=kCol::kvs ty:=by
  rw[←List.append_assoc,k4I hty (fun x hx=>by
   rcases List.mem_append.1 hx with h|h
   ·exact ka9 hde (by omega) x h
   ·exact ka9 har (by omega) x h)]
  rfl
 rw[k0z,hks];simp[k0r,k0E,defK,hk,e1,e2,e3,e4]
theorem k9M {vs:List Tr} (hk:t.n.kind=30) (hks:t.ks=de++(ty::(vs++ds))) (hde:InK [23] de) (hty:k0q ty.n=true) (hvs: ∀v∈vs,k0n v.n=true) (h1:vs.length≤1) (hds:InK [10] ds):
 kvs t=kvF de++(nmK t.n.name::kCol::(kvs ty++(brK (some kEq) none vs++kvF ds))):=by
 have hT:=k8K hty
 have e1:=k3u hde (l:=ty::(vs++ds)) fun x hx=>by
  rcases List.mem_cons.1 hx with rfl|h
  ·omega
  ·rcases List.mem_append.1 h with h|h
   ·have:=k7n (hvs x h);omega
   ·rw[k0f hds x h];decide
 have e2:k0o (kvL (de++(ty::(vs++ds))))=kvF ds:=by
  unfold k0o
  rw[k0T (l:=ds) (by rw[k0p,kaL (by simp;omega),k0p,k0H (fun x hx=>by rw[k0f hde x hx];decide),k0H (l:=vs) (fun x hx=>by have:=k7n (hvs x hx);simp;omega),k0Q hds (by simp),List.nil_append,List.nil_append]),k1x]
 have e4:k12 (some kCol) k0q (kvL (de++(ty::(vs++ds))))=kCol::kvs ty:=by
  rw[k4I hty (ka9 hde (by omega))]
  rfl
 have hTv:k0n ty.n=false:=by
  cases hh:k0n ty.n with
  |false=>rfl
  |true=>have:=k7n hh;omega
 have e5:k12 (some kEq) k0n (kvL (de++(ty::(vs++ds))))=brK (some kEq) none vs:=by
  rcases k27 h1 with rfl|⟨v,rfl⟩
  ·rw[k2V]
   refine k9k fun x hx=>?_
   rcases List.mem_append.1 hx with h|h
   ·exact kaa hde (by omega) x h
   ·rcases List.mem_cons.1 h with rfl|h
    ·exact hTv
    ·exact kaa hds (by omega) x (by simpa using h)
  ·have e:de++(ty::([v]++ds))=(de++[ty])++v::ds:=by simp
   rw[e,k4I (hvs v (by simp)) (fun x hx=>by
    rcases List.mem_append.1 hx with h|h
    ·exact kaa hde (by omega) x h
    ·simp at h;rw[h];exact hTv)]
   simp[brK,optK,kvF]
 rw[k0z,hks];simp[k0r,k0E,defK,hk,e1,e2,e4,e5]
theorem k9X {vs:List Tr} (hk:t.n.kind=4) (hks:t.ks=ty::vs) (hty:k0q ty.n=true) (hvs: ∀v∈vs,k0n v.n=true) (h1:vs.length≤1):
 kvs t=kDol::nmK t.n.name::kCol::(kvs ty++brK (some kEq) none vs):=by
 have hT:=k8K hty
 have hTv:k0n ty.n=false:=by
  cases hh:k0n ty.n with
  |false=>rfl
  |true=>have:=k7n hh;omega
 have e4:k12 none k0q (kvL (ty::vs))=kvs ty:=by
  have:=k4I (b:=none) (r:=vs) hty (l:=[]) (by simp)
  simpa [optK] using this
 have e5:k12 (some kEq) k0n (kvL (ty::vs))=brK (some kEq) none vs:=by
  rcases k27 h1 with rfl|⟨v,rfl⟩
  ·rw[k2V]
   exact k9k fun x hx=>by simp at hx;rw[hx];exact hTv
  ·have:=k4I (b:=some kEq) (r:=[]) (hvs v (by simp)) (l:=[ty]) (by simpa using hTv)
   simpa [brK,optK,kvF] using this
 rw[k0z,hks];simp[k0r,hk,e4,e5]
end
abbrev slP:Pat:=⟨Sl,fun x=> .tuple #[.slice x.1 x.2.1 x.2.2,nI]⟩
abbrev opP:Pat:=⟨OA,optP⟩
theorem k1A {t:Tr} (h:Fine t): ∀k∈t.ks,Fine k:=fun _ hk=>h.kid hk
theorem kdf (E:PEnv) (t:Tr) {de ds:List Tr} (hk:t.n.kind=35) (hf:Fine t) (hks:t.ks=de++ds) (hde:InK [23] de) (h1:de.length≤1) (hds:InK [10] ds) (u:KV) (r:List KV) (h4:u.1≠4) (h9:u.1≠9):
 POk E fq102 #[.pointer (some ⟨E.p,0,none⟩)] (kvs t++u::r) (u::r) (ifP tq123) fun b G=>k7E b t G:=by
 intro H ps
 have hkf:=k1A hf
 rw[hks] at hkf
 have hlen:=hf.few
 rw[hks,List.length_append] at hlen
 rw[k9G hk hks hde hds,List.append_assoc,List.cons_append] at ps
 refine parseEnumValueDefinition.enter _ H _ ?_
 unfold parseEnumValueDefinition.W
 obtain⟨w0,w1,hw0⟩:=k0P (kvF de) (nmK t.n.name) (kvF ds++u::r)
 have ps':=ps
 rw[hw0] at ps'
 obtain⟨st,hst,_⟩:=ps'.start
 refine⟨_,hst,?_⟩
 refine(Cx.start ps).call (p:=opP) (k31 E de hde h1 (fun x hx=>hkf x (by simp[hx])) _ _ ⟨by simp,by simp⟩) fun xd H1 _ c1=>?_
 obtain⟨w2,w3,hw2⟩:=k0P (kvF ds) u r
 rw[hw2] at c1
 refine c1.call (k1p E t.n.name w2 w3) fun nb H2 _ c2=>?_
 rw[←hw2] at c2
 refine c2.call (p:=slP) (k1T E ds hds (fun x hx=>hkf x (by simp[hx])) (by omega) u r h4 h9) fun xs H3 _ c3=>?_
 refine c3.call (k0D E _ _) fun lb H4 _ c4=>?_
 refine c4.node (keX _ _ _ _ _ _) fun b H5 _ c5=>?_
 refine rkI ⟨b,rfl,c5.weak fun G hG=>?_⟩
 obtain⟨⟨⟨⟨⟨_,hd⟩,hn⟩,hs⟩,hl⟩,hb⟩:=hG
 exact⟨lb,nb,xd,xs,de,ds,_,hl,hn,hb,hd,hs,hks,hk,k0R hf.1.self.1 (by omega),k1l hf.1.self.1.2 (by omega),hf.2.1⟩
theorem kiy (E:PEnv) (t:Tr) {de ds:List Tr} (hk:t.n.kind=26) (hf:Fine t) (hks:t.ks=de++ds) (hde:InK [23] de) (h1:de.length≤1) (hds:InK [10] ds) (u:KV) (r:List KV) (h4:u.1≠4) (h9:u.1≠9):
 POk E fq90 #[.pointer (some ⟨E.p,0,none⟩)] (kvs t++u::r) (u::r) (ifP tq231) fun b G=>ItemAt fq186 tq231 26 3 b t G:=by
 intro H ps
 have hkf:=k1A hf
 rw[hks] at hkf
 have hlen:=hf.few
 rw[hks,List.length_append] at hlen
 rw[k9T hk hks hde hds,List.append_assoc,List.cons_append,List.cons_append] at ps
 refine parseScalarTypeDefinition.enter _ H _ ?_
 unfold parseScalarTypeDefinition.W
 obtain⟨w0,w1,hw0⟩:=k0P (kvF de) (nmK k1f) (nmK t.n.name::(kvF ds++u::r))
 have ps':=ps
 rw[hw0] at ps'
 obtain⟨st,hst,_⟩:=ps'.start
 refine⟨_,hst,?_⟩
 refine(Cx.start ps).call (p:=opP) (k31 E de hde h1 (fun x hx=>hkf x (by simp[hx])) _ _ ⟨by simp,by simp⟩) fun xd H1 _ c1=>?_
 refine c1.call (k2u E _ _ k1f) fun _ H2 _ c2=>?_
 obtain⟨w2,w3,hw2⟩:=k0P (kvF ds) u r
 rw[hw2] at c2
 refine c2.call (k1p E t.n.name w2 w3) fun nb H3 _ c3=>?_
 rw[←hw2] at c3
 refine c3.call (p:=slP) (k1T E ds hds (fun x hx=>hkf x (by simp[hx])) (by omega) u r h4 h9) fun xs H4 _ c4=>?_
 refine c4.call (k0D E _ _) fun lb H5 _ c5=>?_
 refine c5.node (kbb _ _ _ _ _ _) fun b H6 _ c6=>?_
 refine rkI ⟨b,rfl,c6.weak fun G hG=>?_⟩
 obtain⟨⟨⟨⟨⟨⟨_,hd⟩,_⟩,hn⟩,hs⟩,hl⟩,hb⟩:=hG
 exact kgN hl hn hb hd hs hks hk (k0R hf.1.self.1 (by omega)) (k1l hf.1.self.1.2 (by omega)) hf.2.1
def NoT (u:KV):Prop:=u.1≠4∧u.1≠9∧u.1≠2∧u.1≠8
theorem k4c {ds:List Tr} (hds:InK [10] ds) (hf: ∀t∈ds,Fine t) {u:KV} (r:List KV) {P:Int→Prop} (hu:P u.1) (h9:P 9): ∃w1 w2,kvF ds++u::r=w1::w2∧P w1.1:=by
 cases ds with
 |nil=>exact⟨u,r,rfl,hu⟩
 |cons d ds=>
  have hk:=k0f hds d (by simp)
  rw[k4L,k4M hk (k4H (hf d (by simp)).1 hk)]
  exact⟨kAt,_,rfl,h9⟩
theorem kah (E:PEnv) (t:Tr) (hk:t.n.kind=30) (hf:Fine t) (u:KV) (r:List KV) (hu:NoT u):
 POk E fq97 #[.pointer (some ⟨E.p,0,none⟩)] (kvs t++u::r) (u::r) (ifP tq120) fun b G=>ItemAt fq123 tq120 30 2 b t G:=by
 intro H ps
 obtain⟨de,vs,ds,ty,hks,hde,h1,hty,hvs,hv1,hds,hfx⟩: ∃(de vs ds:List Tr) (ty:Tr),t.ks=de++(ty::(vs++ds))∧InK [23] de∧de.length≤1∧k0q ty.n=true∧(∀v∈vs,k0n v.n=true)∧vs.length≤1∧InK [10] ds∧k1K t:=by
  cases hf.1.self.2 with
  |inputDef de vs ds ty _ h1 h2 h3 h4 h5 h6 h7 h8=>exact⟨de,vs,ds,ty,h1,h2,h3,h4,h5,h6,h7,h8⟩
  |_=>omega
 have hkf:=k1A hf
 have hlen:=hf.few
 have hkx: ∀x∈t.ks,k1K x:=fun x hx=>hfx.kid hx
 rw[hks] at hkf hlen hkx
 simp only[List.length_append,List.length_cons] at hlen
 have hal:=k0R hf.1.self.1 (by omega)
 have htx:=k1l hf.1.self.1.2 (n:=t.n) (by omega)
 have hdf: ∀x∈ds,Fine x:=fun x hx=>hkf x (by simp[hx])
 rw[k9M hk hks hde hty hvs hv1 hds] at ps
 simp only[List.append_assoc,List.cons_append] at ps
 refine parseInputValueDef.enter _ H _ ?_
 unfold parseInputValueDef.W
 obtain⟨w0,w1,hw0⟩:=k0P (kvF de) (nmK t.n.name) (kCol::(kvs ty++(brK (some kEq) none vs++(kvF ds++u::r))))
 have ps':=ps
 rw[hw0] at ps'
 obtain⟨st,hst,_⟩:=ps'.start
 refine⟨_,hst,?_⟩
 refine(Cx.start ps).call (p:=opP) (k31 E de hde h1 (fun x hx=>hkf x (by simp[hx])) _ _ ⟨by simp,by simp⟩) fun xd H1 _ c1=>?_
 refine c1.call (k1p E t.n.name _ _) fun nb H2 _ c2=>?_
 obtain⟨d1,d2,hd12,hdu⟩:=k4c hds hdf (u:=u) r (P:=fun k=>k≠2∧k≠8) ⟨hu.2.2.1,hu.2.2.2⟩ ⟨by decide,by decide⟩
 obtain⟨w2,w3,hw2,hw22⟩: ∃w2 w3,brK (some kEq) none vs++(kvF ds++u::r)=w2::w3∧w2.1≠2:=by
  rcases k27 hv1 with rfl|⟨v,rfl⟩
  ·rw[k2V,List.nil_append];exact⟨d1,d2,hd12,hdu.1⟩
  ·exact⟨kEq,_,by simp[brK,optK,kvF];rfl,by decide⟩
 obtain⟨v1,v2,hv12⟩:=k0P (kvs ty) w2 w3
 rw[hw2,hv12] at c2
 refine c2.call (k1R E kCol v1 v2 7 rfl) fun _ H3 _ c3=>?_
 rw[←hv12] at c3
 refine c3.call (p:=N2p) ((hkf ty (by simp)).typ E hty w2 w3 hw22) fun xt H4 _ c4=>?_
 rw[←hw2] at c4
 rcases k27 hv1 with rfl|⟨v,rfl⟩
 ·rw[k2V,List.nil_append] at c4
  have c4':=c4
  rw[hd12] at c4'
  refine c4'.call1 (k3v E d1 d2 8 hdu.2) false rfl fun H5 _ c5=>?_
  refine fkI (fun hh=>absurd hh (by decide)) (fun _=>?_)
  rw[←hd12] at c5
  refine c5.call (p:=slP) (k1T E ds hds hdf (by omega) u r hu.1 hu.2.1) fun xs H6 _ c6=>?_
  refine c6.call (k0D E _ _) fun lb H7 _ c7=>?_
  refine c7.node (kf4 _ _ _ _ _ _ _ _) fun b H8 _ c8=>?_
  refine rkI ⟨b,rfl,c8.weak fun G hG=>?_⟩
  obtain⟨⟨⟨⟨⟨⟨⟨_,hd⟩,hn⟩,_⟩,hT⟩,hs⟩,hl⟩,hb⟩:=hG
  exact kgJ hl hn hb hd hT hs hks hk hal htx hf.2.1
 ·have hvm:v∈de++(ty::([v]++ds)):=by simp
  have e:brK (some kEq) none [v]++(kvF ds++u::r)=kEq::(kvs v++(kvF ds++u::r)):=by simp[brK,optK,kvF]
  rw[e] at c4
  obtain⟨z1,z2,hz12⟩: ∃z1 z2,kvs v++(kvF ds++u::r)=z1::z2:=by
   obtain⟨a,l,h1,_⟩:=kcE (hvs v (by simp))
   exact⟨a,_,by rw[h1];rfl⟩
  rw[hz12] at c4
  refine c4.call1 (k3S E kEq z1 z2 8 rfl) true rfl fun H5 _ c5=>?_
  refine fkI (fun _=>?_) (fun hh=>absurd hh (by decide))
  rw[←hz12,hd12] at c5
  refine c5.call (p:=N2p) (kdc ((hkf v hvm).val E true (hvs v (by simp)) fun _=>hkx v hvm) d1 d2) fun xv H6 _ c6=>?_
  refine⟨klf xv c6.self.2.2,?_⟩
  rw[←hd12] at c6
  refine c6.call (p:=slP) (k1T E ds hds hdf (by omega) u r hu.1 hu.2.1) fun xs H7 _ c7=>?_
  refine c7.call (k0D E _ _) fun lb H8 _ c8=>?_
  refine c8.node (kf5 _ _ _ _ _ _ _ _ _ _) fun b H9 _ c9=>?_
  refine rkI ⟨b,rfl,c9.weak fun G hG=>?_⟩
  obtain⟨⟨⟨⟨⟨⟨⟨⟨_,hd⟩,hn⟩,_⟩,hT⟩,hV⟩,hs⟩,hl⟩,hb⟩:=hG
  exact kgI hl hn hb hd hT hV.1 hs hks hk hal htx hf.2.1
theorem kcB (t:Tr) (hk:t.n.kind=30) (hf:Fine t): ∃h r,kvs t=h::r∧NoT h∧h.1≠5:=by
 obtain⟨de,vs,ds,ty,hks,hde,h1,hty,hvs,hv1,hds⟩: ∃(de vs ds:List Tr) (ty:Tr),t.ks=de++(ty::(vs++ds))∧InK [23] de∧de.length≤1∧k0q ty.n=true∧(∀v∈vs,k0n v.n=true)∧vs.length≤1∧InK [10] ds:=by
  cases hf.1.self.2 with
  |inputDef de vs ds ty _ h1 h2 h3 h4 h5 h6 h7 h8=>exact⟨de,vs,ds,ty,h1,h2,h3,h4,h5,h6,h7⟩
  |_=>omega
 rw[k9M hk hks hde hty hvs hv1 hds]
 rcases k27 h1 with rfl|⟨d,rfl⟩
 ·exact⟨nmK t.n.name,_,rfl,⟨by simp,by simp,by simp,by simp⟩,by simp⟩
 ·have hkd:=k0f hde d (by simp)
  refine⟨strK d.n,_,by simp[kvF,k3L hkd];rfl,?_,?_⟩
  ·unfold NoT;rcases k35 d.n with h|h<;>rw[h]<;>decide
  ·rcases k35 d.n with h|h<;>rw[h]<;>decide
theorem kin (E:PEnv) (l:List Tr) (hK:InK [30] l) (hf: ∀t∈l,Fine t) (hlen:l.length≤400) (u:KV) (r:List KV) (hu:u.1≠4):
 POk E fq96 #[.pointer (some ⟨E.p,0,none⟩)] (brK (some kPL) (some kPR) l++u::r) (u::r) (fun y:Sl×List Nat=>slV y.1) fun y G=>SlAt y.1 (y.2.map ptV) G∧All2 (fun b k=>ItemAt fq123 tq120 30 2 b k G) y.2 l:=by
 intro H ps
 refine parseArgumentDefs.enter _ H _ ?_
 unfold parseArgumentDefs.W
 refine nbI fun H1 e1 hb1 x1 s1=>?_
 have c1:=((Cx.start ps).add (F':=fun _=>True) x1 fun _ _=>trivial).weak fun _ h=>h.1
 by_cases hl:l=[]
 ·subst hl
  rw[k2V,List.nil_append] at c1
  refine c1.call1 (k1k E u r 4) (u.1==4) rfl fun H2 _ c2=>?_
  refine fkI (fun _=>rkI ⟨((some ⟨H.size,0,none⟩,0,0),[]),rfl,c2.weak fun G _=>?_⟩) (fun hh=>by simp[hu] at hh)
  exact⟨SlAt.zero _ _ _,.nil⟩
 ·rw[k2W hl] at c1
  refine c1.call1 (k1k E kPL _ 4) true rfl fun H2 y2 c2=>?_
  refine fkI (fun hh=>absurd hh (by decide)) (fun _=>?_)
  have hb2:=y2.get _ _ hb1 (c1.nin (Nat.le_refl _))
  refine k6H tq120 tq120 (by unfold k15;decide) (Q:=fun b t G=>ItemAt fq123 tq120 30 2 b t G) NoT hlen hl (fun t ht u' r' hu'=>kah E t (k0f hK t ht) (hf t ht) u' r' hu') (fun t ht=>kcB t (k0f hK t ht) (hf t ht)) ⟨by decide,by decide,by decide,by decide⟩ c2.ps (fun R h=>kdP.enter _ _ _ _ _ R h) fun x bs H3 hbl c3=>?_
  have hb3:=c3.ext.get _ _ hb2 (c1.nin (Nat.le_refl _))
  refine k5r tq120 tq120 (by unfold k15;decide) E c3 (by omega) c2.ext ps.lt (Ext.refl _ _) hb3 (Nat.le_refl _) (.inl (k0l hb2)) (K:=fun y H'=>rk [(.slice y.1 y.2.1 y.2.2),nI] H' _) fun y H4 c4=>?_
  exact rkI ⟨(y,bs),rfl,c4⟩
theorem kd9 (E:PEnv) (l:List Tr) (hK:InK [30] l) (hf: ∀t∈l,Fine t) (hlen:l.length≤400) (u:KV) (r:List KV) (hu:u.1≠4):
 POk E fq96 #[.pointer (some ⟨E.p,0,none⟩)] (brK (some kPL) (some kPR) l++u::r) (u::r) slV fun x G=>k0O fq71 x (k0a l) G:=by
 intro H ps
 refine(kin E l hK hf hlen u r hu H ps).mono ?_
 rintro _ H' ⟨y,rfl,c⟩
 exact⟨y.1,rfl,c.weak fun G hG=>k8C kat.enter (by unfold k0V;decide) (by decide) k9u hG.1 hG.2⟩
theorem kag (E:PEnv) (t:Tr) (hk:t.n.kind=29) (hf:Fine t) (u:KV) (r:List KV) (hu:NoT u):
 POk E fq94 #[.pointer (some ⟨E.p,0,none⟩)] (kvs t++u::r) (u::r) (ifP tq117) fun b G=>ItemAt fq122 tq117 29 2 b t G:=by
 intro H ps
 obtain⟨de,ar,ds,ty,hks,hde,h1,har,hty,hds⟩: ∃(de ar ds:List Tr) (ty:Tr),t.ks=de++(ar++ty::ds)∧InK [23] de∧de.length≤1∧InK [30] ar∧k0q ty.n=true∧InK [10] ds:=by
  cases hf.1.self.2 with
  |fieldDef de ar ds ty _ h1 h2 h3 h4 h5 h6 _=>exact⟨de,ar,ds,ty,h1,h2,h3,h4,h5,h6⟩
  |_=>omega
 have hkf:=k1A hf
 have hlen:=hf.few
 rw[hks] at hkf hlen
 simp only[List.length_append,List.length_cons] at hlen
 have hdf: ∀x∈ds,Fine x:=fun x hx=>hkf x (by simp[hx])
 rw[k9I hk hks hde har hty hds] at ps
 simp only[List.append_assoc,List.cons_append] at ps
 refine parseFieldDefinition.enter _ H _ ?_
 unfold parseFieldDefinition.W
 obtain⟨w0,w1,hw0⟩:=k0P (kvF de) (nmK t.n.name) (brK (some kPL) (some kPR) ar++(kCol::(kvs ty++(kvF ds++u::r))))
 have ps':=ps
 rw[hw0] at ps'
 obtain⟨st,hst,_⟩:=ps'.start
 refine⟨_,hst,?_⟩
 refine(Cx.start ps).call (p:=opP) (k31 E de hde h1 (fun x hx=>hkf x (by simp[hx])) _ _ ⟨by simp,by simp⟩) fun xd H1 _ c1=>?_
 obtain⟨w4,w5,hw4⟩:=k0P (brK (some kPL) (some kPR) ar) kCol (kvs ty++(kvF ds++u::r))
 rw[hw4] at c1
 refine c1.call (k1p E t.n.name w4 w5) fun nb H2 _ c2=>?_
 rw[←hw4] at c2
 refine c2.call (p:=slP) (kd9 E ar har (fun x hx=>hkf x (by simp[hx])) (by omega) kCol _ (by decide)) fun xa H3 _ c3=>?_
 obtain⟨d1,d2,hd12,hdu⟩:=k4c hds hdf (u:=u) r (P:=fun k=>k≠2) hu.2.2.1 (by decide)
 obtain⟨v1,v2,hv12⟩:=k0P (kvs ty) d1 d2
 rw[hd12,hv12] at c3
 refine c3.call (k1R E kCol v1 v2 7 rfl) fun _ H4 _ c4=>?_
 rw[←hv12] at c4
 refine c4.call (p:=N2p) ((hkf ty (by simp)).typ E hty d1 d2 hdu) fun xt H5 _ c5=>?_
 rw[←hd12] at c5
 refine c5.call (p:=slP) (k1T E ds hds hdf (by omega) u r hu.1 hu.2.1) fun xs H6 _ c6=>?_
 refine c6.call (k0D E _ _) fun lb H7 _ c7=>?_
 refine c7.node (keZ _ _ _ _ _ _ _ _ _ _ _) fun b H8 _ c8=>?_
 refine rkI ⟨b,rfl,c8.weak fun G hG=>?_⟩
 obtain⟨⟨⟨⟨⟨⟨⟨⟨_,hd⟩,hn⟩,hA⟩,_⟩,hT⟩,hs⟩,hl⟩,hb⟩:=hG
 exact kgG hl hn hb hd hA hT hs hks hk (k0R hf.1.self.1 (by omega)) (k1l hf.1.self.1.2 (by omega)) hf.2.1
theorem kdn (E:PEnv) (t:Tr) (hk:t.n.kind=4) (hf:Fine t) (u:KV) (r:List KV) (hu:NoT u):
 POk E fq111 #[.pointer (some ⟨E.p,0,none⟩)] (kvs t++u::r) (u::r) (ifP tq93) fun b G=>VarDAt b t G:=by
 intro H ps
 obtain⟨vs,ty,hks,hty,hvs,hv1,hfx⟩: ∃(vs:List Tr) (ty:Tr),t.ks=ty::vs∧k0q ty.n=true∧(∀v∈vs,k0n v.n=true)∧vs.length≤1∧(vs≠ []→k1K t):=by
  cases hf.1.self.2 with
  |variable1 ty _ h1 h2=>exact⟨[],ty,h1,h2,by simp,by simp,fun h=>absurd rfl h⟩
  |variable2 ty v _ h1 h2 h3 h4=>exact⟨[v],ty,h1,h2,by simpa using h3,by simp,fun _=>h4⟩
  |_=>omega
 have hkf:=k1A hf
 rw[hks] at hkf
 have hal:=k0R hf.1.self.1 (by omega)
 have htx:=k1l hf.1.self.1.2 (n:=t.n) (by omega)
 rw[k9X hk hks hty hvs hv1] at ps
 simp only[List.append_assoc,List.cons_append] at ps
 refine parseVariableDefinition.enter _ H _ ?_
 unfold parseVariableDefinition.W
 obtain⟨st,hst,_⟩:=ps.start
 refine⟨_,hst,?_⟩
 refine(Cx.start ps).call (kdo E t.n.name _ _) fun vb H1 _ c1=>?_
 obtain⟨w2,w3,hw2,hw22⟩: ∃w2 w3,brK (some kEq) none vs++u::r=w2::w3∧w2.1≠2:=by
  rcases k27 hv1 with rfl|⟨v,rfl⟩
  ·rw[k2V,List.nil_append];exact⟨u,r,rfl,hu.2.2.1⟩
  ·exact⟨kEq,_,by simp[brK,optK,kvF];rfl,by decide⟩
 obtain⟨v1,v2,hv12⟩:=k0P (kvs ty) w2 w3
 rw[hw2,hv12] at c1
 refine c1.call (k1R E kCol v1 v2 7 rfl) fun _ H3 _ c3=>?_
 rw[←hv12] at c3
 refine c3.call (p:=N2p) ((hkf ty (by simp)).typ E hty w2 w3 hw22) fun xt H4 _ c4=>?_
 rw[←hw2] at c4
 rcases k27 hv1 with rfl|⟨v,rfl⟩
 ·rw[k2V,List.nil_append] at c4
  refine c4.call1 (k3v E u r 8 hu.2.2.2) false rfl fun H5 _ c5=>?_
  refine fkI (fun hh=>absurd hh (by decide)) (fun _=>?_)
  refine c5.call (k0D E _ _) fun lb H7 _ c7=>?_
  refine c7.node (kbc _ _ _ _) fun b H8 _ c8=>?_
  refine rkI ⟨b,rfl,c8.weak fun G hG=>?_⟩
  obtain⟨⟨⟨⟨⟨_,hV⟩,_⟩,hT⟩,hl⟩,hb⟩:=hG
  exact⟨⟨lb,vb,_,_,_,hl,hV,hb⟩,kfX hb hT hks,hk,hal,htx,hf.2.1⟩
 ·have e:brK (some kEq) none [v]++u::r=kEq::(kvs v++u::r):=by simp[brK,optK,kvF]
  rw[e] at c4
  obtain⟨z1,z2,hz12⟩:=k0P (kvs v) u r
  rw[hz12] at c4
  refine c4.call1 (k3S E kEq z1 z2 8 rfl) true rfl fun H5 _ c5=>?_
  refine fkI (fun _=>?_) (fun hh=>absurd hh (by decide))
  rw[←hz12] at c5
  refine c5.call (p:=N2p) ((hkf v (by simp)).val E true (hvs v (by simp)) (fun _=>(hfx (by simp)).kid (by rw[hks];simp)) u r) fun xv H6 _ c6=>?_
  refine c6.call (k0D E _ _) fun lb H7 _ c7=>?_
  refine c7.node (kbc _ _ _ _) fun b H8 _ c8=>?_
  refine rkI ⟨b,rfl,c8.weak fun G hG=>?_⟩
  obtain⟨⟨⟨⟨⟨⟨_,hV⟩,_⟩,hT⟩,hV2⟩,hl⟩,hb⟩:=hG
  exact⟨⟨lb,vb,_,_,_,hl,hV,hb⟩,kfW hb hT hV2.1 hks,hk,hal,htx,hf.2.1⟩
theorem kdt (H:Heap):Fn PP fq33 #[.int .i64 32] H fun v H'=>v= .string k2l∧H=H':=by
 refine partName.enter 32 H _ ?_
 unfold partName.W
 repeat refine fkI (fun hh=>absurd hh (by decide)) (fun _=>?_)
 refine fkI (fun _=>rkI ⟨rfl,rfl⟩) (fun hh=>absurd hh (by decide))
theorem kdq (H:Heap):Fn PP fq33 #[.int .i64 24] H fun v H'=>v= .string k2F∧H=H':=by
 refine partName.enter 24 H _ ?_
 unfold partName.W
 repeat refine fkI (fun hh=>absurd hh (by decide)) (fun _=>?_)
 refine fkI (fun _=>rkI ⟨rfl,rfl⟩) (fun hh=>absurd hh (by decide))
theorem EndT.noT {u:KV} (h:EndT u):NoT u:=⟨h.no (by decide) (by decide),h.no (by decide) (by decide),h.no (by decide) (by decide),h.no (by decide) (by decide)⟩
section
variable {b:Nat} {t:Tr} {G:Heap}
theorem kl1 (kind:Int) (hf:Fine t) (h:ItemAt fq186 tq231 26 3 b t G):k0Y kind tq231 b (flat t) G:=by
 intro H tk D ht hD
 refine k4v.enter tk b kind H _ ?_
 unfold k4v.W
 refine nbI fun H2 e2 hb2 x2 s2=>?_
 refine⟨fun w=>by kernel_rfl,?_⟩
 have t2:=ht.grow x2
 refine⟨_,lcO hb2 rfl,k47.enter tk b H2 _ ?_⟩
 unfold k47.W
 refine nbI fun H3 e3 hb3 x3 s3=>?_
 have t3:=t2.grow x3
 refine⟨_,lcO hb3 rfl,?_⟩
 have:=k3q kdI.enter (by unfold k0V;decide) (by decide) h t3 (k1y hf.2.2 hD)
 refine(k59.enter tk b H3 _ this).mono ?_
 rintro v H4 ⟨rfl,k4,Y,hY,t4⟩
 exact⟨(),rfl,rkI ⟨(),rfl,rkI ⟨rfl,Y,hY,t4⟩⟩⟩
end
theorem k6W {t:Tr} (hf:Fine t) (hk:t.n.kind=7):t.n.name≠onB∧InK [10] t.ks:=by
 obtain⟨h1,h2⟩:=hf.1.self
 refine⟨?_,?_⟩
 ·cases h1.2<;>first|assumption|(exfalso;omega)
 ·cases h2 with
  |spread _ h=>exact h
  |_=>omega
theorem k6c {t:Tr} (hk:t.n.kind=7) (hds:InK [10] t.ks):kvs t=k2x::nmK t.n.name::kvF t.ks:=by
 have e2:k0o (kvL t.ks)=kvF t.ks:=by
  unfold k0o
  rw[k0T (l:=t.ks) (k0Q hds (by simp)),k1x]
 rw[k0z];simp[k0r,hk,e2]
theorem kdh (E:PEnv) (s:BA) (hs:s≠onB) (u:KV) (l:List KV):
 POk E fq168 #[.pointer (some ⟨E.p,0,none⟩)] (nmK s::u::l) (u::l) (fun b:Nat=> .tuple #[.pointer (some ⟨b,0,none⟩),nI]) fun b G=>k0W b s G:=by
 intro H ps
 refine parseFragmentName.enter _ H _ ?_
 unfold parseFragmentName.W
 refine⟨s,ps.value,fkI (fun hh=>?_) (fun _=>?_)⟩
 ·rw[k0t] at hh;simp at hh;exact absurd hh hs
 refine(Cx.start ps).call (k1p E s u l) fun nb H1 _ c1=>?_
 exact rkI ⟨nb,rfl,c1.weak fun G h=>h.2⟩
theorem kdm (E:PEnv) (t:Tr) (hk:t.n.kind=7) (hf:Fine t) (u:KV) (r:List KV) (h4:u.1≠4) (h9:u.1≠9):
 POk E fq113 #[.pointer (some ⟨E.p,0,none⟩)] (kvs t++u::r) (u::r) N2v fun x G=>x.1=tq128∧ItemAt fq126 tq128 7 2 x.2 t G:=by
 intro H ps
 obtain⟨hno,hds⟩:=k6W hf hk
 rw[k6c hk hds,List.cons_append,List.cons_append] at ps
 refine parseFragment.enter _ H _ ?_
 unfold parseFragment.W
 obtain⟨st,hst,_⟩:=ps.start
 refine⟨_,hst,?_⟩
 refine(Cx.start ps).call (k1R E k2x _ _ 6 rfl) fun _ H1 _ c1=>?_
 obtain⟨w2,w3,hw2⟩:=k0P (kvF t.ks) u r
 rw[hw2] at c1
 refine⟨fun y H'=>y.1=true∧Cx E H H' (nmK t.n.name::w2::w3) fun _=>True,?_,?_⟩
 ·refine c1.call1 (k1k E (nmK t.n.name) _ 15) true rfl fun H2 _ c2=>?_
  refine fkI (fun _=>?_) (fun hh=>absurd hh (by decide))
  refine⟨t.n.name,c2.ps.value,?_,c2.weak fun _ _=>trivial⟩
  rw[k0t]
  simpa using hno
 rintro⟨y,_⟩ H2 ⟨hy,c2⟩
 dsimp only at hy⊢
 subst hy
 refine fkI (fun _=>?_) (fun hh=>absurd hh (by decide))
 refine c2.call (kdh E t.n.name hno w2 w3) fun nb H3 _ c3=>?_
 rw[←hw2] at c3
 refine c3.call (p:=slP) (k1T E t.ks hds (k1A hf) hf.few u r h4 h9) fun xs H4 _ c4=>?_
 refine c4.call (k0D E _ _) fun lb H5 _ c5=>?_
 refine c5.node (kf2 _ _ _ _ _) fun b H6 _ c6=>?_
 refine rkI ⟨(tq128,b),rfl,c6.weak fun G hG=>⟨rfl,?_⟩⟩
 obtain⟨⟨⟨⟨_,hn⟩,hs⟩,hl⟩,hb⟩:=hG
 exact kgO hl hn hb hs hk (k0R hf.1.self.1 (by omega)) (k1l hf.1.self.1.2 (by omega)) hf.2.1
theorem kbZ {t:Tr} (hf:Fine t) (hk:t.n.kind=29): ∃(de ar ds:List Tr) (ty:Tr),t.ks=de++(ar++ty::ds)∧InK [23] de∧de.length≤1∧InK [30] ar∧k0q ty.n=true∧InK [10] ds:=by
 cases hf.1.self.2 with
 |fieldDef de ar ds ty _ h1 h2 h3 h4 h5 h6 _=>exact⟨de,ar,ds,ty,h1,h2,h3,h4,h5,h6⟩
 |_=>omega
theorem k6P {t:Tr} (hf:Fine t) (hk:t.n.kind=26∨t.n.kind=35): ∃(de ds:List Tr),t.ks=de++ds∧InK [23] de∧de.length≤1∧InK [10] ds:=by
 cases hf.1.self.2 with
 |scalar de ds _ h1 h2 h3 h4 _=>exact⟨de,ds,h1,h2,h3,h4⟩
 |_=>omega
theorem khi:KindOk 26 26 k1f:=k1t 26 26 k1f kam (fun h=>absurd (congrArg ByteArray.size h) (by decide)) (by
 intro t hf hk
 obtain⟨de,ds,h1,h2,h3,h4⟩:=k6P hf (by omega)
 refine⟨by rw[k9T hk h1 h2 h4];simp,?_⟩
 intro E u hu H ps
 refine k0x.enter _ _ H _ ?_
 unfold k0x.W
 repeat refine fkI (fun hh=>(k0N (by decide) hh).elim) (fun _=>?_)
 refine fkI (fun _=>?_) (fun hh=>(k0J hh).elim)
 exact k1B (val:=ifP tq231) (ofA:=fun b=>(tq231,b)) ps ((kiy E t hk hf h1 h2 h3 h4 u [] hu.noT.1 hu.noT.2.1).imp fun b G h=>kl1 26 hf h))
theorem kew {t:Tr} (hf:Fine t) (hk:t.n.kind=4): ∃(vs:List Tr) (ty:Tr),t.ks=ty::vs∧k0q ty.n=true∧(∀v∈vs,k0n v.n=true)∧vs.length≤1:=by
 cases hf.1.self.2 with
 |variable1 ty _ h1 h2=>exact⟨[],ty,h1,h2,by simp,by simp⟩
 |variable2 ty v _ h1 h2 h3 h4=>exact⟨[v],ty,h1,h2,by simpa using h3,by simp⟩
 |_=>omega
theorem k4N {t:Tr} (h:Good t) (hk:t.n.kind=25∨t.n.kind=33∨t.n.kind=28∨t.n.kind=38):t.ks=[]:=by
 cases h.self.2 with
 |leaf _ h1=>exact h1
 |_=>omega
section
variable {E:PEnv} {t:Tr} {de ds ms os:List Tr}
theorem k9W (hk:t.n.kind=32) (hks:t.ks=de++(ds++ms)) (hde:InK [23] de) (hds:InK [10] ds) (hms:InK [33] ms):kvs t=kvF de++(nmK k2l::nmK t.n.name::(kvF ds++brS kEq k0M ms)):=by
 have e1:=k3u hde (l:=ds++ms) fun x hx=>by
  rcases List.mem_append.1 hx with h|h
  ·rw[k0f hds x h];decide
  ·rw[k0f hms x h];decide
 have e2:k0o (kvL (de++(ds++ms)))=kvF ds:=by
  unfold k0o
  rw[k0T (l:=ds) (by rw[k0p,k0p,k0H (fun x hx=>by rw[k0f hde x hx];decide),k0Q hds (by simp),k0H (l:=ms) (fun x hx=>by rw[k0f hms x hx];decide),List.nil_append,List.append_nil]),k1x]
 have e3:k0g (some kEq) none (some k0M) [33] (kvL (de++(ds++ms)))=brS kEq k0M ms:=
  k9A (l:=ms) (by rw[k0p,k0p,k0H (fun x hx=>by rw[k0f hde x hx];decide),k0H (l:=ds) (fun x hx=>by rw[k0f hds x hx];decide),k0Q hms (by simp),List.nil_append,List.nil_append])
 rw[k0z,hks];simp[k0r,k0E,defK,hk,e1,e2,e3]
theorem k9U (hk:t.n.kind=24) (hks:t.ks=ds++os) (hds:InK [10] ds) (hos:InK [25] os):kvs t=nmK k2F::(kvF ds++brK (some kBL) (some kBR) os):=by
 have e1:k0g none none none [23] (kvL (ds++os))=[]:=by
  rw[k0T (l:=[]) (by rw[k0p,k0H (fun x hx=>by rw[k0f hds x hx];decide),k0H (fun x hx=>by rw[k0f hos x hx];decide)];rfl),k1x];rfl
 have e2:k0o (kvL (ds++os))=kvF ds:=by
  unfold k0o
  rw[k0T (l:=ds) (by rw[k0p,k0Q hds (by simp),k0H (l:=os) (fun x hx=>by rw[k0f hos x hx];decide),List.append_nil]),k1x]
 have e3:k0g (some kBL) (some kBR) none [25] (kvL (ds++os))=brK (some kBL) (some kBR) os:=
  k0T (l:=os) (by rw[k0p,k0H (fun x hx=>by rw[k0f hds x hx];decide),k0Q hos (by simp),List.nil_append])
 rw[k0z,hks];simp[k0r,k0E,defK,hk,e1,e2,e3]
end
theorem kcC {m:Tr} (hk:m.n.kind=33):kvs m=[nmK m.n.name]:=by
 rw[k0z];simp[k0r,k0E,hk]
theorem kcD {m:Tr} (hk:m.n.kind=25) (hks:m.ks=[]):kvs m=[nmK m.n.text,kCol,nmK m.n.name]:=by
 rw[k0z,hks];simp[k0r,k0E,defK,hk,kvL,k0g,selK]
theorem kiA (E:PEnv) (l:List Tr) (hK:InK [33] l) (hne:l≠ []) (hlen:l.length≤400) (u:KV) (r:List KV) (hu:u.1≠13):
 POk E fq100 #[.pointer (some ⟨E.p,0,none⟩)] (sepK (some k0M) (kvL l)++u::r) (u::r) slV fun x G=> ∃bs:List Nat,SlAt x (bs.map ptV) G∧All2 (fun b k=>k2U b k.n.name G) bs l:=by
 intro H ps
 refine parseUnionMembers.enter _ H _ ?_
 unfold parseUnionMembers.W
 refine Lst.row0 ps tq107 ptV (fun(b:Nat) (k:Tr) G=>k2U b k.n.name G) fun b0 H3 l0=>?_
 refine⟨fun z H'=> ∃(done rest:List Tr) (m:Tr) (bs:List Nat),l=done++m::rest∧Lst E H H' (sepK (some k0M) (kvL (m::rest))++u::r) tq107 z.1 ptV (fun(b:Nat) (k:Tr) G=>k2U b k.n.name G) bs done,fun z _=>l.length -z.1.2.1,?_,?_⟩
 ·cases l with
  |nil=>exact absurd rfl hne
  |cons m rest=>exact⟨[],rest,m,[],rfl,l0⟩
 rintro⟨⟨xa,xn,xc⟩,_⟩ H4 ⟨done,rest,m,bs,hl4,l4⟩
 dsimp only at l4⊢
 have hn:=l4.own.1
 simp only[List.length_map,Nat.mul_one] at hn
 have hbl:=l4.facts.len
 have hll:=congrArg List.length hl4
 simp only[List.length_append,List.length_cons] at hll
 have hkm:=k0f hK m (by rw[hl4];simp)
 obtain⟨w1,w2,hw,hcase⟩: ∃w1 w2,sepK (some k0M) (kvL (m::rest))++u::r=nmK m.n.name::w1::w2∧
  (rest=[]∧w1=u∧w2=r∨ ∃m2 rest2,rest=m2::rest2∧w1=k0M∧w2=sepK (some k0M) (kvL (m2::rest2))++u::r):=by
  cases rest with
  |nil=>exact⟨u,r,by simp[kvL,sepK,kcC hkm],.inl ⟨rfl,rfl,rfl⟩⟩
  |cons m2 rest2=>
   refine⟨k0M,sepK (some k0M) (kvL (m2::rest2))++u::r,?_,.inr ⟨m2,rest2,rfl,rfl,rfl⟩⟩
   have e:sepK (some k0M) (kvL (m::m2::rest2))=kvs m++([k0M]++sepK (some k0M) (kvL (m2::rest2))):=by simp only[kvL,sepK];rfl
   rw[e,kcC hkm]
   simp
 rw[hw] at l4
 refine l4.call (k4V E m.n.name w1 w2) fun y H5 l5 f5=>?_
 refine l5.push (b:=y) (m:=m) (by unfold k15;decide) (fun _=>rfl) 8 (by decide) (by omega) f5 fun a c H6 l6=>?_
 rcases hcase with⟨rfl,rfl,rfl⟩|⟨m2,rest2,rfl,rfl,rfl⟩
 ·refine l6.call1 (k3v E _ _ 13 hu) false rfl fun H7 l7=>?_
  refine fkI (fun _=>?_) (fun hh=>absurd hh (by decide))
  refine rkI ⟨(a,xn+1,c),rfl,l7.fin.weak fun G hG=>⟨bs++[y],hG.1,?_⟩⟩
  rw[hl4]
  exact hG.2
 ·obtain⟨z1,z2,hz⟩:=k0P (sepK (some k0M) (kvL (m2::rest2))) u r
  rw[hz] at l6
  refine l6.call1 (k3S E k0M z1 z2 13 rfl) true rfl fun H7 l7=>?_
  refine fkI (fun hh=>absurd hh (by decide)) (fun _=>?_)
  rw[←hz] at l7
  refine⟨⟨done++[m],rest2,m2,bs++[y],by rw[hl4];simp,l7⟩,?_⟩
  simp only[List.length_cons] at hll
  omega
section
variable {G:Heap} {b lb nb:Nat} {t:Tr}
theorem kgP {xd:OA} {xs xm:Sl} {de ds ms:List Tr} {bs:List Nat} {k0:Value} (hl:k0B lb G) (hn:k0W nb t.n.name G)
 (hb:G[b]?=some (.cells #[k0,.pointer (some ⟨lb,0,none⟩),.pointer (some ⟨nb,0,none⟩),.pointer xd,.slice xs.1 xs.2.1 xs.2.2,.slice xm.1 xm.2.1 xm.2.2] tq255))
 (hd:k1V xd (k0a de) G) (hs:k0O fq65 xs (k0a ds) G) (hm:SlAt xm (bs.map ptV) G) (hv:All2 (fun b k=>k2U b k.n.name G) bs ms) (hmf: ∀m∈ms,Fine m∧m.n.kind=33)
 (hks:t.ks=de++(ds++ms)) (hk:t.n.kind=32) (ha:t.n.alias=eB) (hx:t.n.text=eB) (hw:Ws t):ItemAt fq189 tq252 32 2 b t G:=by
 refine⟨⟨lb,nb,_,_,hl,hn,hb,rfl,rfl⟩,?_,hk,ha,hx,hw⟩
 intro H tk c1 c2 D ht hD h1 h2
 rw[hks,k0L,k0L] at hD⊢
 simp only[List.length_append] at hD
 have bx:=ht.ext.get _ _ hb (by simp)
 refine k5U.enter c1 c2 H _ ?_
 unfold k5U.W
 refine⟨_,lcO h1 rfl,_,lcO h2 rfl,_,lcO bx rfl,?_⟩
 refine(hd H tk D ht (by omega)).mono ?_
 rintro _ H5 ⟨rfl,k5,Y,hY,t5⟩
 have q1:=k5.get _ _ _ _ h1 (by decide) (by decide) (by decide)
 have q2:=k5.get _ _ _ _ h2 (by decide) (by decide) (by decide)
 have bx5:=t5.ext.get _ _ hb (by simp)
 have hYl:=hY.len
 refine⟨(),rfl,_,lcO q1 rfl,_,lcO q2 rfl,xs,lcO bx5 rfl,?_⟩
 refine(hs H5 tk _ t5 (by rw[List.length_append];omega)).mono ?_
 rintro _ H6 ⟨rfl,k6,Z,hZ,t6⟩
 have p1:=k6.get _ _ _ _ q1 (by decide) (by decide) (by decide)
 have p2:=k6.get _ _ _ _ q2 (by decide) (by decide) (by decide)
 have bx6:=t6.ext.get _ _ hb (by simp)
 have hZl:=hZ.len
 have hnl:xm.2.1=ms.length:=by have:=hm.1;simp at this;rw[this,hv.len]
 have hml:ms.length≤(k0a ms).length:=k2v ms
 refine⟨(),rfl,_,lcO p2 rfl,xm,lcO bx6 rfl,?_⟩
 refine k2Q ms xm.2.1 hnl (by omega) (KpT.refl H6) t6 (fun k kt H8 U next hi k8 hU t8 hnext=>?_) (fun H8 U k8 hU t8=>rkI (Took.seq k5 hY (Took.seq k6 hZ ⟨rfl,k8,U,hU,t8⟩))) (fun k H8 next=>rfl)
 obtain⟨xb,hxi,lb2,nb2,⟨ls2,le2,lq2,hl2⟩,⟨lb3,_,hnm⟩,hbx⟩:=hv.get k kt hi
 obtain⟨hkf,hkk⟩:=hmf kt (List.mem_of_getElem? hi)
 have hL:=(hm.keep t8.ext).load (i:=k) (v:=ptV xb) (by simp[hxi])
 have r1:=k8.get _ _ _ _ p1 (by decide) (by decide) (by decide)
 have bx8:=t8.ext.get _ _ hbx (by simp)
 have hlen:=k2J ms k
 have hUl:=hU.len
 refine⟨hL.1,xb,hL.2,_,lcO r1 rfl,_,lcO bx8 rfl,?_⟩
 refine(k4U xb nb2 kt.n.name H8 bx8 (t8.ext.get _ _ hnm (by simp))).mono ?_
 rintro _ _ ⟨rfl,rfl⟩
 refine⟨_,rfl,lcO bx8 rfl,lcO r1 rfl,?_⟩
 refine(k53 t8 (by simp only[List.length_append];omega) lb2 hl2 ⟨33,kt.n.name,eB,eB,0,0⟩).mono ?_
 rintro _ H9 ⟨rfl,k9,t9⟩
 refine⟨(),rfl,?_⟩
 rw[k0h (k:=k) (by have:=(List.getElem?_eq_some_iff.1 hi).1;omega)]
 exact hnext H9 _ (k8.trans k9) (k2B (k4N hkf.1 (by omega)) hkf.2.1 ⟨33,kt.n.name,eB,eB,0,0⟩ hkk.symm rfl (k0R hkf.1.self.1 (by omega)).symm (k1l hkf.1.self.1.2 (by omega)).symm (fun h=>by simp at h)) t9
theorem kfV {xs xm:Sl} {ds os:List Tr} {bs:List Nat} {k0 k1:Value}
 (hb:G[b]?=some (.cells #[k0,k1,.slice xs.1 xs.2.1 xs.2.2,.slice xm.1 xm.2.1 xm.2.2] tq222))
 (hs:k0O fq65 xs (k0a ds) G) (hm:SlAt xm (bs.map ptV) G) (hv:All2 (fun b k=>k7G b k G) bs os) (hmf: ∀m∈os,Fine m∧m.n.kind=25)
 (hks:t.ks=ds++os):k22 fq185 tq218 b (k0a t.ks) G:=by
 intro H tk c1 c2 D ht hD h1 h2
 rw[hks,k0L] at hD⊢
 simp only[List.length_append] at hD
 have bx:=ht.ext.get _ _ hb (by simp)
 refine k5S.enter c1 c2 H _ ?_
 unfold k5S.W
 refine⟨_,lcO h1 rfl,_,lcO h2 rfl,xs,lcO bx rfl,?_⟩
 refine(hs H tk D ht (by omega)).mono ?_
 rintro _ H6 ⟨rfl,k6,Z,hZ,t6⟩
 have p1:=k6.get _ _ _ _ h1 (by decide) (by decide) (by decide)
 have p2:=k6.get _ _ _ _ h2 (by decide) (by decide) (by decide)
 have bx6:=t6.ext.get _ _ hb (by simp)
 have hZl:=hZ.len
 have hnl:xm.2.1=os.length:=by have:=hm.1;simp at this;rw[this,hv.len]
 have hml:os.length≤(k0a os).length:=k2v os
 refine⟨(),rfl,_,lcO p2 rfl,xm,lcO bx6 rfl,?_⟩
 refine k2Q os xm.2.1 hnl (by omega) (KpT.refl H6) t6 (fun k kt H8 U next hi k8 hU t8 hnext=>?_) (fun H8 U k8 hU t8=>rkI (Took.seq k6 hZ ⟨rfl,k8,U,hU,t8⟩)) (fun k H8 next=>rfl)
 obtain⟨xb,hxi,lb2,nb2,⟨ls2,le2,lq2,hl2⟩,⟨lb4,nb4,_,⟨lb3,_,hnm⟩,hnd⟩,hbx⟩:=hv.get k kt hi
 obtain⟨hkf,hkk⟩:=hmf kt (List.mem_of_getElem? hi)
 have hL:=(hm.keep t8.ext).load (i:=k) (v:=ptV xb) (by simp[hxi])
 have r1:=k8.get _ _ _ _ p1 (by decide) (by decide) (by decide)
 have bx8:=t8.ext.get _ _ hbx (by simp)
 have hlen:=k2J os k
 have hUl:=hU.len
 refine⟨hL.1,xb,hL.2,_,lcO r1 rfl,_,lcO bx8 rfl,_,lcO bx8 rfl,_,lcO bx8 rfl,?_⟩
 refine(k4U nb2 nb4 kt.n.name H8 (t8.ext.get _ _ hnd (by simp)) (t8.ext.get _ _ hnm (by simp))).mono ?_
 rintro _ _ ⟨rfl,rfl⟩
 refine⟨_,rfl,lcO bx8 rfl,lcO bx8 rfl,lcO r1 rfl,?_⟩
 refine(k53 t8 (by simp only[List.length_append];omega) lb2 hl2 ⟨25,kt.n.name,eB,kt.n.text,0,0⟩).mono ?_
 rintro _ H9 ⟨rfl,k9,t9⟩
 refine⟨(),rfl,?_⟩
 rw[k0h (k:=k) (by have:=(List.getElem?_eq_some_iff.1 hi).1;omega)]
 exact hnext H9 _ (k8.trans k9) (k2B (k4N hkf.1 (by omega)) hkf.2.1 ⟨25,kt.n.name,eB,kt.n.text,0,0⟩ hkk.symm rfl (k0R hkf.1.self.1 (by omega)).symm rfl (fun h=>by simp at h)) t9
theorem kl4 (kind:Int) (hf:Fine t) (h:ItemAt fq189 tq252 32 2 b t G):k0Y kind tq252 b (flat t) G:=by
 intro H tk D ht hD
 refine k7i.enter tk b kind H _ ?_
 unfold k7i.W
 refine nbI fun H2 e2 hb2 x2 s2=>?_
 refine⟨fun w=>by kernel_rfl,?_⟩
 have t2:=ht.grow x2
 refine⟨_,lcO hb2 rfl,k5B.enter tk b H2 _ ?_⟩
 unfold k5B.W
 refine nbI fun H3 e3 hb3 x3 s3=>?_
 have t3:=t2.grow x3
 refine⟨_,lcO hb3 rfl,?_⟩
 have:=k3q kj9.enter (by unfold k0V;decide) (by decide) h t3 (k1y hf.2.2 hD)
 refine(k8B.enter tk b H3 _ this).mono ?_
 rintro v H4 ⟨rfl,k4,Y,hY,t4⟩
 exact⟨(),rfl,rkI ⟨(),rfl,rkI ⟨rfl,Y,hY,t4⟩⟩⟩
def kbe (b:Nat) (t:Tr) (G:Heap):Prop:= ∃(lb:Nat) (k0 x2 x3:Value),k0B lb G∧G[b]?=some (.cells #[k0,.pointer (some ⟨lb,0,none⟩),x2,x3] tq222)∧k22 fq185 tq218 b (k0a t.ks) G
theorem kl2 (kind:Int) (hf:Fine t) (hk:t.n.kind=24) (h:kbe b t G):k0Y kind tq218 b (flat t) G:=by
 intro H tk D ht hD
 obtain⟨lb,k0,x2',x3',⟨ls,le,lq,hl⟩,hb,hclose⟩:=h
 obtain⟨hn,hx⟩:=k45 hf.1.self.1.2 (n:=t.n) (by omega)
 have ha:=k0R hf.1.self.1 (by omega)
 have hfl:(flat t).length=1+(k0a t.ks).length:=by rw[k1S];simp;omega
 have hfl4:=hf.2.2
 refine k7f.enter tk b kind H _ ?_
 unfold k7f.W
 refine nbI fun H2 e2 hb2 x2 s2=>?_
 refine⟨fun w=>by kernel_rfl,?_⟩
 have t2:=ht.grow x2
 refine⟨_,lcO hb2 rfl,k5z.enter tk b H2 _ ?_⟩
 unfold k5z.W
 refine nbI fun H3 e3 hb3 x3 s3=>?_
 have t3:=t2.grow x3
 refine⟨_,lcO hb3 rfl,k6Z.enter tk b H3 _ ?_⟩
 unfold k6Z.W
 refine caps t3 b tq218 fun b1 b3 H5 x5 t5 h1 h3=>?_
 have bx:=t5.ext.get _ _ hb (by simp)
 refine⟨_,lcO h1 rfl,_,lcO h3 rfl,_,lcO bx rfl,?_⟩
 refine(kj7.enter tk lb ⟨24,eB,eB,eB,0,0⟩ b1 b3 H5 _ (k2c fq185 t5 (by omega) lb hl ⟨24,eB,eB,eB,0,0⟩ b1 b3 (P:=fun W=>Sames W (k0a t.ks)) fun H7 k7 t7=>?_)).mono ?_
 ·refine(hclose H7 tk b1 b3 _ t7 (by simp only[List.length_append,List.length_cons,List.length_nil];omega) (k7.get _ _ _ _ h1 (by decide) (by decide) (by decide)) (k7.get _ _ _ _ h3 (by decide) (by decide) (by decide))).mono ?_
  intro v' H8 hT
  exact hT.within (by omega)
 ·rintro _ H8 ⟨rfl,k8,W,hW,t8⟩
  refine⟨(),rfl,rkI ⟨(),rfl,rkI ⟨(),rfl,rkI ⟨rfl,_,k2C hf.2.1 hW ⟨24,eB,eB,eB,0,0⟩ hk.symm hn.symm ha.symm hx.symm (by simp),t8⟩⟩⟩⟩
end
theorem kaW {t:Tr} (hf:Fine t) (hk:t.n.kind=32): ∃(de ds ms:List Tr),t.ks=de++(ds++ms)∧InK [23] de∧de.length≤1∧InK [10] ds∧InK [33] ms∧ms≠ []:=by
 cases hf.1.self.2 with
 |union de ds ms _ h1 h2 h3 h4 h5 h6 _=>exact⟨de,ds,ms,h1,h2,h3,h4,h5,List.length_pos_iff.1 h6⟩
 |_=>omega
theorem kaK {t:Tr} (hf:Fine t) (hk:t.n.kind=24): ∃(ds os:List Tr),t.ks=ds++os∧InK [10] ds∧InK [25] os∧os≠ []:=by
 cases hf.1.self.2 with
 |schema ds os _ h1 h2 h3 h4=>exact⟨ds,os,h1,h2,h3,List.length_pos_iff.1 h4⟩
 |_=>omega
theorem kiB (E:PEnv) (t:Tr) (hk:t.n.kind=32) (hf:Fine t) (u:KV) (r:List KV) (hu:u.1≠13):
 POk E fq99 #[.pointer (some ⟨E.p,0,none⟩)] (kvs t++u::r) (u::r) (ifP tq252) fun b G=>ItemAt fq189 tq252 32 2 b t G:=by
 intro H ps
 obtain⟨de,ds,ms,hks,hde,h1,hds,hms,hmn⟩:=kaW hf hk
 have hkf:=k1A hf
 have hlen:=hf.few
 rw[hks] at hkf hlen
 simp only[List.length_append] at hlen
 have eS:brS kEq k0M ms=kEq::sepK (some k0M) (kvL ms):=by simp[brS,hmn]
 rw[k9W hk hks hde hds hms,eS] at ps
 simp only[List.append_assoc,List.cons_append] at ps
 refine parseUnionTypeDefinition.enter _ H _ ?_
 unfold parseUnionTypeDefinition.W
 obtain⟨w0,w1,hw0⟩:=k0P (kvF de) (nmK k2l) (nmK t.n.name::(kvF ds++(kEq::(sepK (some k0M) (kvL ms)++u::r))))
 have ps':=ps
 rw[hw0] at ps'
 obtain⟨st,hst,_⟩:=ps'.start
 refine⟨_,hst,?_⟩
 refine(Cx.start ps).call (p:=opP) (k31 E de hde h1 (fun x hx=>hkf x (by simp[hx])) _ _ ⟨by simp,by simp⟩) fun xd H1 _ c1=>?_
 refine c1.call (k2u E _ _ k2l) fun _ H2 _ c2=>?_
 obtain⟨w2,w3,hw2⟩:=k0P (kvF ds) kEq (sepK (some k0M) (kvL ms)++u::r)
 rw[hw2] at c2
 refine c2.call (k1p E t.n.name w2 w3) fun nb H3 _ c3=>?_
 rw[←hw2] at c3
 refine c3.call (p:=slP) (k1T E ds hds (fun x hx=>hkf x (by simp[hx])) (by omega) kEq _ (by decide) (by decide)) fun xs H4 _ c4=>?_
 obtain⟨w4,w5,hw4⟩:=k0P (sepK (some k0M) (kvL ms)) u r
 rw[hw4] at c4
 refine c4.call (k1R E kEq w4 w5 8 rfl) fun _ H5 _ c5=>?_
 rw[←hw4] at c5
 refine c5.call (p:=slP) (kiA E ms hms hmn (by omega) u r hu) fun xm H6 _ c6=>?_
 refine c6.call (k0D E _ _) fun lb H7 _ c7=>?_
 refine c7.node (kfo _ _ _ _ _ _ _ _ _) fun b H8 _ c8=>?_
 refine rkI ⟨b,rfl,c8.weak fun G hG=>?_⟩
 obtain⟨⟨⟨⟨⟨⟨⟨⟨_,hd⟩,_⟩,hn⟩,hs⟩,_⟩,⟨bs,hm,hv⟩⟩,hl⟩,hb⟩:=hG
 exact kgP hl hn hb hd hs hm hv (fun m hmm=>⟨hkf m (by simp[hmm]),k0f hms m hmm⟩) hks hk (k0R hf.1.self.1 (by omega)) (k1l hf.1.self.1.2 (by omega)) hf.2.1
theorem kiz (E:PEnv) (t:Tr) (hk:t.n.kind=24) (hf:Fine t) (u:KV) (r:List KV):
 POk E fq88 #[.pointer (some ⟨E.p,0,none⟩)] (kvs t++u::r) (u::r) (ifP tq218) fun b G=>kbe b t G:=by
 intro H ps
 obtain⟨ds,os,hks,hds,hos,hon⟩:=kaK hf hk
 have hkf:=k1A hf
 have hlen:=hf.few
 rw[hks] at hkf hlen
 simp only[List.length_append] at hlen
 have hof: ∀m∈os,Fine m∧m.n.kind=25:=fun m hm=>⟨hkf m (by simp[hm]),k0f hos m hm⟩
 rw[k9U hk hks hds hos,List.cons_append,List.append_assoc,k2W hon] at ps
 refine parseSchemaDefinition.enter _ H _ ?_
 unfold parseSchemaDefinition.W
 obtain⟨st,hst,_⟩:=ps.start
 refine⟨_,hst,?_⟩
 obtain⟨w2,w3,hw2⟩:=k0P (kvF ds) kBL (os.flatMap kvs++kBR::u::r)
 rw[hw2] at ps
 refine(Cx.start ps).call (k2u E _ _ k2F) fun x1 H1 _ c1=>?_
 rw[←hw2] at c1
 refine c1.tok rfl fun H2 _ _ c2=>?_
 refine c2.call (p:=slP) (k1T E ds hds (fun x hx=>hkf x (by simp[hx])) (by omega) kBL _ (by decide) (by decide)) fun xs H3 _ c3=>?_
 refine k6H tq104 tq104 (by unfold k15;decide) (Q:=fun b t G=>k7G b t G) (fun _=>True) (by omega) hon (fun m hm u' r' _=>?_) (fun m hm=>?_) trivial c3.ps (fun R h=>kjM.enter _ _ _ _ _ R h) fun x bs H4 hbl c4=>?_
 ·obtain⟨h1,h2⟩:=hof m hm
  rw[kcD h2 (k4N h1.1 (by omega))]
  exact kdj E m u' r' (k7L h1.1.self.1.2 (by omega))
 ·obtain⟨h1,h2⟩:=hof m hm
  exact⟨_,_,kcD h2 (k4N h1.1 (by omega)),trivial,by simp⟩
 refine nbI fun H5 e5 hb5 x5 s5=>?_
 refine k5r tq104 tq104 (by unfold k15;decide) E c4 (by omega) (Ext.refl _ _) c3.ps.lt x5 hb5 c4.ext.size (.inr (Nat.le_refl _)) (K:=fun y H'=>k00 PP fq141 #[(.pointer (some ⟨E.p,0,none⟩)),(.int .i64 (st:Int))] H' pBlk fun(x22:Nat) H23=>
  newB H23 (.cells #[(.string (Go.Vx.bs [])),(.pointer (some ⟨x22,0,none⟩)),(.slice xs.1 xs.2.1 xs.2.2),(.slice y.1 y.2.1 y.2.2)] tq222) fun b24 H25=>
  k00 PP fq140 #[(.pointer (some ⟨b24,0,none⟩))] H25 pBlk fun(x26:Nat) H27=>
  rk [(.iface tq218 (.pointer (some ⟨x26,0,none⟩))),nI] H27 _) fun y H6 c6=>?_
 refine(c3.trans c6).call (k0D E _ _) fun lb H7 _ c7=>?_
 refine c7.node (kfi _ _ _ _ _ _ _) fun b H8 _ c8=>?_
 refine rkI ⟨b,rfl,c8.weak fun G hG=>?_⟩
 obtain⟨⟨⟨⟨_,hs⟩,hm,hv⟩,hl⟩,hb⟩:=hG
 exact⟨lb,_,_,_,hl,hb,kfV hb hs hm hv hof hks⟩
theorem khk:KindOk 32 32 k2l:=k1t 32 32 k2l kdt (fun h=>absurd (congrArg ByteArray.size h) (by decide)) (by
 intro t hf hk
 obtain⟨de,ds,ms,h1,h2,h3,h4,h5,h6⟩:=kaW hf hk
 refine⟨by rw[k9W hk h1 h2 h4 h5];simp,?_⟩
 intro E u hu H ps
 refine k0x.enter _ _ H _ ?_
 unfold k0x.W
 repeat refine fkI (fun hh=>(k0N (by decide) hh).elim) (fun _=>?_)
 refine fkI (fun _=>?_) (fun hh=>(k0J hh).elim)
 exact k1B (val:=ifP tq252) (ofA:=fun b=>(tq252,b)) ps ((kiB E t hk hf u [] (hu.no (by decide) (by decide))).imp fun b G h=>kl4 32 hf h))
theorem khj:KindOk 24 24 k2F:=k1t 24 24 k2F kdq (fun h=>absurd (congrArg ByteArray.size h) (by decide)) (by
 intro t hf hk
 obtain⟨ds,os,h1,h2,h3,_⟩:=kaK hf hk
 refine⟨by rw[k9U hk h1 h2 h3];simp,?_⟩
 intro E u hu H ps
 refine k0x.enter _ _ H _ ?_
 unfold k0x.W
 repeat refine fkI (fun hh=>(k0N (by decide) hh).elim) (fun _=>?_)
 refine fkI (fun _=>?_) (fun hh=>(k0J hh).elim)
 exact k1B (val:=ifP tq218) (ofA:=fun b=>(tq218,b)) ps ((kiz E t hk hf u []).imp fun b G h=>kl2 24 hf hk h))
end Go.Vx
