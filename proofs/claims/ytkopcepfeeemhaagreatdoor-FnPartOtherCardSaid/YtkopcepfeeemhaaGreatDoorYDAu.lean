/- A part of the proof of what the last text of this claim says: QR2. Conditions: none. -/
import Derived.Test.YtkopcepfeeemhaaGreatDoorYDAs
import Derived.Test.YtkopcepfeeemhaaGreatDoorYDAt
set_option maxRecDepth 10000
namespace Go.Vx
open Go Go.Proofs
theorem kfO {l m:List UInt8} (h:bs l=bs m):l=m:=by
 have:=congrArg (fun x:BA=>x.data.toList) h
 simpa [bs] using this
theorem k0N {l m:List UInt8} (h:(l==m)=false) (hh:((bs l).toList==(bs m).toList)=true):False:=by
 rw[k0t,decide_eq_true_eq] at hh
 rw[kfO hh] at h
 simp at h
theorem k0J {l:List UInt8} (hh:((bs l).toList==(bs l).toList)=false):False:=by
 rw[k0t] at hh
 simp at hh
theorem k7J (E:PEnv) (l:List KV) (T b:Nat):POk E fq87 #[.iface T (.pointer (some ⟨b,0,none⟩)),nI] l l (fun x:Sl=> .tuple #[.slice x.1 x.2.1 x.2.2,nI])
 fun x G=>x.2.1=1∧ ∃g:Nat,x.1=some ⟨g,0,none⟩∧G[g]?=some (.cells #[.iface T (.pointer (some ⟨b,0,none⟩))] tq20):=by
 intro H ps
 refine k5o.enter T b H _ ?_
 unfold k5o.W
 refine nbI fun H1 e1 hb1 x1 s1=>rkI ⟨(some ⟨H.size,0,none⟩,1,1),rfl,?_⟩
 exact((Cx.start ps).add x1 (F':=fun G=>G[H.size]?=some (.cells #[.iface T (.pointer (some ⟨b,0,none⟩))] tq20)) fun G hG=>hG _ _ (Nat.le_refl _) hb1).weak fun G hG=>⟨rfl,H.size,rfl,hG.2⟩
theorem kan (E:PEnv) (t:KV) (l:List KV):POk1 E fq163 #[.pointer (some ⟨E.p,0,none⟩)] (t::l) (t::l) (.bool (t.1==18||t.1==19)):=by
 intro H ps
 refine peekDescription.enter _ H _ ?_
 unfold peekDescription.W
 refine⟨fun y H'=>y.1=(t.1==18||t.1==19)∧Cx E H H' (t::l) fun _=>True,?_,?_⟩
 ·refine(Cx.start ps).call1 (k1k E t l 18) (t.1==18) rfl fun H1 _ c1=>?_
  refine fkI (fun hh=>⟨by simp[hh],c1⟩) (fun hh=>?_)
  refine c1.call1 (k1k E t l 19) (t.1==19) rfl fun H2 _ c2=>⟨by simp[hh],c2⟩
 ·rintro⟨y,_⟩ H1 ⟨rfl,c1⟩
  exact rkI ⟨rfl,c1⟩
theorem kdd (E:PEnv) (t:KV) (l:List KV) (h1:t.1≠18) (h2:t.1≠19):POk1 E fq108 #[.pointer (some ⟨E.p,0,none⟩)] (t::l) (t::l) (.tuple #[.pointer none,nI]):=by
 intro H ps
 refine parseDescription.enter _ H _ ?_
 unfold parseDescription.W
 refine(Cx.start ps).call1 (kan E t l) (t.1==18||t.1==19) rfl fun H1 _ c1=>?_
 exact fkI (fun hh=>by simp[h1,h2] at hh) (fun _=>rkI ⟨rfl,c1⟩)
theorem kju {E:Src} {H:Heap} (h:SrcAt E H) (at_ i:Nat) (hw:WsRun E.text at_ i) (hi:E.text.size≤i):
 Fn PP fq197 #[.pointer (some ⟨E.src,0,none⟩),.int .i64 at_] H fun r H'=>r= .tuple #[.agg #[.int .i64 1,.int .i64 i,.int .i64 i,.string eB],nI]∧Ext [] H H':=by
 refine readToken.enter _ _ H _ ?_
 unfold readToken.W
 refine nbI fun H1 e1 hb1 x1 s1=>?_
 have h1:=h.ext x1
 obtain⟨nm,fr,hsrc⟩:=h1.src
 refine⟨(E.body,0,E.text.size,E.cap),lcO hsrc rfl,?_⟩
 dsimp only
 refine(k51 h1 at_ i hw).mono ?_
 rintro _ _ ⟨rfl,rfl⟩
 refine⟨((i:Int),(i:Int)),rfl,?_⟩
 dsimp only
 refine fkI (fun _=>?_) (fun hge=>by exfalso;simp at hge;omega)
 have hfin: ∀H',Ext [H.size] H1 H'→Ext [] H H':=fun H' x=>⟨by have:=x1.size;have:=x.size;omega,fun q o hq _=>x.get _ _ (x1.get _ _ hq (by simp)) (by have:=k0l hq;simp;omega)⟩
 exact k8D hb1 rfl rfl (k4k _ _ _ _ _) fun H' x=>⟨rfl,hfin H' x⟩
theorem kee:TailOk (bs []) [(1,eB)]:=by
 refine⟨.inl rfl,.inl rfl,fun E e hsf he hsm=>?_⟩
 have hz:=hsf.size
 have e0:(bs []).size=0:=rfl
 refine⟨e,e,⟨Nat.le_refl _,by omega,he,fun h=>absurd h (by decide),fun H hH=>kju hH e e (.stop _ (.inl (by omega))) (by omega)⟩,?_⟩
 show e=E.text.size
 omega
theorem k83 (l:List UInt8) (h0:l≠ []) (h: ∀j,j<l.length→k2M (bs l) j=true):k19 (bs l):=⟨by simp[bs,ByteArray.size];exact List.length_pos_iff.2 h0,fun j hj=>h j (by simpa [bs,ByteArray.size] using hj)⟩
theorem kd6 {s:BA} (h:k2p s):k19 s:=by
 rcases h with rfl|rfl|rfl<;>exact k83 _ (by simp) (by decide)
theorem kam (H:Heap):Fn PP fq33 #[.int .i64 26] H fun v H'=>v= .string k1f∧H=H':=by
 refine partName.enter 26 H _ ?_
 unfold partName.W
 repeat refine fkI (fun hh=>absurd hh (by decide)) (fun _=>?_)
 refine fkI (fun _=>rkI ⟨rfl,rfl⟩) (fun hh=>absurd hh (by decide))
end Go.Vx
