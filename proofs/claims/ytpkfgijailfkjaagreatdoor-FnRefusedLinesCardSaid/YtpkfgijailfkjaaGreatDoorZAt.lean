/- A part of the proof of what the last text of this claim says: QR2. Conditions: none. -/
import Derived.Test.YtpkfgijailfkjaaGreatDoorZAr
import Derived.Test.YtpkfgijailfkjaaGreatDoorZAs
set_option maxRecDepth 10000
namespace Go.Vx
open Go Go.Proofs
theorem eq_bs {l:List UInt8} (hh:((bs l).toList==(bs l).toList)=false):False:=by
 rw[bytes_beq] at hh
 simp at hh
theorem readToken_eof {E:Src} {H:Heap} (h:SrcAt E H) (at_ i:Nat) (hw:WsRun E.text at_ i) (hi:E.text.size≤i):
 Fn PP fq68 #[.pointer (some ⟨E.src,0,none⟩),.int .i64 at_] H fun r H'=>r= .tuple #[.agg #[.int .i64 1,.int .i64 i,.int .i64 i,.string eB],.nilIface]∧Ext [] H H':=by
 refine readToken.enter _ _ H _ ?_
 unfold readToken.W
 refine nbI fun H1 e1 hb1 x1 s1=>?_
 have h1:=h.ext x1
 obtain⟨nm,fr,hsrc⟩:=h1.src
 refine⟨(E.body,0,E.text.size,E.cap),lcO hsrc rfl,?_⟩
 dsimp only
 refine(posAfter_ok h1 at_ i hw).mono ?_
 rintro _ _ ⟨rfl,rfl⟩
 refine⟨((i:Int),(i:Int)),rfl,?_⟩
 dsimp only
 refine fkI (fun _=>?_) (fun hge=>by exfalso;simp at hge;omega)
 have hfin: ∀H',Ext [H.size] H1 H'→Ext [] H H':=fun H' x=>⟨by have:=x1.size;have:=x.size;omega,fun q o hq _=>x.get _ _ (x1.get _ _ hq (by simp)) (by have:=lt_of_get hq;simp;omega)⟩
 exact tok_ret hb1 rfl rfl (makeToken_ok _ _ _ _ _) fun H' x=>⟨rfl,hfin H' x⟩
end Go.Vx
