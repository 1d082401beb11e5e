/- A part of the proof of what the last text of this claim says: QS2. Conditions: none. -/
import Derived.Test.YtkopcepfeeemhaaGreatDoorYCAk
import Derived.Test.YtkopcepfeeemhaaGreatDoorYCAl
set_option maxRecDepth 10000
namespace Go.Vx
open Go Go.Proofs
theorem zzFits3N_ok (a:Option Addr) (c:Nat) (H:Heap):Fn PP fq15 #[.slice a 0 c] H fun v H'=>v= .bool true∧H=H':=by
 refine zzFits3N.enter a 0 c H _ ?_
 unfold zzFits3N.W
 refine fkI (fun hh=>absurd hh (by decide)) (fun _=>?_)
 refine⟨fun z H'=>H=H'∧z.1=0,fun _ _=>0,⟨rfl,rfl⟩,?_⟩
 rintro⟨z,_⟩ _ ⟨rfl,hz⟩
 dsimp only at hz⊢
 subst hz
 exact fkI (fun hh=>by simp at hh) (fun _=>rkI ⟨rfl,rfl⟩)
theorem AnyDocumentN_ok (a:Option Addr) (c:Nat) (H:Heap):Fn PP fq16 #[.slice a 0 c] H fun v H'=>v= .bool false∧H=H':=by
 refine AnyDocumentN.enter a 0 c H _ ?_
 unfold AnyDocumentN.W
 refine rightFromN.enter a 0 c H _ ?_
 unfold rightFromN.W
 refine fkI (fun _=>?_) (fun hh=>absurd hh (by decide))
 exact rkI ⟨false,rfl,fkI (fun hh=>absurd hh (by decide)) (fun _=>rkI ⟨rfl,rfl⟩)⟩
end Go.Vx
