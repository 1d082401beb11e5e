/- A part of the proof of what the last text of this claim says: QS2. Conditions: none. -/
import Derived.Test.YtkopcepfeeemhaaGreatDoorYDAv
import Derived.Test.YtkopcepfeeemhaaGreatDoorYDAw
set_option maxRecDepth 10000
namespace Go.Vx
open Go Go.Proofs
theorem keH (a:OA) (c:Nat) (H:Heap):Fn PP fq15 #[.slice a 0 c] H fun v H'=>v= .bool true∧H=H':=by
 refine k7D.enter a 0 c H _ ?_
 unfold k7D.W
 refine fkI (fun hh=>absurd hh (by decide)) (fun _=>?_)
 refine⟨fun z H'=>H=H'∧z.1=0,fun _ _=>0,⟨rfl,rfl⟩,?_⟩
 rintro⟨z,_⟩ _ ⟨rfl,hz⟩
 dsimp only at hz⊢
 subst hz
 exact fkI (fun hh=>by simp at hh) (fun _=>rkI ⟨rfl,rfl⟩)
theorem kaY (a:OA) (c:Nat) (H:Heap):Fn PP fq16 #[.slice a 0 c] H fun v H'=>v= .bool false∧H=H':=by
 refine k5c.enter a 0 c H _ ?_
 unfold k5c.W
 refine k6I.enter a 0 c H _ ?_
 unfold k6I.W
 refine fkI (fun _=>?_) (fun hh=>absurd hh (by decide))
 exact rkI ⟨false,rfl,fkI (fun hh=>absurd hh (by decide)) (fun _=>rkI ⟨rfl,rfl⟩)⟩
end Go.Vx
