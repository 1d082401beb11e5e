/- A part of the proof of what the last text of this claim says: QP3, QP4. Conditions: none. -/
import Derived.Test.YtpkfgijailfkjaaGreatDoorZAj
import Derived.Test.YtpkfgijailfkjaaGreatDoorZAl
import Derived.Test.YtpkfgijailfkjaaGreatDoorZAm
set_option maxRecDepth 10000
namespace Go.Vx
open Go Go.Proofs
theorem NewLocation_mk (s e:Int) (q:Nat):MkOk fq81 #[.int .i64 s,.int .i64 e,.pointer (some ⟨q,0,none⟩)] #[.int .i64 s,.int .i64 e,.pointer (some ⟨q,0,none⟩)] tq141:=by
 intro H b hb
 refine NewLocation.enter _ H _ ?_
 unfold NewLocation.W
 refine⟨_,lcO hb rfl,_,lcO hb rfl,_,lcO hb rfl,nbI fun H1 e1 hb1 x1 s1=>rkI ⟨_,rfl,x1.of_nil,.inr (Nat.le_refl _),hb1⟩⟩
theorem NewSource_ok (H:Heap) (b:Nat) (bd n c:Nat) (hb:H[b]?=some (.cells #[.slice (some ⟨bd,0,none⟩) n c,.string (bs [])] tq68)):
 Fn PP fq15 #[.pointer (some ⟨b,0,none⟩)] H fun v H'=>v= .pointer (some ⟨b,0,none⟩)∧Ext [b] H H'∧ ∃nm,H'[b]?=some (.cells #[.slice (some ⟨bd,0,none⟩) n c,.string nm] tq68):=by
 refine NewSource.enter b H _ ?_
 unfold NewSource.W
 refine⟨_,lcO hb rfl,fkI (fun _=>?_) (fun hh=>by simp at hh)⟩
 exact swI hb (by simp) rfl rfl fun H1 e1 hb1 x1 s1=>rkI ⟨rfl,x1,_,hb1⟩
theorem LexI_ok (H:Heap) (b:Nat):Fn PP fq34 #[.pointer (some ⟨b,0,none⟩)] H fun v H'=> ∃p s:Nat,v= .func (.func fq67) #[] #[.pointer (some ⟨p,0,none⟩),.pointer (some ⟨s,0,none⟩)]∧Ext [] H H'∧
 H'[s]?=some (.cells #[.pointer (some ⟨b,0,none⟩)] tq52)∧H'[p]?=some (.cells #[.int .i64 0] tq3)∧H.size≤p:=by
 refine LexI.enter b H _ ?_
 unfold LexI.W
 refine nbI fun H1 e1 hb1 x1 s1=>nbI fun H2 e2 hb2 x2 s2=>rkI ⟨H1.size,H.size,rfl,x1.trans x2,x2.get _ _ hb1 (by simp),hb2,by omega⟩
end Go.Vx
