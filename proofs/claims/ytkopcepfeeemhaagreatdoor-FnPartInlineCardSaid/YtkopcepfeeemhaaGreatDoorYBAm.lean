/- A part of the proof of what the last text of this claim says: QS2. Conditions: none. -/
import Derived.Test.YtkopcepfeeemhaaGreatDoorYBAk
import Derived.Test.YtkopcepfeeemhaaGreatDoorYBAl
set_option maxRecDepth 10000
namespace Go.Vx
open Go Go.Proofs
theorem zzFits3N_ok (a:Option Addr) (c:Nat) (H:Heap):Fn PP fq15 #[.slice a 0 c] H fun v H'=>v= .bool true∧H=H':=by
 refine zzFits3N.enter a 0 c H _ ?_
 unfold zzFits3N.W
 refine fkI (fun hh=>absurd hh (by decide)) (fun _=>?_)
 refine⟨fun z H'=>H=H'∧z.1=0,fun _ _=>0,⟨rfl,rfl⟩,?_⟩
 rintro⟨z,_⟩ _ ⟨rfl,hz⟩
 dsimp only at hz⊢
 subst hz
 exact fkI (fun hh=>by simp at hh) (fun _=>rkI ⟨rfl,rfl⟩)
theorem AnyDocumentN_ok (a:Option Addr) (c:Nat) (H:Heap):Fn PP fq16 #[.slice a 0 c] H fun v H'=>v= .bool false∧H=H':=by
 refine AnyDocumentN.enter a 0 c H _ ?_
 unfold AnyDocumentN.W
 refine rightFromN.enter a 0 c H _ ?_
 unfold rightFromN.W
 refine fkI (fun _=>?_) (fun hh=>absurd hh (by decide))
 exact rkI ⟨false,rfl,fkI (fun hh=>absurd hh (by decide)) (fun _=>rkI ⟨rfl,rfl⟩)⟩
theorem part9N_ok (a:Option Addr) (c:Nat) (kind step which:Int) (byA:Option Addr) (byN byC:Nat) (H:Heap):
 Fn PP fq25 #[.slice a 0 c,.int .i64 kind,.int .i64 step,.int .u8 which,.slice byA byN byC] H fun v H'=>v= .bool true∧Ext [] H H':=by
 refine part9N.enter a 0 c kind step which byA byN byC H _ ?_
 unfold part9N.W
 refine⟨fun y H'=>Ext [] H H'∧y.1=true,?_,?_⟩
 ·refine(AnyDocumentN_ok a c H).mono ?_
  rintro _ _ ⟨rfl,rfl⟩
  exact⟨false,rfl,fkI (fun _=>⟨Ext.refl _ _,rfl⟩) (fun hh=>absurd hh (by decide))⟩
 rintro⟨y,_⟩ H1 ⟨x1,hy⟩
 dsimp only at hy⊢
 subst hy
 exact fkI (fun _=>rkI ⟨rfl,x1⟩) (fun hh=>absurd hh (by decide))
def lawG (kind step:Int) (dv:Value) (which:Int) (byA:Option Addr) (byAN byAC:Nat) (H:Heap) (R:Value→Heap→Prop):Prop:=
 joinK (Bool×Unit) (fun J1=>
 callW PP fq15 #[dv] H pBool fun(x4:Bool) H5=>
  forkB (!x4)
  (J1 (true,()) H5)
  (J1 ((decide (((byAN:Nat):Int)>2147483647)),()) H5)) fun y2 H3=>
 forkB y2.1
 (retK (some [(.bool true)]) H3 R)
 (callW PP fq25 #[dv,(.int .i64 kind),(.int .i64 step),(.int .u8 which),(.slice byA byAN byAC)] H3 pBool fun(x6:Bool) H7=>
   retK (some [(.bool x6)]) H7 R)
theorem lawN_ok (a:Option Addr) (c:Nat) (kind step which:Int) (byA:Option Addr) (byN byC:Nat) (H:Heap):lawG kind step (.slice a 0 c) which byA byN byC H fun v H'=>v= .bool true∧Ext [] H H':=by
 refine⟨fun _ H'=>Ext [] H H',?_,?_⟩
 ·refine(zzFits3N_ok a c H).mono ?_
  rintro _ _ ⟨rfl,rfl⟩
  exact⟨true,rfl,fkI (fun _=>Ext.refl _ _) (fun _=>Ext.refl _ _)⟩
 rintro⟨y,_⟩ H1 x1
 dsimp only
 refine fkI (fun _=>rkI ⟨rfl,x1⟩) (fun _=>?_)
 refine(part9N_ok a c kind step which byA byN byC H1).mono ?_
 rintro _ H2 ⟨rfl,x2⟩
 exact⟨true,rfl,rkI ⟨rfl,x1.trans x2⟩⟩
theorem law_ok {kind step:Int} {nm:ByteArray} (hK:KindOk kind step nm) (b o n c:Nat) (ds:List Nd) (H:Heap) (h:NodesAt H b o ds) (hn:n=ds.length) (hc:n≤c) (which:Int) (hw:0≤which∧which≤255)
 (byA:Option Addr) (byN byC:Nat) (ys:List Int) (hy:SlcAt H byA byN (ys.map (.int .u8 ·))) (hyr: ∀y∈ys,0≤y∧y≤255) (hTb:TabsAt H.size H):
 lawG kind step (.slice (some ⟨b,o,none⟩) n c) which byA byN byC H fun v H'=>v= .bool true∧Ext [] H H':=by
 refine⟨fun y H'=>Ext [] H H'∧(y.1=false→Small ds∧n<2147483648),?_,?_⟩
 ·refine(zzFits3_ok b o n c ds H h hn).mono ?_
  rintro _ H1 ⟨r,rfl,x1,hr⟩
  refine⟨r,rfl,fkI (fun _=>⟨x1,by simp⟩) (fun hr1=>⟨x1,fun _=>hr (by simpa using hr1)⟩)⟩
 rintro⟨y,_⟩ H1 ⟨x1,hs⟩
 dsimp only at hs⊢
 refine fkI (fun _=>rkI ⟨rfl,x1⟩) (fun hy1=>?_)
 obtain⟨hs1,hlt⟩:=hs hy1
 refine(part9_ok kind step nm hK b o n c ds H1 ⟨h.ext x1 (by simp),hn,hlt⟩ hs1 hc which hw byA byN byC ys (hy.ext x1 (by simp)) hyr (hTb.up x1)).mono ?_
 rintro _ H2 ⟨rfl,x2⟩
 exact⟨true,rfl,rkI ⟨rfl,x1.trans x2⟩⟩
end Go.Vx
