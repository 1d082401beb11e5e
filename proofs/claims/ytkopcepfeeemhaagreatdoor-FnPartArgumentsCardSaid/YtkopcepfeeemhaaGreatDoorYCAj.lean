/- A part of the proof of what the last text of this claim says: QR2. Conditions: none. -/
import Derived.Test.YtkopcepfeeemhaaGreatDoorYCAh
import Derived.Test.YtkopcepfeeemhaaGreatDoorYCAi
set_option maxRecDepth 10000
namespace Go.Vx
open Go Go.Proofs
theorem bs_inj {l m:List UInt8} (h:bs l=bs m):l=m:=by
 have:=congrArg (fun x:ByteArray=>x.data.toList) h
 simpa [bs] using this
theorem neq_bs {l m:List UInt8} (h:(l==m)=false) (hh:((bs l).toList==(bs m).toList)=true):False:=by
 rw[bytes_beq,decide_eq_true_eq] at hh
 rw[bs_inj hh] at h
 simp at h
theorem eq_bs {l:List UInt8} (hh:((bs l).toList==(bs l).toList)=false):False:=by
 rw[bytes_beq] at hh
 simp at hh
theorem peekDescription_ok (E:PEnv) (t:KV) (l:List KV):POk1 E fq163 #[.pointer (some ⟨E.p,0,none⟩)] (t::l) (t::l) (.bool (t.1==18||t.1==19)):=by
 intro H ps
 refine peekDescription.enter _ H _ ?_
 unfold peekDescription.W
 refine⟨fun y H'=>y.1=(t.1==18||t.1==19)∧Cx E H H' (t::l) fun _=>True,?_,?_⟩
 ·refine(Cx.start ps).call1 (peek_ok E t l 18) (t.1==18) rfl fun H1 _ c1=>?_
  refine fkI (fun hh=>⟨by simp[hh],c1⟩) (fun hh=>?_)
  refine c1.call1 (peek_ok E t l 19) (t.1==19) rfl fun H2 _ c2=>⟨by simp[hh],c2⟩
 ·rintro⟨y,_⟩ H1 ⟨rfl,c1⟩
  exact rkI ⟨rfl,c1⟩
theorem parseDescription_none (E:PEnv) (t:KV) (l:List KV) (h1:t.1≠18) (h2:t.1≠19):POk1 E fq108 #[.pointer (some ⟨E.p,0,none⟩)] (t::l) (t::l) (.tuple #[.pointer none,.nilIface]):=by
 intro H ps
 refine parseDescription.enter _ H _ ?_
 unfold parseDescription.W
 refine(Cx.start ps).call1 (peekDescription_ok E t l) (t.1==18||t.1==19) rfl fun H1 _ c1=>?_
 exact fkI (fun hh=>by simp[h1,h2] at hh) (fun _=>rkI ⟨rfl,c1⟩)
theorem nameP_of (l:List UInt8) (h0:l≠ []) (h: ∀j,j<l.length→nameC (bs l) j=true):NameP (bs l):=⟨by simp[bs,ByteArray.size];exact List.length_pos_iff.2 h0,fun j hj=>h j (by simpa [bs,ByteArray.size] using hj)⟩
theorem opWord_name {s:ByteArray} (h:OpWord s):NameP s:=by
 rcases h with rfl|rfl|rfl<;>exact nameP_of _ (by simp) (by decide)
end Go.Vx
