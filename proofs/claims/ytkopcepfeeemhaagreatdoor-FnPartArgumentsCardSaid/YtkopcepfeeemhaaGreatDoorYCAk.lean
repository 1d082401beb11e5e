/- A part of the proof of what the last text of this claim says: QS1. Conditions: none. -/
import Derived.Test.YtkopcepfeeemhaaGreatDoorZAi
import Derived.Test.YtkopcepfeeemhaaGreatDoorYCAj
set_option maxRecDepth 10000
namespace Go.Vx
open Go Go.Proofs
theorem Spaced.size {p:Option ByteArray} {l:List ByteArray} {t:ByteArray} (h:Spaced p l t) (M:Nat) (hM: ∀s∈l,s.size≤M):t.size≤l.length*(M+5):=by
 induction h with
 |nil=>exact Nat.zero_le _
 |cons p l gap rest r hg _ ih=>
  have h1:=ih fun s hs=>hM s (List.mem_cons_of_mem _ hs)
  have h2:=hM l (by simp)
  have h3:gap.size≤5:=by
   have:=hg.1
   simp only[gapL,List.mem_cons,List.not_mem_nil,or_false] at this
   rcases this with rfl|rfl|rfl|rfl|rfl|rfl|rfl|rfl|rfl|rfl|rfl<;>decide
  rw[ByteArray.size_append,ByteArray.size_append,List.length_cons,Nat.add_mul]
  omega
theorem Toks.len {ss:List ByteArray} {ts:List KV} (h:Toks ss ts):ss.length=ts.length:=by
 induction h with
 |nil=>rfl
 |cons _ _ ih=>simp[ih]
theorem Toks.pos {ss:List ByteArray} {ts:List KV} (h:Toks ss ts): ∀s∈ss,0<s.size:=by
 induction h with
 |nil=>intro s hs;simp at hs
 |cons h _ ih=>
  intro s hs
  rcases List.mem_cons.1 hs with rfl|hs
  ·exact h.pos
  ·exact ih s hs
mutual
theorem preT_trans: ∀ {t u:Tr},u∈preT t→ ∀q∈preT u,q∈preT t
 | .node n ks,u,h,q,hq=>by
  simp only[preT,List.mem_cons] at h⊢
  rcases h with rfl|h
  ·simpa only[preT,List.mem_cons] using hq
  ·exact .inr (preL_trans h q hq)
theorem preL_trans: ∀ {l:List Tr} {u:Tr},u∈preL l→ ∀q∈preT u,q∈preL l
 |[],u,h,q,hq=>by simp[preL] at h
 |t::r,u,h,q,hq=>by
  simp only[preL,List.mem_append] at h⊢
  rcases h with h|h
  ·exact .inl (preT_trans h q hq)
  ·exact .inr (preL_trans h q hq)
end
end Go.Vx
