/- A part of the proof of what the last text of this claim says: QS1. Conditions: none. -/
import Derived.Test.YtkopcepfeeemhaaGreatDoorYDAh
import Derived.Test.YtkopcepfeeemhaaGreatDoorYDAu
set_option maxRecDepth 10000
namespace Go.Vx
open Go Go.Proofs
theorem Spaced.size {p:Option BA} {l:List BA} {t:BA} (h:Spaced p l t) (M:Nat) (hM: ∀s∈l,s.size≤M):t.size≤l.length*(M+5):=by
 induction h with
 |nil=>exact Nat.zero_le _
 |cons p l gap rest r hg _ ih=>
  have h1:=ih fun s hs=>hM s (List.mem_cons_of_mem _ hs)
  have h2:=hM l (by simp)
  have h3:gap.size≤5:=by
   have:=hg.1
   simp only[gapL,List.mem_cons,List.not_mem_nil,or_false] at this
   rcases this with rfl|rfl|rfl|rfl|rfl|rfl|rfl|rfl|rfl|rfl|rfl<;>decide
  rw[ByteArray.size_append,ByteArray.size_append,List.length_cons,Nat.add_mul]
  omega
theorem Toks.len {ss:List BA} {ts:List KV} (h:Toks ss ts):ss.length=ts.length:=by
 induction h with
 |nil=>rfl
 |cons _ _ ih=>simp[ih]
theorem Toks.pos {ss:List BA} {ts:List KV} (h:Toks ss ts): ∀s∈ss,0<s.size:=by
 induction h with
 |nil=>intro s hs;simp at hs
 |cons h _ ih=>
  intro s hs
  rcases List.mem_cons.1 hs with rfl|hs
  ·exact h.pos
  ·exact ih s hs
structure KindOk (kind step:Int) (nm:BA):Prop where
 name: ∀H,Fn PP fq33 #[.int .i64 step] H fun v H'=>v= .string nm∧H=H'
 ne:nm≠eB
 ok: ∀t:Tr,Good t→Ws t→t.n.kind=kind→(flat t).length≤400→(∀m∈flat t,k1c m≤4000)→
  ∃ks:List KV,Toks (toks t) ks∧ks≠ []∧ks.length≤10*(flat t).length∧(∀s∈toks t,s.size≤30000)∧k3Z nm step ks (flat t)
end Go.Vx
