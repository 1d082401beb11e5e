/- A part of the proof of what the last text of this claim says: QV5, QV6, QV7, QV8, QT6, QV9, QV10. Conditions: none. -/
import Derived.Test.YtpkfgijailfkjaaGreatDoorZBb
import Derived.Test.YtpkfgijailfkjaaGreatDoorZBc
set_option maxRecDepth 10000
namespace Go.Vx
open Go Go.Proofs
theorem valT_asC (x:Nat×Nat) (h:ValT x.1): ∀w,(Instr.typeAssert (ifV x) tq20 tq203 true).run PP w= .ok (asV (ifV x) true) w:=by
 obtain⟨T,b⟩:=x
 rcases h with rfl|rfl|rfl|rfl|rfl|rfl|rfl|rfl
 all_goals
  intro w
  kernel_rfl
section
variable {E:PEnv} {t:Tr} {de ds ar:List Tr} {ty:Tr}
end
section
variable {b:Nat} {t:Tr} {G:Heap}
end
section
variable {E:PEnv} {t:Tr} {de ds ms os:List Tr}
end
section
variable {G:Heap} {b lb nb:Nat} {t:Tr}
end
section
variable {G:Heap} {b lb nb:Nat} {t:Tr}
end
end Go.Vx
