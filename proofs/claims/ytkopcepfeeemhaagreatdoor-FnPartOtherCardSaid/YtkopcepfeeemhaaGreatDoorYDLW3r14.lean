/- A part of the proof of what the last text of this claim says: LW3r14. Conditions: none. -/
import Derived.Test.YtkopcepfeeemhaaGreatDoorCards
import Derived.Test.YtkopcepfeeemhaaGreatDoorTie
import Derived.SevenTiedAt
import Derived.Stop.Joined
import Derived.Test.YtkopcepfeeemhaaGreatDoorYDLW2r14
import Derived.Test.YtkopcepfeeemhaaGreatDoorXLG14c
import Derived.Test.YtkopcepfeeemhaaGreatDoorXLG14e
set_option maxRecDepth 100000
namespace Go.Proofs.YtkopcepfeeemhaaGreatDoor
open Go Go.RowKit Go.ChangeShapes Go.WideShapes Go.ChangeAt
theorem other_said : Rows.FnPartOtherSaid :=
  OpenClaim.holds_of_wide 14 Go.Proofs.Tryz.f14 rfl rfl rfl rfl rfl rfl rfl ⟨rfl, rfl, rfl, rfl, rfl⟩ rfl rfl rfl rfl rfl f14Named Go.Proofs.Tryz.func14 f14Closed
    (of_decide_eq_true (by kernel_rfl)) (by unfold Func.isWrapper; rw [if_neg (by decide +kernel)]; exact ⟨rfl, rfl⟩)
    (fun os started H enc _ => other_lifted os started H enc)
end Go.Proofs.YtkopcepfeeemhaaGreatDoor
