/- A part of the proof of what the last text of this claim says: LW3r12. Conditions: none. -/
import Derived.Test.YtkopcepfeeemhaaGreatDoorCards
import Derived.Test.YtkopcepfeeemhaaGreatDoorTie
import Derived.SevenTiedAt
import Derived.Stop.Joined
import Derived.Test.YtkopcepfeeemhaaGreatDoorYALW2r12
import Derived.Test.YtkopcepfeeemhaaGreatDoorXLG12c
import Derived.Test.YtkopcepfeeemhaaGreatDoorXLG12e
set_option maxRecDepth 100000
namespace Go.Proofs.YtkopcepfeeemhaaGreatDoor
open Go Go.RowKit Go.ChangeShapes Go.WideShapes Go.ChangeAt

theorem object_said : Rows.FnPartObjectSaid :=
  OpenClaim.holds_of_wide 12 Go.Proofs.Tryz.f12 rfl rfl rfl rfl rfl rfl rfl ⟨rfl, rfl, rfl, rfl, rfl⟩ rfl rfl rfl rfl rfl f12Named Go.Proofs.Tryz.func12 f12Closed
    (of_decide_eq_true (by kernel_rfl)) (by unfold Func.isWrapper; rw [if_neg (by decide +kernel)]; exact ⟨rfl, rfl⟩)
    (fun os started H enc _ => object_lifted os started H enc)

end Go.Proofs.YtkopcepfeeemhaaGreatDoor
