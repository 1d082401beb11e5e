/- A part of the proof of what the last text of this claim says: LW3r6. Conditions: none. -/
import Derived.Test.YtkopcepfeeemhaaGreatDoorCards
import Derived.Test.YtkopcepfeeemhaaGreatDoorTie
import Derived.SevenTiedAt
import Derived.Stop.Joined
import Derived.Test.YtkopcepfeeemhaaGreatDoorYALW2r6
import Derived.Test.YtkopcepfeeemhaaGreatDoorXLG6c
import Derived.Test.YtkopcepfeeemhaaGreatDoorXLG6e
set_option maxRecDepth 100000
namespace Go.Proofs.YtkopcepfeeemhaaGreatDoor
open Go Go.RowKit Go.ChangeShapes Go.WideShapes Go.ChangeAt

theorem extend_said : Rows.FnPartExtendSaid :=
  OpenClaim.holds_of_wide 6 Go.Proofs.Tryz.f6 rfl rfl rfl rfl rfl rfl rfl ⟨rfl, rfl, rfl, rfl, rfl⟩ rfl rfl rfl rfl rfl f6Named Go.Proofs.Tryz.func6 f6Closed
    (of_decide_eq_true (by kernel_rfl)) (by unfold Func.isWrapper; rw [if_neg (by decide +kernel)]; exact ⟨rfl, rfl⟩)
    (fun os started H enc _ => extend_lifted os started H enc)

end Go.Proofs.YtkopcepfeeemhaaGreatDoor
