/- A part of the proof of what the last text of this claim says: LW3r13. Conditions: none. -/
import Derived.Test.YtkopcepfeeemhaaGreatDoorCards
import Derived.Test.YtkopcepfeeemhaaGreatDoorTie
import Derived.SevenTiedAt
import Derived.Stop.Joined
import Derived.Test.YtkopcepfeeemhaaGreatDoorYBLW2r13
import Derived.Test.YtkopcepfeeemhaaGreatDoorXLG13c
import Derived.Test.YtkopcepfeeemhaaGreatDoorXLG13e
set_option maxRecDepth 100000
namespace Go.Proofs.YtkopcepfeeemhaaGreatDoor
open Go Go.RowKit Go.ChangeShapes Go.WideShapes Go.ChangeAt

theorem operation_said : Rows.FnPartOperationSaid :=
  OpenClaim.holds_of_wide 13 Go.Proofs.Tryz.f13 rfl rfl rfl rfl rfl rfl rfl ⟨rfl, rfl, rfl, rfl, rfl⟩ rfl rfl rfl rfl rfl f13Named Go.Proofs.Tryz.func13 f13Closed
    (of_decide_eq_true (by kernel_rfl)) (by unfold Func.isWrapper; rw [if_neg (by decide +kernel)]; exact ⟨rfl, rfl⟩)
    (fun os started H enc _ => operation_lifted os started H enc)

end Go.Proofs.YtkopcepfeeemhaaGreatDoor
