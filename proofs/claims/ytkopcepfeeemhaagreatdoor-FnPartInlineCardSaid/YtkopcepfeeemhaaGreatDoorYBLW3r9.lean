/- A part of the proof of what the last text of this claim says: LW3r9. Conditions: none. -/
import Derived.Test.YtkopcepfeeemhaaGreatDoorCards
import Derived.Test.YtkopcepfeeemhaaGreatDoorTie
import Derived.SevenTiedAt
import Derived.Stop.Joined
import Derived.Test.YtkopcepfeeemhaaGreatDoorYBLW2r9
import Derived.Test.YtkopcepfeeemhaaGreatDoorXLG9c
import Derived.Test.YtkopcepfeeemhaaGreatDoorXLG9e
set_option maxRecDepth 100000
namespace Go.Proofs.YtkopcepfeeemhaaGreatDoor
open Go Go.RowKit Go.ChangeShapes Go.WideShapes Go.ChangeAt

theorem inline_said : Rows.FnPartInlineSaid :=
  OpenClaim.holds_of_wide 9 Go.Proofs.Tryz.f9 rfl rfl rfl rfl rfl rfl rfl ⟨rfl, rfl, rfl, rfl, rfl⟩ rfl rfl rfl rfl rfl f9Named Go.Proofs.Tryz.func9 f9Closed
    (of_decide_eq_true (by kernel_rfl)) (by unfold Func.isWrapper; rw [if_neg (by decide +kernel)]; exact ⟨rfl, rfl⟩)
    (fun os started H enc _ => inline_lifted os started H enc)

end Go.Proofs.YtkopcepfeeemhaaGreatDoor
