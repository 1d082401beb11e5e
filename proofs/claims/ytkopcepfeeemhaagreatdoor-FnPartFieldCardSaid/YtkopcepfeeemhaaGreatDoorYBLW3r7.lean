/- A part of the proof of what the last text of this claim says: LW3r7. Conditions: none. -/
import Derived.Test.YtkopcepfeeemhaaGreatDoorCards
import Derived.Test.YtkopcepfeeemhaaGreatDoorTie
import Derived.SevenTiedAt
import Derived.Stop.Joined
import Derived.Test.YtkopcepfeeemhaaGreatDoorYBLW2r7
import Derived.Test.YtkopcepfeeemhaaGreatDoorXLG7c
import Derived.Test.YtkopcepfeeemhaaGreatDoorXLG7e
set_option maxRecDepth 100000
namespace Go.Proofs.YtkopcepfeeemhaaGreatDoor
open Go Go.RowKit Go.ChangeShapes Go.WideShapes Go.ChangeAt

theorem field_said : Rows.FnPartFieldSaid :=
  OpenClaim.holds_of_wide 7 Go.Proofs.Tryz.f7 rfl rfl rfl rfl rfl rfl rfl ⟨rfl, rfl, rfl, rfl, rfl⟩ rfl rfl rfl rfl rfl f7Named Go.Proofs.Tryz.func7 f7Closed
    (of_decide_eq_true (by kernel_rfl)) (by unfold Func.isWrapper; rw [if_neg (by decide +kernel)]; exact ⟨rfl, rfl⟩)
    (fun os started H enc _ => field_lifted os started H enc)

end Go.Proofs.YtkopcepfeeemhaaGreatDoor
