/- A part of the proof of what the last text of this claim says: LW3r11. Conditions: none. -/
import Derived.Test.YtkopcepfeeemhaaGreatDoorCards
import Derived.Test.YtkopcepfeeemhaaGreatDoorTie
import Derived.SevenTiedAt
import Derived.Stop.Joined
import Derived.Test.YtkopcepfeeemhaaGreatDoorYALW2r11
import Derived.Test.YtkopcepfeeemhaaGreatDoorXLG11c
import Derived.Test.YtkopcepfeeemhaaGreatDoorXLG11e
set_option maxRecDepth 100000
namespace Go.Proofs.YtkopcepfeeemhaaGreatDoor
open Go Go.RowKit Go.ChangeShapes Go.WideShapes Go.ChangeAt

theorem inter_said : Rows.FnPartInterfaceSaid :=
  OpenClaim.holds_of_wide 11 Go.Proofs.Tryz.f11 rfl rfl rfl rfl rfl rfl rfl ⟨rfl, rfl, rfl, rfl, rfl⟩ rfl rfl rfl rfl rfl f11Named Go.Proofs.Tryz.func11 f11Closed
    (of_decide_eq_true (by kernel_rfl)) (by unfold Func.isWrapper; rw [if_neg (by decide +kernel)]; exact ⟨rfl, rfl⟩)
    (fun os started H enc _ => inter_lifted os started H enc)

end Go.Proofs.YtkopcepfeeemhaaGreatDoor
