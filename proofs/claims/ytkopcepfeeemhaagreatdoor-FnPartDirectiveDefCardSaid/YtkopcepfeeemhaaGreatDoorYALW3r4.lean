/- A part of the proof of what the last text of this claim says: LW3r4. Conditions: none. -/
import Derived.Test.YtkopcepfeeemhaaGreatDoorCards
import Derived.Test.YtkopcepfeeemhaaGreatDoorTie
import Derived.SevenTiedAt
import Derived.Stop.Joined
import Derived.Test.YtkopcepfeeemhaaGreatDoorYALW2r4
import Derived.Test.YtkopcepfeeemhaaGreatDoorXLG4c
import Derived.Test.YtkopcepfeeemhaaGreatDoorXLG4e
set_option maxRecDepth 100000
namespace Go.Proofs.YtkopcepfeeemhaaGreatDoor
open Go Go.RowKit Go.ChangeShapes Go.WideShapes Go.ChangeAt

theorem ddef_said : Rows.FnPartDirectiveDefSaid :=
  OpenClaim.holds_of_wide 4 Go.Proofs.Tryz.f4 rfl rfl rfl rfl rfl rfl rfl ⟨rfl, rfl, rfl, rfl, rfl⟩ rfl rfl rfl rfl rfl f4Named Go.Proofs.Tryz.func4 f4Closed
    (of_decide_eq_true (by kernel_rfl)) (by unfold Func.isWrapper; rw [if_neg (by decide +kernel)]; exact ⟨rfl, rfl⟩)
    (fun os started H enc _ => ddef_lifted os started H enc)

end Go.Proofs.YtkopcepfeeemhaaGreatDoor
