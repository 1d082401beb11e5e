/- A part of the proof of what the last text of this claim says: LW3r5. Conditions: none. -/
import Derived.Test.YtkopcepfeeemhaaGreatDoorCards
import Derived.Test.YtkopcepfeeemhaaGreatDoorTie
import Derived.SevenTiedAt
import Derived.Stop.Joined
import Derived.Test.YtkopcepfeeemhaaGreatDoorYALW2r5
import Derived.Test.YtkopcepfeeemhaaGreatDoorXLG5c
import Derived.Test.YtkopcepfeeemhaaGreatDoorXLG5e
set_option maxRecDepth 100000
namespace Go.Proofs.YtkopcepfeeemhaaGreatDoor
open Go Go.RowKit Go.ChangeShapes Go.WideShapes Go.ChangeAt

theorem enum_said : Rows.FnPartEnumSaid :=
  OpenClaim.holds_of_wide 5 Go.Proofs.Tryz.f5 rfl rfl rfl rfl rfl rfl rfl ⟨rfl, rfl, rfl, rfl, rfl⟩ rfl rfl rfl rfl rfl f5Named Go.Proofs.Tryz.func5 f5Closed
    (of_decide_eq_true (by kernel_rfl)) (by unfold Func.isWrapper; rw [if_neg (by decide +kernel)]; exact ⟨rfl, rfl⟩)
    (fun os started H enc _ => enum_lifted os started H enc)

end Go.Proofs.YtkopcepfeeemhaaGreatDoor
