/- A part of the proof of what the last text of this claim says: LW3r10. Conditions: none. -/
import Derived.Test.YtkopcepfeeemhaaGreatDoorCards
import Derived.Test.YtkopcepfeeemhaaGreatDoorTie
import Derived.SevenTiedAt
import Derived.Stop.Joined
import Derived.Test.YtkopcepfeeemhaaGreatDoorYALW2r10
import Derived.Test.YtkopcepfeeemhaaGreatDoorXLG10c
import Derived.Test.YtkopcepfeeemhaaGreatDoorXLG10e
set_option maxRecDepth 100000
namespace Go.Proofs.YtkopcepfeeemhaaGreatDoor
open Go Go.RowKit Go.ChangeShapes Go.WideShapes Go.ChangeAt

theorem input_said : Rows.FnPartInputSaid :=
  OpenClaim.holds_of_wide 10 Go.Proofs.Tryz.f10 rfl rfl rfl rfl rfl rfl rfl ⟨rfl, rfl, rfl, rfl, rfl⟩ rfl rfl rfl rfl rfl f10Named Go.Proofs.Tryz.func10 f10Closed
    (of_decide_eq_true (by kernel_rfl)) (by unfold Func.isWrapper; rw [if_neg (by decide +kernel)]; exact ⟨rfl, rfl⟩)
    (fun os started H enc _ => input_lifted os started H enc)

end Go.Proofs.YtkopcepfeeemhaaGreatDoor
