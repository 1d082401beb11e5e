/- A part of the proof of what the last text of this claim says: LW3r3. Conditions: none. -/
import Derived.Test.YtkopcepfeeemhaaGreatDoorCards
import Derived.Test.YtkopcepfeeemhaaGreatDoorTie
import Derived.SevenTiedAt
import Derived.Stop.Joined
import Derived.Test.YtkopcepfeeemhaaGreatDoorYCLW2r3
import Derived.Test.YtkopcepfeeemhaaGreatDoorXLG3c
import Derived.Test.YtkopcepfeeemhaaGreatDoorXLG3e
set_option maxRecDepth 100000
namespace Go.Proofs.YtkopcepfeeemhaaGreatDoor
open Go Go.RowKit Go.ChangeShapes Go.WideShapes Go.ChangeAt

theorem args_said : Rows.FnPartArgumentsSaid :=
  OpenClaim.holds_of_wide 3 Go.Proofs.Tryz.f3 rfl rfl rfl rfl rfl rfl rfl ⟨rfl, rfl, rfl, rfl, rfl⟩ rfl rfl rfl rfl rfl f3Named Go.Proofs.Tryz.func3 f3Closed
    (of_decide_eq_true (by kernel_rfl)) (by unfold Func.isWrapper; rw [if_neg (by decide +kernel)]; exact ⟨rfl, rfl⟩)
    (fun os started H enc _ => args_lifted os started H enc)

end Go.Proofs.YtkopcepfeeemhaaGreatDoor
