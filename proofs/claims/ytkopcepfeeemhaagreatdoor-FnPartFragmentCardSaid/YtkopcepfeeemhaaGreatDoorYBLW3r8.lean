/- A part of the proof of what the last text of this claim says: LW3r8. Conditions: none. -/
import Derived.Test.YtkopcepfeeemhaaGreatDoorCards
import Derived.Test.YtkopcepfeeemhaaGreatDoorTie
import Derived.SevenTiedAt
import Derived.Stop.Joined
import Derived.Test.YtkopcepfeeemhaaGreatDoorYBLW2r8
import Derived.Test.YtkopcepfeeemhaaGreatDoorXLG8c
import Derived.Test.YtkopcepfeeemhaaGreatDoorXLG8e
set_option maxRecDepth 100000
namespace Go.Proofs.YtkopcepfeeemhaaGreatDoor
open Go Go.RowKit Go.ChangeShapes Go.WideShapes Go.ChangeAt

theorem fragment_said : Rows.FnPartFragmentSaid :=
  OpenClaim.holds_of_wide 8 Go.Proofs.Tryz.f8 rfl rfl rfl rfl rfl rfl rfl ⟨rfl, rfl, rfl, rfl, rfl⟩ rfl rfl rfl rfl rfl f8Named Go.Proofs.Tryz.func8 f8Closed
    (of_decide_eq_true (by kernel_rfl)) (by unfold Func.isWrapper; rw [if_neg (by decide +kernel)]; exact ⟨rfl, rfl⟩)
    (fun os started H enc _ => fragment_lifted os started H enc)

end Go.Proofs.YtkopcepfeeemhaaGreatDoor
