/- A part of the proof of what the last text of this claim says: LW3r14. Conditions: none. -/
import Derived.Test.YtndpjeldpdppmaaGreatDoorCards
import Derived.Test.YtndpjeldpdppmaaGreatDoorTie
import Derived.SevenTiedAt
import Derived.Stop.Joined
import Derived.Test.YtndpjeldpdppmaaGreatDoorYCLW2r14
import Derived.Test.YtndpjeldpdppmaaGreatDoorXLG14c
import Derived.Test.YtndpjeldpdppmaaGreatDoorXLG14e
set_option maxRecDepth 100000
namespace Go.Proofs.YtndpjeldpdppmaaGreatDoor
open Go Go.RowKit Go.ChangeShapes Go.WideShapes Go.ChangeAt

theorem variable_said : Rows.FnPartVariableSaid :=
  OpenClaim.holds_of_wide 14 Go.Proofs.Tryz.f14 rfl rfl rfl rfl rfl rfl rfl ⟨rfl, rfl, rfl, rfl, rfl⟩ rfl rfl rfl rfl rfl f14Named Go.Proofs.Tryz.func14 f14Closed
    (of_decide_eq_true (by kernel_rfl)) (by unfold Func.isWrapper; rw [if_neg (by decide +kernel)]; exact ⟨rfl, rfl⟩)
    (fun os started H enc _ => variable_lifted os started H enc)

end Go.Proofs.YtndpjeldpdppmaaGreatDoor
