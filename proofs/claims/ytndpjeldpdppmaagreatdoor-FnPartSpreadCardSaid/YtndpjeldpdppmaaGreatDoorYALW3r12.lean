/- A part of the proof of what the last text of this claim says: LW3r12. Conditions: none. -/
import Derived.Test.YtndpjeldpdppmaaGreatDoorCards
import Derived.Test.YtndpjeldpdppmaaGreatDoorTie
import Derived.SevenTiedAt
import Derived.Stop.Joined
import Derived.Test.YtndpjeldpdppmaaGreatDoorYALW2r12
import Derived.Test.YtndpjeldpdppmaaGreatDoorXLG12c
import Derived.Test.YtndpjeldpdppmaaGreatDoorXLG12e
set_option maxRecDepth 100000
namespace Go.Proofs.YtndpjeldpdppmaaGreatDoor
open Go Go.RowKit Go.ChangeShapes Go.WideShapes Go.ChangeAt

theorem spread_said : Rows.FnPartSpreadSaid :=
  OpenClaim.holds_of_wide 12 Go.Proofs.Tryz.f12 rfl rfl rfl rfl rfl rfl rfl ⟨rfl, rfl, rfl, rfl, rfl⟩ rfl rfl rfl rfl rfl f12Named Go.Proofs.Tryz.func12 f12Closed
    (of_decide_eq_true (by kernel_rfl)) (by unfold Func.isWrapper; rw [if_neg (by decide +kernel)]; exact ⟨rfl, rfl⟩)
    (fun os started H enc _ => spread_lifted os started H enc)

end Go.Proofs.YtndpjeldpdppmaaGreatDoor
