/- A part of the proof of what the last text of this claim says: LW3r10. Conditions: none. -/
import Derived.Test.YtndpjeldpdppmaaGreatDoorCards
import Derived.Test.YtndpjeldpdppmaaGreatDoorTie
import Derived.SevenTiedAt
import Derived.Stop.Joined
import Derived.Test.YtndpjeldpdppmaaGreatDoorYBLW2r10
import Derived.Test.YtndpjeldpdppmaaGreatDoorXLG10c
import Derived.Test.YtndpjeldpdppmaaGreatDoorXLG10e
set_option maxRecDepth 100000
namespace Go.Proofs.YtndpjeldpdppmaaGreatDoor
open Go Go.RowKit Go.ChangeShapes Go.WideShapes Go.ChangeAt

theorem scalar_said : Rows.FnPartScalarSaid :=
  OpenClaim.holds_of_wide 10 Go.Proofs.Tryz.f10 rfl rfl rfl rfl rfl rfl rfl ⟨rfl, rfl, rfl, rfl, rfl⟩ rfl rfl rfl rfl rfl f10Named Go.Proofs.Tryz.func10 f10Closed
    (of_decide_eq_true (by kernel_rfl)) (by unfold Func.isWrapper; rw [if_neg (by decide +kernel)]; exact ⟨rfl, rfl⟩)
    (fun os started H enc _ => scalar_lifted os started H enc)

end Go.Proofs.YtndpjeldpdppmaaGreatDoor
