/- A part of the proof of what the last text of this claim says: LW3r6. Conditions: none. -/
import Derived.Test.YtndpjeldpdppmaaGreatDoorCards
import Derived.Test.YtndpjeldpdppmaaGreatDoorTie
import Derived.SevenTiedAt
import Derived.Stop.Joined
import Derived.Test.YtndpjeldpdppmaaGreatDoorYBLW2r6
import Derived.Test.YtndpjeldpdppmaaGreatDoorXLG6c
import Derived.Test.YtndpjeldpdppmaaGreatDoorXLG6e
set_option maxRecDepth 100000
namespace Go.Proofs.YtndpjeldpdppmaaGreatDoor
open Go Go.RowKit Go.ChangeShapes Go.WideShapes Go.ChangeAt

theorem enumv_said : Rows.FnPartEnumValueSaid :=
  OpenClaim.holds_of_wide 6 Go.Proofs.Tryz.f6 rfl rfl rfl rfl rfl rfl rfl ⟨rfl, rfl, rfl, rfl, rfl⟩ rfl rfl rfl rfl rfl f6Named Go.Proofs.Tryz.func6 f6Closed
    (of_decide_eq_true (by kernel_rfl)) (by unfold Func.isWrapper; rw [if_neg (by decide +kernel)]; exact ⟨rfl, rfl⟩)
    (fun os started H enc _ => enumv_lifted os started H enc)

end Go.Proofs.YtndpjeldpdppmaaGreatDoor
