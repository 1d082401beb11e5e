/- A part of the proof of what the last text of this claim says: LW3. Conditions: none. -/
import Derived.Test.YtndpjeldpdppmaaGreatDoorCards
import Derived.Test.YtndpjeldpdppmaaGreatDoorTie
import Derived.SevenTiedAt
import Derived.Stop.Joined
import Derived.Test.YtndpjeldpdppmaaGreatDoorXBc
import Derived.Test.YtndpjeldpdppmaaGreatDoorXBj
import Derived.Test.YtndpjeldpdppmaaGreatDoorXBk
set_option maxRecDepth 100000
namespace Go.Proofs.YtndpjeldpdppmaaGreatDoor
open Go Go.RowKit Go.ChangeShapes Go.WideShapes Go.ChangeAt

theorem otype_said : Rows.FnPartOperationTypeSaid :=
  OpenClaim.holds_of_wide 9 Go.Proofs.Tryz.f9 rfl rfl rfl rfl rfl rfl rfl ⟨rfl, rfl, rfl, rfl, rfl⟩ rfl rfl rfl rfl rfl f9Named Go.Proofs.Tryz.func9 f9Closed
    (of_decide_eq_true (by kernel_rfl)) (by unfold Func.isWrapper; rw [if_neg (by decide +kernel)]; exact ⟨rfl, rfl⟩)
    (fun os started H enc _ => otype_lifted os started H enc)

end Go.Proofs.YtndpjeldpdppmaaGreatDoor
