/- A part of the proof of what the last text of this claim says: LW3r4. Conditions: none. -/
import Derived.Test.YtpkfgijailfkjaaGreatDoorCards
import Derived.Test.YtpkfgijailfkjaaGreatDoorTie
import Derived.SevenTiedAt
import Derived.Stop.Joined
import Derived.Test.YtpkfgijailfkjaaGreatDoorY4LW2r4
import Derived.Test.YtpkfgijailfkjaaGreatDoorXLG4c
import Derived.Test.YtpkfgijailfkjaaGreatDoorXLG4e
set_option maxRecDepth 100000
namespace Go.Proofs.YtpkfgijailfkjaaGreatDoor
open Go Go.RowKit Go.ChangeShapes Go.WideShapes Go.ChangeAt

theorem lines_said : Rows.FnRefusedLinesSaid :=
  OpenClaim.holds_of_wide 4 Go.Proofs.Tryz.f4 rfl rfl rfl rfl rfl rfl rfl ⟨rfl, rfl, rfl, rfl, rfl⟩ rfl rfl rfl rfl rfl f4Named Go.Proofs.Tryz.func4 f4Closed
    (of_decide_eq_true (by kernel_rfl)) (by unfold Func.isWrapper; rw [if_neg (by decide +kernel)]; exact ⟨rfl, rfl⟩)
    (fun os started H enc _ => lines_lifted os started H enc)

end Go.Proofs.YtpkfgijailfkjaaGreatDoor
