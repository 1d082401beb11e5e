/- A part of the proof of what the last text of this claim says: LW3r3. Conditions: none. -/
import Derived.Test.YtpkfgijailfkjaaGreatDoorCards
import Derived.Test.YtpkfgijailfkjaaGreatDoorTie
import Derived.SevenTiedAt
import Derived.Stop.Joined
import Derived.Test.YtpkfgijailfkjaaGreatDoorY3LW2r3
import Derived.Test.YtpkfgijailfkjaaGreatDoorXLG3c
import Derived.Test.YtpkfgijailfkjaaGreatDoorXLG3e
set_option maxRecDepth 100000
namespace Go.Proofs.YtpkfgijailfkjaaGreatDoor
open Go Go.RowKit Go.ChangeShapes Go.WideShapes Go.ChangeAt

theorem behind_said : Rows.FnRefusedBehindSaid :=
  OpenClaim.holds_of_wide 3 Go.Proofs.Tryz.f3 rfl rfl rfl rfl rfl rfl rfl ⟨rfl, rfl, rfl, rfl, rfl⟩ rfl rfl rfl rfl rfl f3Named Go.Proofs.Tryz.func3 f3Closed
    (of_decide_eq_true (by kernel_rfl)) (by unfold Func.isWrapper; rw [if_neg (by decide +kernel)]; exact ⟨rfl, rfl⟩)
    (fun os started H enc _ => behind_lifted os started H enc)

end Go.Proofs.YtpkfgijailfkjaaGreatDoor
