/- A part of the proof of what the last text of this claim says: LW2r3. Conditions: none. -/
import Derived.Test.YtpkfgijailfkjaaGreatDoorCards
import Derived.Test.YtpkfgijailfkjaaGreatDoorTie
import Derived.Lay
import Derived.LaidOnce
import Derived.SevenTiedAt
import Derived.Stop.Joined
import Derived.Test.YtpkfgijailfkjaaGreatDoorZBi
set_option maxRecDepth 100000
namespace Go.Proofs.YtpkfgijailfkjaaGreatDoor
open Go Go.RowKit Go.ChangeShapes Go.WideShapes Go.ChangeAt

/-- A start that lays the listed variables meets their condition. -/
theorem laid_met (os : Os) (args : Array Value) : laidMetH Go.Proofs.Tryz.prog Rows.fnRefusedBehindRow.laid ((World.laidAll Go.Proofs.Tryz.prog os Rows.fnRefusedBehindRow.laid).forCall (fun _ _ => 0) ⟨#[], args, []⟩).memory := by
  rw [MakeChecks.laidMetH_plain _ _ _ (by kernel_rfl)]
  exact laidMet_laidAll _ (by kernel_rfl) (by kernel_rfl)

theorem behind_lifted (os : Os) (started : os.Started) (H : Type) (enc : TypeId × Value → H) :
    ReturnsInHanded {} Go.Proofs.Tryz.checked os 3 .any (fun w args => (Rows.fnRefusedBehindSpec.pre enc Go.Proofs.Tryz.prog Go.Proofs.Tryz.f3 Rows.fnRefusedBehindRow.domain false w args ∧ laidMetH Go.Proofs.Tryz.prog Rows.fnRefusedBehindRow.laid w) ∧
        sizedMet enc Go.Proofs.Tryz.prog Go.Proofs.Tryz.f3 (OpenSpec.ofChange Rows.fnRefusedBehindSpec) false w args)
      (Rows.fnRefusedBehindSpec.post enc Go.Proofs.Tryz.prog Go.Proofs.Tryz.f3 false true false false) := by
  refine returnsInHanded_of_change_and (C := Go.Proofs.Tryz.checked) (X := fun w _ => laidMetH Go.Proofs.Tryz.prog Rows.fnRefusedBehindRow.laid w) (fun _ _ _ hh h => h.of_heap hh) Go.Vx.seat_own started (by kernel_rfl) Go.Proofs.Tryz.func3
    (ChangeSpec.witness_shaped (enc := enc) (C := Go.Proofs.Tryz.checked) (os := os) (X := fun w _ => laidMetH Go.Proofs.Tryz.prog Rows.fnRefusedBehindRow.laid w) false (World.laidAll Go.Proofs.Tryz.prog os Rows.fnRefusedBehindRow.laid) #[.string Go.Vx.eB, .int .u8 0] 8 (World.laidAll_os _ _ _)
      (World.shaped_of_ZipB (by kernel_rfl) (by kernel_rfl)) (by kernel_rfl) (by kernel_rfl) (by kernel_rfl) (laid_met os _)) ?_
  intro W base args ds gs before hval hW _ _ hlaid _
  exact Go.Vx.contract2 3 Go.Proofs.Tryz.f3 Go.Proofs.Tryz.params3 (by kernel_rfl) Rows.fnRefusedBehindSpec rfl (fun _ _ _ => rfl) (fun text more h H hT => Go.Vx.FnRefusedBehind_ok text more h.1 H hT) H enc W base args ds gs before (Go.Vx.tabs_of_laid W hlaid) hval hW

end Go.Proofs.YtpkfgijailfkjaaGreatDoor
