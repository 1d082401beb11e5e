/- A part of the proof of what the last text of this claim says: LW2r4. Conditions: none. -/
import Derived.Test.YtpkfgijailfkjaaGreatDoorCards
import Derived.Test.YtpkfgijailfkjaaGreatDoorTie
import Derived.Lay
import Derived.LaidOnce
import Derived.SevenTiedAt
import Derived.Stop.Joined
import Derived.Test.YtpkfgijailfkjaaGreatDoorZBi
set_option maxRecDepth 100000
namespace Go.Proofs.YtpkfgijailfkjaaGreatDoor
open Go Go.RowKit Go.ChangeShapes Go.WideShapes Go.ChangeAt

/-- A start that lays the listed variables meets their condition. -/
theorem laid_met (os : Os) (args : Array Value) : laidMetH Go.Proofs.Tryz.prog Rows.fnRefusedLinesRow.laid ((World.laidAll Go.Proofs.Tryz.prog os Rows.fnRefusedLinesRow.laid).forCall (fun _ _ => 0) ⟨#[], args, []⟩).memory := by
  rw [MakeChecks.laidMetH_plain _ _ _ (by kernel_rfl)]
  exact laidMet_laidAll _ (by kernel_rfl) (by kernel_rfl)

theorem lines_lifted (os : Os) (started : os.Started) (H : Type) (enc : TypeId × Value → H) :
    ReturnsInHanded {} Go.Proofs.Tryz.checked os 4 .any (fun w args => (Rows.fnRefusedLinesSpec.pre enc Go.Proofs.Tryz.prog Go.Proofs.Tryz.f4 Rows.fnRefusedLinesRow.domain false w args ∧ laidMetH Go.Proofs.Tryz.prog Rows.fnRefusedLinesRow.laid w) ∧
        sizedMet enc Go.Proofs.Tryz.prog Go.Proofs.Tryz.f4 (OpenSpec.ofChange Rows.fnRefusedLinesSpec) false w args)
      (Rows.fnRefusedLinesSpec.post enc Go.Proofs.Tryz.prog Go.Proofs.Tryz.f4 false true false false) := by
  refine returnsInHanded_of_change_and (C := Go.Proofs.Tryz.checked) (X := fun w _ => laidMetH Go.Proofs.Tryz.prog Rows.fnRefusedLinesRow.laid w) (fun _ _ _ hh h => h.of_heap hh) Go.Vx.seat_own started (by kernel_rfl) Go.Proofs.Tryz.func4
    (ChangeSpec.witness_shaped (enc := enc) (C := Go.Proofs.Tryz.checked) (os := os) (X := fun w _ => laidMetH Go.Proofs.Tryz.prog Rows.fnRefusedLinesRow.laid w) false (World.laidAll Go.Proofs.Tryz.prog os Rows.fnRefusedLinesRow.laid) #[.string Go.Vx.eB, .int .u8 0, .int .u8 0] 8 (World.laidAll_os _ _ _)
      (World.shaped_of_ZipB (by kernel_rfl) (by kernel_rfl)) (by kernel_rfl) (by kernel_rfl) (by kernel_rfl) (laid_met os _)) ?_
  intro W base args ds gs before hval hW _ _ hlaid _
  exact Go.Vx.contract3 4 Go.Proofs.Tryz.f4 Go.Proofs.Tryz.params4 (by kernel_rfl) Rows.fnRefusedLinesSpec rfl (fun _ _ _ _ => rfl) (fun text lines blanks h h2 H hT => Go.Vx.FnRefusedLines_ok text lines blanks h.1 h2.1 H hT) H enc W base args ds gs before (Go.Vx.tabs_of_laid W hlaid) hval hW

end Go.Proofs.YtpkfgijailfkjaaGreatDoor
