/- A part of the proof of what the last text of this claim says: LW2. Conditions: none. -/
import Derived.Test.YtndpjeldpdppmaaGreatDoorCards
import Derived.Test.YtndpjeldpdppmaaGreatDoorTie
import Derived.Lay
import Derived.LaidOnce
import Derived.SevenTiedAt
import Derived.Stop.Joined
import Derived.Test.YtndpjeldpdppmaaGreatDoorXBb
set_option maxRecDepth 100000
namespace Go.Proofs.YtndpjeldpdppmaaGreatDoor
open Go Go.RowKit Go.ChangeShapes Go.WideShapes Go.ChangeAt

/-- A start that lays the listed variables meets their condition. -/
theorem laid_met (os : Os) (args : Array Value) : laidMetH Go.Proofs.Tryz.prog Rows.fnPartOperationTypeRow.laid ((World.laidAll Go.Proofs.Tryz.prog os Rows.fnPartOperationTypeRow.laid).forCall (fun _ _ => 0) ⟨#[], args, []⟩).memory := by
  rw [MakeChecks.laidMetH_plain _ _ _ (by kernel_rfl)]
  exact laidMet_laidAll _ (by kernel_rfl) (by kernel_rfl)

theorem otype_lifted (os : Os) (started : os.Started) (H : Type) (enc : TypeId × Value → H) :
    ReturnsInHanded {} Go.Proofs.Tryz.checked os 9 .any (fun w args => (Rows.fnPartOperationTypeSpec.pre enc Go.Proofs.Tryz.prog Go.Proofs.Tryz.f9 Rows.fnPartOperationTypeRow.domain false w args ∧ laidMetH Go.Proofs.Tryz.prog Rows.fnPartOperationTypeRow.laid w) ∧
        sizedMet enc Go.Proofs.Tryz.prog Go.Proofs.Tryz.f9 (OpenSpec.ofChange Rows.fnPartOperationTypeSpec) false w args)
      (Rows.fnPartOperationTypeSpec.post enc Go.Proofs.Tryz.prog Go.Proofs.Tryz.f9 false true false false) := by
  refine returnsInHanded_of_change_and (C := Go.Proofs.Tryz.checked) (X := fun w _ => laidMetH Go.Proofs.Tryz.prog Rows.fnPartOperationTypeRow.laid w) (fun _ _ _ hh h => h.of_heap hh) Go.Vx.seat_own started (by kernel_rfl) Go.Proofs.Tryz.func9
    (ChangeSpec.witness_shaped (enc := enc) (C := Go.Proofs.Tryz.checked) (os := os) (X := fun w _ => laidMetH Go.Proofs.Tryz.prog Rows.fnPartOperationTypeRow.laid w) false (World.laidAll Go.Proofs.Tryz.prog os Rows.fnPartOperationTypeRow.laid) #[.slice none 0 0, .int .u8 0, .slice none 0 0] 8 (World.laidAll_os _ _ _)
      (World.shaped_of_ZipB (by kernel_rfl) (by kernel_rfl)) (by kernel_rfl) (by kernel_rfl) (by kernel_rfl) (laid_met os _)) ?_
  intro W base args ds gs before hval hW _ _ hlaid _
  exact Go.Vx.contractG 9 Go.Proofs.Tryz.f9 Go.Proofs.Tryz.params9 (by kernel_rfl) Rows.fnPartOperationTypeSpec rfl (fun _ _ _ _ => rfl) Go.Vx.otype_law Go.Vx.otype_lawN H enc W base args ds gs before (Go.Vx.tabs_of_laid W hlaid) hval hW

end Go.Proofs.YtndpjeldpdppmaaGreatDoor
