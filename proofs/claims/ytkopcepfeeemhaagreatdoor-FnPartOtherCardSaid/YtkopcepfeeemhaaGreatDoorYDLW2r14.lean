/- A part of the proof of what the last text of this claim says: LW2r14. Conditions: none. -/
import Derived.Test.YtkopcepfeeemhaaGreatDoorCards
import Derived.Test.YtkopcepfeeemhaaGreatDoorTie
import Derived.Lay
import Derived.LaidOnce
import Derived.SevenTiedAt
import Derived.Stop.Joined
import Derived.Test.YtkopcepfeeemhaaGreatDoorYDAw
import Derived.Test.YtkopcepfeeemhaaGreatDoorYDAx
import Derived.Test.YtkopcepfeeemhaaGreatDoorYDLW1
import Derived.Test.YtkopcepfeeemhaaGreatDoorYDBl
set_option maxRecDepth 100000
namespace Go.Proofs.YtkopcepfeeemhaaGreatDoor
open Go Go.RowKit Go.ChangeShapes Go.WideShapes Go.ChangeAt
/-- A start that lays the listed variables meets their condition. -/
theorem laid_met (os : Os) (args : Array Value) : laidMetH Go.Proofs.Tryz.prog Rows.fnPartOtherRow.laid ((World.laidAll Go.Proofs.Tryz.prog os Rows.fnPartOtherRow.laid).forCall (fun _ _ => 0) ⟨#[], args, []⟩).memory := by
  rw [MakeChecks.laidMetH_plain _ _ _ (by kernel_rfl)]
  exact laidMet_laidAll _ (by kernel_rfl) (by kernel_rfl)
theorem other_lifted (os : Os) (started : os.Started) (H : Type) (enc : TypeId × Value → H) :
    ReturnsInHanded {} Go.Proofs.Tryz.checked os 14 .any (fun w args => (Rows.fnPartOtherSpec.pre enc Go.Proofs.Tryz.prog Go.Proofs.Tryz.f14 Rows.fnPartOtherRow.domain false w args ∧ laidMetH Go.Proofs.Tryz.prog Rows.fnPartOtherRow.laid w) ∧
        sizedMet enc Go.Proofs.Tryz.prog Go.Proofs.Tryz.f14 (OpenSpec.ofChange Rows.fnPartOtherSpec) false w args)
      (Rows.fnPartOtherSpec.post enc Go.Proofs.Tryz.prog Go.Proofs.Tryz.f14 false true false false) := by
  refine returnsInHanded_of_change_and (C := Go.Proofs.Tryz.checked) (X := fun w _ => laidMetH Go.Proofs.Tryz.prog Rows.fnPartOtherRow.laid w) (fun _ _ _ hh h => h.of_heap hh) Go.Vx.seat_own started (by kernel_rfl) Go.Proofs.Tryz.func14
    (ChangeSpec.witness_shaped (enc := enc) (C := Go.Proofs.Tryz.checked) (os := os) (X := fun w _ => laidMetH Go.Proofs.Tryz.prog Rows.fnPartOtherRow.laid w) false (World.laidAll Go.Proofs.Tryz.prog os Rows.fnPartOtherRow.laid) #[.slice none 0 0, .int .u8 0, .int .u8 0] 8 (World.laidAll_os _ _ _)
      (World.shaped_of_ZipB (by kernel_rfl) (by kernel_rfl)) (by kernel_rfl) (by kernel_rfl) (by kernel_rfl) (laid_met os _)) ?_
  intro W base args ds gs before hval hW _ _ hlaid _
  exact Go.Vx.contractO 14 Go.Proofs.Tryz.f14 Go.Proofs.Tryz.params14 (by kernel_rfl) Rows.fnPartOtherSpec rfl (fun _ _ _ _ => rfl) Go.Vx.klL Go.Vx.klM H enc W base args ds gs before (Go.Vx.tabs_of_laid W hlaid) hval hW
end Go.Proofs.YtkopcepfeeemhaaGreatDoor
