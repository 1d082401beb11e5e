/- A part of the proof of what the last text of this claim says: LW2r9. Conditions: none. -/
import Derived.Test.YtkopcepfeeemhaaGreatDoorCards
import Derived.Test.YtkopcepfeeemhaaGreatDoorTie
import Derived.Lay
import Derived.LaidOnce
import Derived.SevenTiedAt
import Derived.Stop.Joined
import Derived.Test.YtkopcepfeeemhaaGreatDoorYBAl
import Derived.Test.YtkopcepfeeemhaaGreatDoorYBAm
import Derived.Test.YtkopcepfeeemhaaGreatDoorYBLW1
import Derived.Test.YtkopcepfeeemhaaGreatDoorYBAs
set_option maxRecDepth 100000
namespace Go.Vx
open Go Go.Proofs

theorem inline_law (b o n c : Nat) (ds : List Nd) (H : Heap) (h : NodesAt H b o ds) (hn : n = ds.length) (hc : n ≤ c) (which : Int) (hw : 0 ≤ which ∧ which ≤ 255)
    (byA : Option Addr) (byN byC : Nat) (ys : List Int) (hy : SlcAt H byA byN (ys.map (.int .u8 ·))) (hyr : ∀ y ∈ ys, 0 ≤ y ∧ y ≤ 255) (hTb : TabsAt H.size H) :
    Fn PP fq9 #[.slice (some ⟨b, o, none⟩) n c, .int .u8 which, .slice byA byN byC] H fun v H' => v = .bool true ∧ Ext [] H H' :=
  FnPartInline.enter b o n c which byA byN byC H _ (law_ok kind_inline b o n c ds H h hn hc which hw byA byN byC ys hy hyr hTb)

theorem inline_lawN (a : Option Addr) (c : Nat) (which : Int) (byA : Option Addr) (byN byC : Nat) (H : Heap) :
    Fn PP fq9 #[.slice a 0 c, .int .u8 which, .slice byA byN byC] H fun v H' => v = .bool true ∧ Ext [] H H' :=
  FnPartInlineN.enter a 0 c which byA byN byC H _ (lawN_ok a c _ _ which byA byN byC H)

end Go.Vx
namespace Go.Proofs.YtkopcepfeeemhaaGreatDoor
open Go Go.RowKit Go.ChangeShapes Go.WideShapes Go.ChangeAt

/-- A start that lays the listed variables meets their condition. -/
theorem laid_met (os : Os) (args : Array Value) : laidMetH Go.Proofs.Tryz.prog Rows.fnPartInlineRow.laid ((World.laidAll Go.Proofs.Tryz.prog os Rows.fnPartInlineRow.laid).forCall (fun _ _ => 0) ⟨#[], args, []⟩).memory := by
  rw [MakeChecks.laidMetH_plain _ _ _ (by kernel_rfl)]
  exact laidMet_laidAll _ (by kernel_rfl) (by kernel_rfl)

theorem inline_lifted (os : Os) (started : os.Started) (H : Type) (enc : TypeId × Value → H) :
    ReturnsInHanded {} Go.Proofs.Tryz.checked os 9 .any (fun w args => (Rows.fnPartInlineSpec.pre enc Go.Proofs.Tryz.prog Go.Proofs.Tryz.f9 Rows.fnPartInlineRow.domain false w args ∧ laidMetH Go.Proofs.Tryz.prog Rows.fnPartInlineRow.laid w) ∧
        sizedMet enc Go.Proofs.Tryz.prog Go.Proofs.Tryz.f9 (OpenSpec.ofChange Rows.fnPartInlineSpec) false w args)
      (Rows.fnPartInlineSpec.post enc Go.Proofs.Tryz.prog Go.Proofs.Tryz.f9 false true false false) := by
  refine returnsInHanded_of_change_and (C := Go.Proofs.Tryz.checked) (X := fun w _ => laidMetH Go.Proofs.Tryz.prog Rows.fnPartInlineRow.laid w) (fun _ _ _ hh h => h.of_heap hh) Go.Vx.seat_own started (by kernel_rfl) Go.Proofs.Tryz.func9
    (ChangeSpec.witness_shaped (enc := enc) (C := Go.Proofs.Tryz.checked) (os := os) (X := fun w _ => laidMetH Go.Proofs.Tryz.prog Rows.fnPartInlineRow.laid w) false (World.laidAll Go.Proofs.Tryz.prog os Rows.fnPartInlineRow.laid) #[.slice none 0 0, .int .u8 0, .slice none 0 0] 8 (World.laidAll_os _ _ _)
      (World.shaped_of_ZipB (by kernel_rfl) (by kernel_rfl)) (by kernel_rfl) (by kernel_rfl) (by kernel_rfl) (laid_met os _)) ?_
  intro W base args ds gs before hval hW _ _ hlaid _
  exact Go.Vx.contractG 9 Go.Proofs.Tryz.f9 Go.Proofs.Tryz.params9 (by kernel_rfl) Rows.fnPartInlineSpec rfl (fun _ _ _ _ => rfl) Go.Vx.inline_law Go.Vx.inline_lawN H enc W base args ds gs before (Go.Vx.tabs_of_laid W hlaid) hval hW

end Go.Proofs.YtkopcepfeeemhaaGreatDoor
