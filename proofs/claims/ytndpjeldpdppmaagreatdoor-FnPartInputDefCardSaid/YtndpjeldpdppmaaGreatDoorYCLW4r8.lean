/- FnPartInputDef: the definition of an argument, or an input field, that is written out is read as it is. Conditions: the listed variables of the library read as the program's text lays them (the card ties them). -/
import Derived.Test.YtndpjeldpdppmaaGreatDoorCards
import Derived.Test.YtndpjeldpdppmaaGreatDoorTie
import Derived.SevenTiedAt
import Derived.Test.YtndpjeldpdppmaaGreatDoorYCLW3r8
import Derived.Test.YtndpjeldpdppmaaGreatDoorXLFE
import Derived.Test.YtndpjeldpdppmaaGreatDoorXLG8d
set_option maxRecDepth 100000
namespace Go.Proofs.YtndpjeldpdppmaaGreatDoor
open Go

/-- The card. -/
theorem inputdef_card : Rows.FnPartInputDefCardSaid :=
  Claim7.holds_tied_plain_at .later [] [.data, .sentinel, .pinned] true _ _ inputdef_said (fun _ h => by cases h) f8ByText (fun _ h => by cases h) fnPartInputDef_row_tie rfl ⟨rfl, rfl⟩ seatMain rfl
    (fun f fn hf hfn => by
      obtain rfl : f = 8 := (Option.some.inj (f8Named.symm.trans hf)).symm
      obtain rfl : fn = Go.Proofs.Tryz.f8 := (Option.some.inj (Go.Proofs.Tryz.func8.symm.trans hfn)).symm
      exact ⟨seatLooks, fun j t ht => by
        rw [Go.Proofs.Tryz.params8] at ht
        have hm : t ∈ [22, 5, 23] := by simpa using Array.mem_of_getElem? ht
        show Go.Proofs.Tryz.prog.wantsStandIn t = false
        simpa using List.all_eq_true.1 seatStandIn t hm⟩)
    f8Goes
#print axioms inputdef_card
end Go.Proofs.YtndpjeldpdppmaaGreatDoor
