/- FnPartVariable: the definition of a variable that is written out is read as it is. Conditions: the listed variables of the library read as the program's text lays them (the card ties them). -/
import Derived.Test.YtndpjeldpdppmaaGreatDoorCards
import Derived.Test.YtndpjeldpdppmaaGreatDoorTie
import Derived.SevenTiedAt
import Derived.Test.YtndpjeldpdppmaaGreatDoorXLFE
import Derived.Test.YtndpjeldpdppmaaGreatDoorYCLW3r14
import Derived.Test.YtndpjeldpdppmaaGreatDoorXLG14d
set_option maxRecDepth 100000
namespace Go.Proofs.YtndpjeldpdppmaaGreatDoor
open Go

/-- The card. -/
theorem variable_card : Rows.FnPartVariableCardSaid :=
  Claim7.holds_tied_plain_at .later [] [.data, .sentinel, .pinned] true _ _ variable_said (fun _ h => by cases h) f14ByText (fun _ h => by cases h) fnPartVariable_row_tie rfl ⟨rfl, rfl⟩ seatMain rfl
    (fun f fn hf hfn => by
      obtain rfl : f = 14 := (Option.some.inj (f14Named.symm.trans hf)).symm
      obtain rfl : fn = Go.Proofs.Tryz.f14 := (Option.some.inj (Go.Proofs.Tryz.func14.symm.trans hfn)).symm
      exact ⟨seatLooks, fun j t ht => by
        rw [Go.Proofs.Tryz.params14] at ht
        have hm : t ∈ [22, 5, 23] := by simpa using Array.mem_of_getElem? ht
        show Go.Proofs.Tryz.prog.wantsStandIn t = false
        simpa using List.all_eq_true.1 seatStandIn t hm⟩)
    f14Goes
#print axioms variable_card
end Go.Proofs.YtndpjeldpdppmaaGreatDoor
