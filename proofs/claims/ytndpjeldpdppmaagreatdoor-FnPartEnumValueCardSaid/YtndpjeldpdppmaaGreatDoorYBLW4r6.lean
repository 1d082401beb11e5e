/- FnPartEnumValue: a value of an enum that is written out is read as it is. Conditions: the listed variables of the library read as the program's text lays them (the card ties them). -/
import Derived.Test.YtndpjeldpdppmaaGreatDoorCards
import Derived.Test.YtndpjeldpdppmaaGreatDoorTie
import Derived.SevenTiedAt
import Derived.Test.YtndpjeldpdppmaaGreatDoorYBLW3r6
import Derived.Test.YtndpjeldpdppmaaGreatDoorXLFE
import Derived.Test.YtndpjeldpdppmaaGreatDoorXLG6d
set_option maxRecDepth 100000
namespace Go.Proofs.YtndpjeldpdppmaaGreatDoor
open Go

/-- The card. -/
theorem enumv_card : Rows.FnPartEnumValueCardSaid :=
  Claim7.holds_tied_plain_at .later [] [.data, .sentinel, .pinned] true _ _ enumv_said (fun _ h => by cases h) f6ByText (fun _ h => by cases h) fnPartEnumValue_row_tie rfl ⟨rfl, rfl⟩ seatMain rfl
    (fun f fn hf hfn => by
      obtain rfl : f = 6 := (Option.some.inj (f6Named.symm.trans hf)).symm
      obtain rfl : fn = Go.Proofs.Tryz.f6 := (Option.some.inj (Go.Proofs.Tryz.func6.symm.trans hfn)).symm
      exact ⟨seatLooks, fun j t ht => by
        rw [Go.Proofs.Tryz.params6] at ht
        have hm : t ∈ [22, 5, 23] := by simpa using Array.mem_of_getElem? ht
        show Go.Proofs.Tryz.prog.wantsStandIn t = false
        simpa using List.all_eq_true.1 seatStandIn t hm⟩)
    f6Goes
#print axioms enumv_card
end Go.Proofs.YtndpjeldpdppmaaGreatDoor
