/- FnPartUnion: a union that is written out is read as it is. Conditions: the listed variables of the library read as the program's text lays them (the card ties them). -/
import Derived.Test.YtndpjeldpdppmaaGreatDoorCards
import Derived.Test.YtndpjeldpdppmaaGreatDoorTie
import Derived.SevenTiedAt
import Derived.Test.YtndpjeldpdppmaaGreatDoorXLFE
import Derived.Test.YtndpjeldpdppmaaGreatDoorYBLW3r13
import Derived.Test.YtndpjeldpdppmaaGreatDoorXLG13d
set_option maxRecDepth 100000
namespace Go.Proofs.YtndpjeldpdppmaaGreatDoor
open Go

/-- The card. -/
theorem union_card : Rows.FnPartUnionCardSaid :=
  Claim7.holds_tied_plain_at .later [] [.data, .sentinel, .pinned] true _ _ union_said (fun _ h => by cases h) f13ByText (fun _ h => by cases h) fnPartUnion_row_tie rfl ⟨rfl, rfl⟩ seatMain rfl
    (fun f fn hf hfn => by
      obtain rfl : f = 13 := (Option.some.inj (f13Named.symm.trans hf)).symm
      obtain rfl : fn = Go.Proofs.Tryz.f13 := (Option.some.inj (Go.Proofs.Tryz.func13.symm.trans hfn)).symm
      exact ⟨seatLooks, fun j t ht => by
        rw [Go.Proofs.Tryz.params13] at ht
        have hm : t ∈ [22, 5, 23] := by simpa using Array.mem_of_getElem? ht
        show Go.Proofs.Tryz.prog.wantsStandIn t = false
        simpa using List.all_eq_true.1 seatStandIn t hm⟩)
    f13Goes
#print axioms union_card
end Go.Proofs.YtndpjeldpdppmaaGreatDoor
