/- FnPartObject: a type of objects that is written out is read as it is. Conditions: the listed variables of the library read as the program's text lays them (the card ties them). -/
import Derived.Test.YtkopcepfeeemhaaGreatDoorCards
import Derived.Test.YtkopcepfeeemhaaGreatDoorTie
import Derived.SevenTiedAt
import Derived.Test.YtkopcepfeeemhaaGreatDoorXLFE
import Derived.Test.YtkopcepfeeemhaaGreatDoorYALW3r12
import Derived.Test.YtkopcepfeeemhaaGreatDoorXLG12d
set_option maxRecDepth 100000
namespace Go.Proofs.YtkopcepfeeemhaaGreatDoor
open Go

/-- The card. -/
theorem object_card : Rows.FnPartObjectCardSaid :=
  Claim7.holds_tied_plain_at .later [] [.data, .sentinel, .pinned] true _ _ object_said (fun _ h => by cases h) f12ByText (fun _ h => by cases h) fnPartObject_row_tie rfl ⟨rfl, rfl⟩ seatMain rfl
    (fun f fn hf hfn => by
      obtain rfl : f = 12 := (Option.some.inj (f12Named.symm.trans hf)).symm
      obtain rfl : fn = Go.Proofs.Tryz.f12 := (Option.some.inj (Go.Proofs.Tryz.func12.symm.trans hfn)).symm
      exact ⟨seatLooks, fun j t ht => by
        rw [Go.Proofs.Tryz.params12] at ht
        have hm : t ∈ [22, 5, 23] := by simpa using Array.mem_of_getElem? ht
        show Go.Proofs.Tryz.prog.wantsStandIn t = false
        simpa using List.all_eq_true.1 seatStandIn t hm⟩)
    f12Goes
#print axioms object_card
end Go.Proofs.YtkopcepfeeemhaaGreatDoor
