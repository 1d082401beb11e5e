/- FnPartField: a field that is written out is read as it is. Conditions: the listed variables of the library read as the program's text lays them (the card ties them). -/
import Derived.Test.YtkopcepfeeemhaaGreatDoorCards
import Derived.Test.YtkopcepfeeemhaaGreatDoorTie
import Derived.SevenTiedAt
import Derived.Test.YtkopcepfeeemhaaGreatDoorXLFE
import Derived.Test.YtkopcepfeeemhaaGreatDoorYBLW3r7
import Derived.Test.YtkopcepfeeemhaaGreatDoorXLG7d
set_option maxRecDepth 100000
namespace Go.Proofs.YtkopcepfeeemhaaGreatDoor
open Go

/-- The card. -/
theorem field_card : Rows.FnPartFieldCardSaid :=
  Claim7.holds_tied_plain_at .later [] [.data, .sentinel, .pinned] true _ _ field_said (fun _ h => by cases h) f7ByText (fun _ h => by cases h) fnPartField_row_tie rfl ⟨rfl, rfl⟩ seatMain rfl
    (fun f fn hf hfn => by
      obtain rfl : f = 7 := (Option.some.inj (f7Named.symm.trans hf)).symm
      obtain rfl : fn = Go.Proofs.Tryz.f7 := (Option.some.inj (Go.Proofs.Tryz.func7.symm.trans hfn)).symm
      exact ⟨seatLooks, fun j t ht => by
        rw [Go.Proofs.Tryz.params7] at ht
        have hm : t ∈ [22, 5, 23] := by simpa using Array.mem_of_getElem? ht
        show Go.Proofs.Tryz.prog.wantsStandIn t = false
        simpa using List.all_eq_true.1 seatStandIn t hm⟩)
    f7Goes
#print axioms field_card
end Go.Proofs.YtkopcepfeeemhaaGreatDoor
