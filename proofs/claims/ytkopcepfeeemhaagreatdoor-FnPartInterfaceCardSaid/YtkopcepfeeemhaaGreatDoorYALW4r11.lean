/- FnPartInterface: an interface that is written out is read as it is. Conditions: the listed variables of the library read as the program's text lays them (the card ties them). -/
import Derived.Test.YtkopcepfeeemhaaGreatDoorCards
import Derived.Test.YtkopcepfeeemhaaGreatDoorTie
import Derived.SevenTiedAt
import Derived.Test.YtkopcepfeeemhaaGreatDoorXLFE
import Derived.Test.YtkopcepfeeemhaaGreatDoorYALW3r11
import Derived.Test.YtkopcepfeeemhaaGreatDoorXLG11d
set_option maxRecDepth 100000
namespace Go.Proofs.YtkopcepfeeemhaaGreatDoor
open Go

/-- The card. -/
theorem inter_card : Rows.FnPartInterfaceCardSaid :=
  Claim7.holds_tied_plain_at .later [] [.data, .sentinel, .pinned] true _ _ inter_said (fun _ h => by cases h) f11ByText (fun _ h => by cases h) fnPartInterface_row_tie rfl ⟨rfl, rfl⟩ seatMain rfl
    (fun f fn hf hfn => by
      obtain rfl : f = 11 := (Option.some.inj (f11Named.symm.trans hf)).symm
      obtain rfl : fn = Go.Proofs.Tryz.f11 := (Option.some.inj (Go.Proofs.Tryz.func11.symm.trans hfn)).symm
      exact ⟨seatLooks, fun j t ht => by
        rw [Go.Proofs.Tryz.params11] at ht
        have hm : t ∈ [22, 5, 23] := by simpa using Array.mem_of_getElem? ht
        show Go.Proofs.Tryz.prog.wantsStandIn t = false
        simpa using List.all_eq_true.1 seatStandIn t hm⟩)
    f11Goes
#print axioms inter_card
end Go.Proofs.YtkopcepfeeemhaaGreatDoor
