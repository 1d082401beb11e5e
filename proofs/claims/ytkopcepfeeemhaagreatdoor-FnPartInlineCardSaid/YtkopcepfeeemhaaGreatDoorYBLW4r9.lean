/- FnPartInline: an inline fragment that is written out is read as it is. Conditions: the listed variables of the library read as the program's text lays them (the card ties them). -/
import Derived.Test.YtkopcepfeeemhaaGreatDoorCards
import Derived.Test.YtkopcepfeeemhaaGreatDoorTie
import Derived.SevenTiedAt
import Derived.Test.YtkopcepfeeemhaaGreatDoorXLFE
import Derived.Test.YtkopcepfeeemhaaGreatDoorYBLW3r9
import Derived.Test.YtkopcepfeeemhaaGreatDoorXLG9d
set_option maxRecDepth 100000
namespace Go.Proofs.YtkopcepfeeemhaaGreatDoor
open Go

/-- The card. -/
theorem inline_card : Rows.FnPartInlineCardSaid :=
  Claim7.holds_tied_plain_at .later [] [.data, .sentinel, .pinned] true _ _ inline_said (fun _ h => by cases h) f9ByText (fun _ h => by cases h) fnPartInline_row_tie rfl ⟨rfl, rfl⟩ seatMain rfl
    (fun f fn hf hfn => by
      obtain rfl : f = 9 := (Option.some.inj (f9Named.symm.trans hf)).symm
      obtain rfl : fn = Go.Proofs.Tryz.f9 := (Option.some.inj (Go.Proofs.Tryz.func9.symm.trans hfn)).symm
      exact ⟨seatLooks, fun j t ht => by
        rw [Go.Proofs.Tryz.params9] at ht
        have hm : t ∈ [22, 5, 23] := by simpa using Array.mem_of_getElem? ht
        show Go.Proofs.Tryz.prog.wantsStandIn t = false
        simpa using List.all_eq_true.1 seatStandIn t hm⟩)
    f9Goes
#print axioms inline_card
end Go.Proofs.YtkopcepfeeemhaaGreatDoor
