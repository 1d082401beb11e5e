/- FnPartArguments: definitions of arguments in brackets are read as these; without brackets there are none. Conditions: the listed variables of the library read as the program's text lays them (the card ties them). -/
import Derived.Test.YtkopcepfeeemhaaGreatDoorCards
import Derived.Test.YtkopcepfeeemhaaGreatDoorTie
import Derived.SevenTiedAt
import Derived.Test.YtkopcepfeeemhaaGreatDoorYCLW3r3
import Derived.Test.YtkopcepfeeemhaaGreatDoorXLFE
import Derived.Test.YtkopcepfeeemhaaGreatDoorXLG3d
set_option maxRecDepth 100000
namespace Go.Proofs.YtkopcepfeeemhaaGreatDoor
open Go

/-- The card. -/
theorem args_card : Rows.FnPartArgumentsCardSaid :=
  Claim7.holds_tied_plain_at .later [] [.data, .sentinel, .pinned] true _ _ args_said (fun _ h => by cases h) f3ByText (fun _ h => by cases h) fnPartArguments_row_tie rfl ⟨rfl, rfl⟩ seatMain rfl
    (fun f fn hf hfn => by
      obtain rfl : f = 3 := (Option.some.inj (f3Named.symm.trans hf)).symm
      obtain rfl : fn = Go.Proofs.Tryz.f3 := (Option.some.inj (Go.Proofs.Tryz.func3.symm.trans hfn)).symm
      exact ⟨seatLooks, fun j t ht => by
        rw [Go.Proofs.Tryz.params3] at ht
        have hm : t ∈ [22, 5, 23] := by simpa using Array.mem_of_getElem? ht
        show Go.Proofs.Tryz.prog.wantsStandIn t = false
        simpa using List.all_eq_true.1 seatStandIn t hm⟩)
    f3Goes
#print axioms args_card
end Go.Proofs.YtkopcepfeeemhaaGreatDoor
