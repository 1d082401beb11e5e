/- FnPartOther: a part is refused as another one, whose first word, or sign, is another one. Conditions: the listed variables of the library read as the program's text lays them (the card ties them). -/
import Derived.Test.YtkopcepfeeemhaaGreatDoorCards
import Derived.Test.YtkopcepfeeemhaaGreatDoorTie
import Derived.SevenTiedAt
import Derived.Test.YtkopcepfeeemhaaGreatDoorYDLW3r14
import Derived.Test.YtkopcepfeeemhaaGreatDoorXLFE
import Derived.Test.YtkopcepfeeemhaaGreatDoorXLG14d
set_option maxRecDepth 100000
namespace Go.Proofs.YtkopcepfeeemhaaGreatDoor
open Go
/-- The card. -/
theorem other_card : Rows.FnPartOtherCardSaid :=
  Claim7.holds_tied_plain_at .later [] [.data, .sentinel, .pinned] true _ _ other_said (fun _ h => by cases h) f14ByText (fun _ h => by cases h) fnPartOther_row_tie rfl ⟨rfl, rfl⟩ seatMain rfl
    (fun f fn hf hfn => by
      obtain rfl : f = 14 := (Option.some.inj (f14Named.symm.trans hf)).symm
      obtain rfl : fn = Go.Proofs.Tryz.f14 := (Option.some.inj (Go.Proofs.Tryz.func14.symm.trans hfn)).symm
      exact ⟨seatLooks, fun j t ht => by
        rw [Go.Proofs.Tryz.params14] at ht
        have hm : t ∈ [22, 5, 5] := by simpa using Array.mem_of_getElem? ht
        show Go.Proofs.Tryz.prog.wantsStandIn t = false
        simpa using List.all_eq_true.1 seatStandIn t (by simp only [List.mem_cons, List.not_mem_nil, or_false] at hm ⊢; rcases hm with h | h | h <;> simp [h])⟩)
    f14Goes
#print axioms other_card
end Go.Proofs.YtkopcepfeeemhaaGreatDoor
