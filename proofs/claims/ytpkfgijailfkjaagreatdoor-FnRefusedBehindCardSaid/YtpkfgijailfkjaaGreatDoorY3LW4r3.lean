/- FnRefusedBehind: what stands behind the token at which a text is refused does not matter: the place of its error stays. Conditions: the listed variables of the library read as the program's text lays them (the card ties them). -/
import Derived.Test.YtpkfgijailfkjaaGreatDoorCards
import Derived.Test.YtpkfgijailfkjaaGreatDoorTie
import Derived.SevenTiedAt
import Derived.Test.YtpkfgijailfkjaaGreatDoorY3LW3r3
import Derived.Test.YtpkfgijailfkjaaGreatDoorXLFE
import Derived.Test.YtpkfgijailfkjaaGreatDoorXLG3d
set_option maxRecDepth 100000
namespace Go.Proofs.YtpkfgijailfkjaaGreatDoor
open Go

/-- The card. -/
theorem behind_card : Rows.FnRefusedBehindCardSaid :=
  Claim7.holds_tied_plain_at .later [] [.data, .sentinel, .pinned] true _ _ behind_said (fun _ h => by cases h) f3ByText (fun _ h => by cases h) fnRefusedBehind_row_tie rfl ⟨rfl, rfl⟩ seatMain rfl
    (fun f fn hf hfn => by
      obtain rfl : f = 3 := (Option.some.inj (f3Named.symm.trans hf)).symm
      obtain rfl : fn = Go.Proofs.Tryz.f3 := (Option.some.inj (Go.Proofs.Tryz.func3.symm.trans hfn)).symm
      exact ⟨seatLooks, fun j t ht => by
        rw [Go.Proofs.Tryz.params3] at ht
        have hm : t ∈ [9, 5] := by simpa using Array.mem_of_getElem? ht
        show Go.Proofs.Tryz.prog.wantsStandIn t = false
        simpa using List.all_eq_true.1 seatStandIn t hm⟩)
    f3Goes
#print axioms behind_card
end Go.Proofs.YtpkfgijailfkjaaGreatDoor
