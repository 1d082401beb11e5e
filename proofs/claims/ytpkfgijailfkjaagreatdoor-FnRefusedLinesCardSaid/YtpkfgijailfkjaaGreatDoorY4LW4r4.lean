/- FnRefusedLines: line feeds ahead of a text that is refused move the place of its error down by as many lines; blanks in its first line, to the right. Conditions: the listed variables of the library read as the program's text lays them (the card ties them). -/
import Derived.Test.YtpkfgijailfkjaaGreatDoorCards
import Derived.Test.YtpkfgijailfkjaaGreatDoorTie
import Derived.SevenTiedAt
import Derived.Test.YtpkfgijailfkjaaGreatDoorY4LW3r4
import Derived.Test.YtpkfgijailfkjaaGreatDoorXLFE
import Derived.Test.YtpkfgijailfkjaaGreatDoorXLG4d
set_option maxRecDepth 100000
namespace Go.Proofs.YtpkfgijailfkjaaGreatDoor
open Go

/-- The card. -/
theorem lines_card : Rows.FnRefusedLinesCardSaid :=
  Claim7.holds_tied_plain_at .later [] [.data, .sentinel, .pinned] true _ _ lines_said (fun _ h => by cases h) f4ByText (fun _ h => by cases h) fnRefusedLines_row_tie rfl ⟨rfl, rfl⟩ seatMain rfl
    (fun f fn hf hfn => by
      obtain rfl : f = 4 := (Option.some.inj (f4Named.symm.trans hf)).symm
      obtain rfl : fn = Go.Proofs.Tryz.f4 := (Option.some.inj (Go.Proofs.Tryz.func4.symm.trans hfn)).symm
      exact ⟨seatLooks, fun j t ht => by
        rw [Go.Proofs.Tryz.params4] at ht
        have hm : t ∈ [9, 5] := by simpa using Array.mem_of_getElem? ht
        show Go.Proofs.Tryz.prog.wantsStandIn t = false
        simpa using List.all_eq_true.1 seatStandIn t hm⟩)
    f4Goes
#print axioms lines_card
end Go.Proofs.YtpkfgijailfkjaaGreatDoor
