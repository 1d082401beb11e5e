/-
  DERIVED. GIVEN WITH THE SEED: THE CARDS: each row of YtpkfgijailfkjaaGreatDoorRows.lean that lists a variable, with what it lists TIED to the program's text (the seventh form; the later family's looks); each row that meets fmt, with fmt's text TOLD by the authors' own Lean function (tested against real Go, not proved from fmt's source: count such statements apart). THE CARD IS WHAT COUNTS. Prove the row's statement (the work); the ties are given (YtpkfgijailfkjaaGreatDoorTie.lean); close each card by the builder's one call (the guide's Derived/Test/ToyasCard.lean, 'card_holds'). Laid BY PROGRAM, IN A SANDBOX (cutbox-door.mjs). By AI agents, Wed Nov 11 2026. No macro, syntax, notation, axiom, sorry.
-/
import Derived.Test.YtpkfgijailfkjaaGreatDoorRows
import GoSem.ClaimSeven
namespace Go.Proofs.YtpkfgijailfkjaaGreatDoor
namespace Rows

/-- THE TIED CARD OF 'laws.FnRefusedBehind'. -/
def fnRefusedBehindCard : Claim7 := { stood := { row := fnRefusedBehindRow, standIns := [], harness := (true, "778d8ed50f14f4864b62a7b67cce8d2501fc150d8373f685dec6e173ef0d3e4b"), looks := true }, kinds := [], alts := [], laidByText := true, laidKinds := [.data, .sentinel, .pinned], laidTests := true, laidLooks := .later }
def FnRefusedBehindCardSaid : Prop := Claim7.holds Tryz.pinned (.plain (OpenSpec.ofChange fnRefusedBehindSpec)) fnRefusedBehindCard

/-- THE TIED CARD OF 'laws.FnRefusedLines'. -/
def fnRefusedLinesCard : Claim7 := { stood := { row := fnRefusedLinesRow, standIns := [], harness := (true, "778d8ed50f14f4864b62a7b67cce8d2501fc150d8373f685dec6e173ef0d3e4b"), looks := true }, kinds := [], alts := [], laidByText := true, laidKinds := [.data, .sentinel, .pinned], laidTests := true, laidLooks := .later }
def FnRefusedLinesCardSaid : Prop := Claim7.holds Tryz.pinned (.plain (OpenSpec.ofChange fnRefusedLinesSpec)) fnRefusedLinesCard

/-- THE SECOND FORM's CARD OF 'laws.FnRefusedBehind'. -/
def fnRefusedBehindUptoCard : Claim7 := { stood := { row := fnRefusedBehindUptoRow, standIns := [], harness := (true, "778d8ed50f14f4864b62a7b67cce8d2501fc150d8373f685dec6e173ef0d3e4b"), looks := true }, kinds := [], alts := [], laidByText := true, laidKinds := [.data, .sentinel, .pinned], laidTests := true, laidLooks := .later }
def FnRefusedBehindUptoCardSaid : Prop := Claim7.holds Tryz.pinned (.plain (OpenSpec.upto fnRefusedBehindSpec)) fnRefusedBehindUptoCard

/-- THE SECOND FORM's CARD OF 'laws.FnRefusedLines'. -/
def fnRefusedLinesUptoCard : Claim7 := { stood := { row := fnRefusedLinesUptoRow, standIns := [], harness := (true, "778d8ed50f14f4864b62a7b67cce8d2501fc150d8373f685dec6e173ef0d3e4b"), looks := true }, kinds := [], alts := [], laidByText := true, laidKinds := [.data, .sentinel, .pinned], laidTests := true, laidLooks := .later }
def FnRefusedLinesUptoCardSaid : Prop := Claim7.holds Tryz.pinned (.plain (OpenSpec.upto fnRefusedLinesSpec)) fnRefusedLinesUptoCard
end Rows
end Go.Proofs.YtpkfgijailfkjaaGreatDoor
