/-
  DERIVED. GIVEN WITH THE SEED: THE CARDS: each row of YtndpjeldpdppmaaGreatDoorRows.lean that lists a variable, with what it lists TIED to the program's text (the seventh form; the later family's looks); each row that meets fmt, with fmt's text TOLD by the authors' own Lean function (tested against real Go, not proved from fmt's source: count such statements apart). THE CARD IS WHAT COUNTS. Prove the row's statement (the work); the ties are given (YtndpjeldpdppmaaGreatDoorTie.lean); close each card by the builder's one call (the guide's Derived/Test/ToyasCard.lean, 'card_holds'). Laid BY PROGRAM, IN A SANDBOX (cutbox-door.mjs). By AI agents, Wed Nov 11 2026. No macro, syntax, notation, axiom, sorry.
-/
import Derived.Test.YtndpjeldpdppmaaGreatDoorRows
import GoSem.ClaimSeven
namespace Go.Proofs.YtndpjeldpdppmaaGreatDoor
namespace Rows

/-- THE TIED CARD OF 'laws.FnPartArgument'. -/
def fnPartArgumentCard : Claim7 := { stood := { row := fnPartArgumentRow, standIns := [], harness := (true, "57afc8a67ab1d0aabd6319c49584f1b8d0aa2a595132c4d53a937ec616c7bca0"), looks := true }, kinds := [], alts := [], laidByText := true, laidKinds := [.data, .sentinel, .pinned], laidTests := true, laidLooks := .later }
def FnPartArgumentCardSaid : Prop := Claim7.holds Tryz.pinned (.plain (OpenSpec.ofChange fnPartArgumentSpec)) fnPartArgumentCard

/-- THE TIED CARD OF 'laws.FnPartDescription'. -/
def fnPartDescriptionCard : Claim7 := { stood := { row := fnPartDescriptionRow, standIns := [], harness := (true, "57afc8a67ab1d0aabd6319c49584f1b8d0aa2a595132c4d53a937ec616c7bca0"), looks := true }, kinds := [], alts := [], laidByText := true, laidKinds := [.data, .sentinel, .pinned], laidTests := true, laidLooks := .later }
def FnPartDescriptionCardSaid : Prop := Claim7.holds Tryz.pinned (.plain (OpenSpec.ofChange fnPartDescriptionSpec)) fnPartDescriptionCard

/-- THE TIED CARD OF 'laws.FnPartDirective'. -/
def fnPartDirectiveCard : Claim7 := { stood := { row := fnPartDirectiveRow, standIns := [], harness := (true, "57afc8a67ab1d0aabd6319c49584f1b8d0aa2a595132c4d53a937ec616c7bca0"), looks := true }, kinds := [], alts := [], laidByText := true, laidKinds := [.data, .sentinel, .pinned], laidTests := true, laidLooks := .later }
def FnPartDirectiveCardSaid : Prop := Claim7.holds Tryz.pinned (.plain (OpenSpec.ofChange fnPartDirectiveSpec)) fnPartDirectiveCard

/-- THE TIED CARD OF 'laws.FnPartEnumValue'. -/
def fnPartEnumValueCard : Claim7 := { stood := { row := fnPartEnumValueRow, standIns := [], harness := (true, "57afc8a67ab1d0aabd6319c49584f1b8d0aa2a595132c4d53a937ec616c7bca0"), looks := true }, kinds := [], alts := [], laidByText := true, laidKinds := [.data, .sentinel, .pinned], laidTests := true, laidLooks := .later }
def FnPartEnumValueCardSaid : Prop := Claim7.holds Tryz.pinned (.plain (OpenSpec.ofChange fnPartEnumValueSpec)) fnPartEnumValueCard

/-- THE TIED CARD OF 'laws.FnPartFieldDef'. -/
def fnPartFieldDefCard : Claim7 := { stood := { row := fnPartFieldDefRow, standIns := [], harness := (true, "57afc8a67ab1d0aabd6319c49584f1b8d0aa2a595132c4d53a937ec616c7bca0"), looks := true }, kinds := [], alts := [], laidByText := true, laidKinds := [.data, .sentinel, .pinned], laidTests := true, laidLooks := .later }
def FnPartFieldDefCardSaid : Prop := Claim7.holds Tryz.pinned (.plain (OpenSpec.ofChange fnPartFieldDefSpec)) fnPartFieldDefCard

/-- THE TIED CARD OF 'laws.FnPartInputDef'. -/
def fnPartInputDefCard : Claim7 := { stood := { row := fnPartInputDefRow, standIns := [], harness := (true, "57afc8a67ab1d0aabd6319c49584f1b8d0aa2a595132c4d53a937ec616c7bca0"), looks := true }, kinds := [], alts := [], laidByText := true, laidKinds := [.data, .sentinel, .pinned], laidTests := true, laidLooks := .later }
def FnPartInputDefCardSaid : Prop := Claim7.holds Tryz.pinned (.plain (OpenSpec.ofChange fnPartInputDefSpec)) fnPartInputDefCard

/-- THE TIED CARD OF 'laws.FnPartOperationType'. -/
def fnPartOperationTypeCard : Claim7 := { stood := { row := fnPartOperationTypeRow, standIns := [], harness := (true, "57afc8a67ab1d0aabd6319c49584f1b8d0aa2a595132c4d53a937ec616c7bca0"), looks := true }, kinds := [], alts := [], laidByText := true, laidKinds := [.data, .sentinel, .pinned], laidTests := true, laidLooks := .later }
def FnPartOperationTypeCardSaid : Prop := Claim7.holds Tryz.pinned (.plain (OpenSpec.ofChange fnPartOperationTypeSpec)) fnPartOperationTypeCard

/-- THE TIED CARD OF 'laws.FnPartScalar'. -/
def fnPartScalarCard : Claim7 := { stood := { row := fnPartScalarRow, standIns := [], harness := (true, "57afc8a67ab1d0aabd6319c49584f1b8d0aa2a595132c4d53a937ec616c7bca0"), looks := true }, kinds := [], alts := [], laidByText := true, laidKinds := [.data, .sentinel, .pinned], laidTests := true, laidLooks := .later }
def FnPartScalarCardSaid : Prop := Claim7.holds Tryz.pinned (.plain (OpenSpec.ofChange fnPartScalarSpec)) fnPartScalarCard

/-- THE TIED CARD OF 'laws.FnPartSchema'. -/
def fnPartSchemaCard : Claim7 := { stood := { row := fnPartSchemaRow, standIns := [], harness := (true, "57afc8a67ab1d0aabd6319c49584f1b8d0aa2a595132c4d53a937ec616c7bca0"), looks := true }, kinds := [], alts := [], laidByText := true, laidKinds := [.data, .sentinel, .pinned], laidTests := true, laidLooks := .later }
def FnPartSchemaCardSaid : Prop := Claim7.holds Tryz.pinned (.plain (OpenSpec.ofChange fnPartSchemaSpec)) fnPartSchemaCard

/-- THE TIED CARD OF 'laws.FnPartSpread'. -/
def fnPartSpreadCard : Claim7 := { stood := { row := fnPartSpreadRow, standIns := [], harness := (true, "57afc8a67ab1d0aabd6319c49584f1b8d0aa2a595132c4d53a937ec616c7bca0"), looks := true }, kinds := [], alts := [], laidByText := true, laidKinds := [.data, .sentinel, .pinned], laidTests := true, laidLooks := .later }
def FnPartSpreadCardSaid : Prop := Claim7.holds Tryz.pinned (.plain (OpenSpec.ofChange fnPartSpreadSpec)) fnPartSpreadCard

/-- THE TIED CARD OF 'laws.FnPartUnion'. -/
def fnPartUnionCard : Claim7 := { stood := { row := fnPartUnionRow, standIns := [], harness := (true, "57afc8a67ab1d0aabd6319c49584f1b8d0aa2a595132c4d53a937ec616c7bca0"), looks := true }, kinds := [], alts := [], laidByText := true, laidKinds := [.data, .sentinel, .pinned], laidTests := true, laidLooks := .later }
def FnPartUnionCardSaid : Prop := Claim7.holds Tryz.pinned (.plain (OpenSpec.ofChange fnPartUnionSpec)) fnPartUnionCard

/-- THE TIED CARD OF 'laws.FnPartVariable'. -/
def fnPartVariableCard : Claim7 := { stood := { row := fnPartVariableRow, standIns := [], harness := (true, "57afc8a67ab1d0aabd6319c49584f1b8d0aa2a595132c4d53a937ec616c7bca0"), looks := true }, kinds := [], alts := [], laidByText := true, laidKinds := [.data, .sentinel, .pinned], laidTests := true, laidLooks := .later }
def FnPartVariableCardSaid : Prop := Claim7.holds Tryz.pinned (.plain (OpenSpec.ofChange fnPartVariableSpec)) fnPartVariableCard

/-- THE SECOND FORM's CARD OF 'laws.FnPartArgument'. -/
def fnPartArgumentUptoCard : Claim7 := { stood := { row := fnPartArgumentUptoRow, standIns := [], harness := (true, "57afc8a67ab1d0aabd6319c49584f1b8d0aa2a595132c4d53a937ec616c7bca0"), looks := true }, kinds := [], alts := [], laidByText := true, laidKinds := [.data, .sentinel, .pinned], laidTests := true, laidLooks := .later }
def FnPartArgumentUptoCardSaid : Prop := Claim7.holds Tryz.pinned (.plain (OpenSpec.upto fnPartArgumentSpec)) fnPartArgumentUptoCard

/-- THE SECOND FORM's CARD OF 'laws.FnPartDescription'. -/
def fnPartDescriptionUptoCard : Claim7 := { stood := { row := fnPartDescriptionUptoRow, standIns := [], harness := (true, "57afc8a67ab1d0aabd6319c49584f1b8d0aa2a595132c4d53a937ec616c7bca0"), looks := true }, kinds := [], alts := [], laidByText := true, laidKinds := [.data, .sentinel, .pinned], laidTests := true, laidLooks := .later }
def FnPartDescriptionUptoCardSaid : Prop := Claim7.holds Tryz.pinned (.plain (OpenSpec.upto fnPartDescriptionSpec)) fnPartDescriptionUptoCard

/-- THE SECOND FORM's CARD OF 'laws.FnPartDirective'. -/
def fnPartDirectiveUptoCard : Claim7 := { stood := { row := fnPartDirectiveUptoRow, standIns := [], harness := (true, "57afc8a67ab1d0aabd6319c49584f1b8d0aa2a595132c4d53a937ec616c7bca0"), looks := true }, kinds := [], alts := [], laidByText := true, laidKinds := [.data, .sentinel, .pinned], laidTests := true, laidLooks := .later }
def FnPartDirectiveUptoCardSaid : Prop := Claim7.holds Tryz.pinned (.plain (OpenSpec.upto fnPartDirectiveSpec)) fnPartDirectiveUptoCard

/-- THE SECOND FORM's CARD OF 'laws.FnPartEnumValue'. -/
def fnPartEnumValueUptoCard : Claim7 := { stood := { row := fnPartEnumValueUptoRow, standIns := [], harness := (true, "57afc8a67ab1d0aabd6319c49584f1b8d0aa2a595132c4d53a937ec616c7bca0"), looks := true }, kinds := [], alts := [], laidByText := true, laidKinds := [.data, .sentinel, .pinned], laidTests := true, laidLooks := .later }
def FnPartEnumValueUptoCardSaid : Prop := Claim7.holds Tryz.pinned (.plain (OpenSpec.upto fnPartEnumValueSpec)) fnPartEnumValueUptoCard

/-- THE SECOND FORM's CARD OF 'laws.FnPartFieldDef'. -/
def fnPartFieldDefUptoCard : Claim7 := { stood := { row := fnPartFieldDefUptoRow, standIns := [], harness := (true, "57afc8a67ab1d0aabd6319c49584f1b8d0aa2a595132c4d53a937ec616c7bca0"), looks := true }, kinds := [], alts := [], laidByText := true, laidKinds := [.data, .sentinel, .pinned], laidTests := true, laidLooks := .later }
def FnPartFieldDefUptoCardSaid : Prop := Claim7.holds Tryz.pinned (.plain (OpenSpec.upto fnPartFieldDefSpec)) fnPartFieldDefUptoCard

/-- THE SECOND FORM's CARD OF 'laws.FnPartInputDef'. -/
def fnPartInputDefUptoCard : Claim7 := { stood := { row := fnPartInputDefUptoRow, standIns := [], harness := (true, "57afc8a67ab1d0aabd6319c49584f1b8d0aa2a595132c4d53a937ec616c7bca0"), looks := true }, kinds := [], alts := [], laidByText := true, laidKinds := [.data, .sentinel, .pinned], laidTests := true, laidLooks := .later }
def FnPartInputDefUptoCardSaid : Prop := Claim7.holds Tryz.pinned (.plain (OpenSpec.upto fnPartInputDefSpec)) fnPartInputDefUptoCard

/-- THE SECOND FORM's CARD OF 'laws.FnPartOperationType'. -/
def fnPartOperationTypeUptoCard : Claim7 := { stood := { row := fnPartOperationTypeUptoRow, standIns := [], harness := (true, "57afc8a67ab1d0aabd6319c49584f1b8d0aa2a595132c4d53a937ec616c7bca0"), looks := true }, kinds := [], alts := [], laidByText := true, laidKinds := [.data, .sentinel, .pinned], laidTests := true, laidLooks := .later }
def FnPartOperationTypeUptoCardSaid : Prop := Claim7.holds Tryz.pinned (.plain (OpenSpec.upto fnPartOperationTypeSpec)) fnPartOperationTypeUptoCard

/-- THE SECOND FORM's CARD OF 'laws.FnPartScalar'. -/
def fnPartScalarUptoCard : Claim7 := { stood := { row := fnPartScalarUptoRow, standIns := [], harness := (true, "57afc8a67ab1d0aabd6319c49584f1b8d0aa2a595132c4d53a937ec616c7bca0"), looks := true }, kinds := [], alts := [], laidByText := true, laidKinds := [.data, .sentinel, .pinned], laidTests := true, laidLooks := .later }
def FnPartScalarUptoCardSaid : Prop := Claim7.holds Tryz.pinned (.plain (OpenSpec.upto fnPartScalarSpec)) fnPartScalarUptoCard

/-- THE SECOND FORM's CARD OF 'laws.FnPartSchema'. -/
def fnPartSchemaUptoCard : Claim7 := { stood := { row := fnPartSchemaUptoRow, standIns := [], harness := (true, "57afc8a67ab1d0aabd6319c49584f1b8d0aa2a595132c4d53a937ec616c7bca0"), looks := true }, kinds := [], alts := [], laidByText := true, laidKinds := [.data, .sentinel, .pinned], laidTests := true, laidLooks := .later }
def FnPartSchemaUptoCardSaid : Prop := Claim7.holds Tryz.pinned (.plain (OpenSpec.upto fnPartSchemaSpec)) fnPartSchemaUptoCard

/-- THE SECOND FORM's CARD OF 'laws.FnPartSpread'. -/
def fnPartSpreadUptoCard : Claim7 := { stood := { row := fnPartSpreadUptoRow, standIns := [], harness := (true, "57afc8a67ab1d0aabd6319c49584f1b8d0aa2a595132c4d53a937ec616c7bca0"), looks := true }, kinds := [], alts := [], laidByText := true, laidKinds := [.data, .sentinel, .pinned], laidTests := true, laidLooks := .later }
def FnPartSpreadUptoCardSaid : Prop := Claim7.holds Tryz.pinned (.plain (OpenSpec.upto fnPartSpreadSpec)) fnPartSpreadUptoCard

/-- THE SECOND FORM's CARD OF 'laws.FnPartUnion'. -/
def fnPartUnionUptoCard : Claim7 := { stood := { row := fnPartUnionUptoRow, standIns := [], harness := (true, "57afc8a67ab1d0aabd6319c49584f1b8d0aa2a595132c4d53a937ec616c7bca0"), looks := true }, kinds := [], alts := [], laidByText := true, laidKinds := [.data, .sentinel, .pinned], laidTests := true, laidLooks := .later }
def FnPartUnionUptoCardSaid : Prop := Claim7.holds Tryz.pinned (.plain (OpenSpec.upto fnPartUnionSpec)) fnPartUnionUptoCard

/-- THE SECOND FORM's CARD OF 'laws.FnPartVariable'. -/
def fnPartVariableUptoCard : Claim7 := { stood := { row := fnPartVariableUptoRow, standIns := [], harness := (true, "57afc8a67ab1d0aabd6319c49584f1b8d0aa2a595132c4d53a937ec616c7bca0"), looks := true }, kinds := [], alts := [], laidByText := true, laidKinds := [.data, .sentinel, .pinned], laidTests := true, laidLooks := .later }
def FnPartVariableUptoCardSaid : Prop := Claim7.holds Tryz.pinned (.plain (OpenSpec.upto fnPartVariableSpec)) fnPartVariableUptoCard
end Rows
end Go.Proofs.YtndpjeldpdppmaaGreatDoor
