/-
  DERIVED. GIVEN WITH THE SEED: THE CARDS: each row of YtkopcepfeeemhaaGreatDoorRows.lean that lists a variable, with what it lists TIED to the program's text (the seventh form; the later family's looks); each row that meets fmt, with fmt's text TOLD by the authors' own Lean function (tested against real Go, not proved from fmt's source: count such statements apart). THE CARD IS WHAT COUNTS. Prove the row's statement (the work); the ties are given (YtkopcepfeeemhaaGreatDoorTie.lean); close each card by the builder's one call (the guide's Derived/Test/ToyasCard.lean, 'card_holds'). Laid BY PROGRAM, IN A SANDBOX (cutbox-door.mjs). By AI agents, Wed Nov 11 2026. No macro, syntax, notation, axiom, sorry.
-/
import Derived.Test.YtkopcepfeeemhaaGreatDoorRows
import GoSem.ClaimSeven
namespace Go.Proofs.YtkopcepfeeemhaaGreatDoor
namespace Rows

/-- THE TIED CARD OF 'laws.FnPartArguments'. -/
def fnPartArgumentsCard : Claim7 := { stood := { row := fnPartArgumentsRow, standIns := [], harness := (true, "6f6ada3404007181ebb1b90908a1cb8a93fca6e4f6a10eabc06a84d7ff0978c5"), looks := true }, kinds := [], alts := [], laidByText := true, laidKinds := [.data, .sentinel, .pinned], laidTests := true, laidLooks := .later }
def FnPartArgumentsCardSaid : Prop := Claim7.holds Tryz.pinned (.plain (OpenSpec.ofChange fnPartArgumentsSpec)) fnPartArgumentsCard

/-- THE TIED CARD OF 'laws.FnPartDirectiveDef'. -/
def fnPartDirectiveDefCard : Claim7 := { stood := { row := fnPartDirectiveDefRow, standIns := [], harness := (true, "6f6ada3404007181ebb1b90908a1cb8a93fca6e4f6a10eabc06a84d7ff0978c5"), looks := true }, kinds := [], alts := [], laidByText := true, laidKinds := [.data, .sentinel, .pinned], laidTests := true, laidLooks := .later }
def FnPartDirectiveDefCardSaid : Prop := Claim7.holds Tryz.pinned (.plain (OpenSpec.ofChange fnPartDirectiveDefSpec)) fnPartDirectiveDefCard

/-- THE TIED CARD OF 'laws.FnPartEnum'. -/
def fnPartEnumCard : Claim7 := { stood := { row := fnPartEnumRow, standIns := [], harness := (true, "6f6ada3404007181ebb1b90908a1cb8a93fca6e4f6a10eabc06a84d7ff0978c5"), looks := true }, kinds := [], alts := [], laidByText := true, laidKinds := [.data, .sentinel, .pinned], laidTests := true, laidLooks := .later }
def FnPartEnumCardSaid : Prop := Claim7.holds Tryz.pinned (.plain (OpenSpec.ofChange fnPartEnumSpec)) fnPartEnumCard

/-- THE TIED CARD OF 'laws.FnPartExtend'. -/
def fnPartExtendCard : Claim7 := { stood := { row := fnPartExtendRow, standIns := [], harness := (true, "6f6ada3404007181ebb1b90908a1cb8a93fca6e4f6a10eabc06a84d7ff0978c5"), looks := true }, kinds := [], alts := [], laidByText := true, laidKinds := [.data, .sentinel, .pinned], laidTests := true, laidLooks := .later }
def FnPartExtendCardSaid : Prop := Claim7.holds Tryz.pinned (.plain (OpenSpec.ofChange fnPartExtendSpec)) fnPartExtendCard

/-- THE TIED CARD OF 'laws.FnPartField'. -/
def fnPartFieldCard : Claim7 := { stood := { row := fnPartFieldRow, standIns := [], harness := (true, "6f6ada3404007181ebb1b90908a1cb8a93fca6e4f6a10eabc06a84d7ff0978c5"), looks := true }, kinds := [], alts := [], laidByText := true, laidKinds := [.data, .sentinel, .pinned], laidTests := true, laidLooks := .later }
def FnPartFieldCardSaid : Prop := Claim7.holds Tryz.pinned (.plain (OpenSpec.ofChange fnPartFieldSpec)) fnPartFieldCard

/-- THE TIED CARD OF 'laws.FnPartFragment'. -/
def fnPartFragmentCard : Claim7 := { stood := { row := fnPartFragmentRow, standIns := [], harness := (true, "6f6ada3404007181ebb1b90908a1cb8a93fca6e4f6a10eabc06a84d7ff0978c5"), looks := true }, kinds := [], alts := [], laidByText := true, laidKinds := [.data, .sentinel, .pinned], laidTests := true, laidLooks := .later }
def FnPartFragmentCardSaid : Prop := Claim7.holds Tryz.pinned (.plain (OpenSpec.ofChange fnPartFragmentSpec)) fnPartFragmentCard

/-- THE TIED CARD OF 'laws.FnPartInline'. -/
def fnPartInlineCard : Claim7 := { stood := { row := fnPartInlineRow, standIns := [], harness := (true, "6f6ada3404007181ebb1b90908a1cb8a93fca6e4f6a10eabc06a84d7ff0978c5"), looks := true }, kinds := [], alts := [], laidByText := true, laidKinds := [.data, .sentinel, .pinned], laidTests := true, laidLooks := .later }
def FnPartInlineCardSaid : Prop := Claim7.holds Tryz.pinned (.plain (OpenSpec.ofChange fnPartInlineSpec)) fnPartInlineCard

/-- THE TIED CARD OF 'laws.FnPartInput'. -/
def fnPartInputCard : Claim7 := { stood := { row := fnPartInputRow, standIns := [], harness := (true, "6f6ada3404007181ebb1b90908a1cb8a93fca6e4f6a10eabc06a84d7ff0978c5"), looks := true }, kinds := [], alts := [], laidByText := true, laidKinds := [.data, .sentinel, .pinned], laidTests := true, laidLooks := .later }
def FnPartInputCardSaid : Prop := Claim7.holds Tryz.pinned (.plain (OpenSpec.ofChange fnPartInputSpec)) fnPartInputCard

/-- THE TIED CARD OF 'laws.FnPartInterface'. -/
def fnPartInterfaceCard : Claim7 := { stood := { row := fnPartInterfaceRow, standIns := [], harness := (true, "6f6ada3404007181ebb1b90908a1cb8a93fca6e4f6a10eabc06a84d7ff0978c5"), looks := true }, kinds := [], alts := [], laidByText := true, laidKinds := [.data, .sentinel, .pinned], laidTests := true, laidLooks := .later }
def FnPartInterfaceCardSaid : Prop := Claim7.holds Tryz.pinned (.plain (OpenSpec.ofChange fnPartInterfaceSpec)) fnPartInterfaceCard

/-- THE TIED CARD OF 'laws.FnPartObject'. -/
def fnPartObjectCard : Claim7 := { stood := { row := fnPartObjectRow, standIns := [], harness := (true, "6f6ada3404007181ebb1b90908a1cb8a93fca6e4f6a10eabc06a84d7ff0978c5"), looks := true }, kinds := [], alts := [], laidByText := true, laidKinds := [.data, .sentinel, .pinned], laidTests := true, laidLooks := .later }
def FnPartObjectCardSaid : Prop := Claim7.holds Tryz.pinned (.plain (OpenSpec.ofChange fnPartObjectSpec)) fnPartObjectCard

/-- THE TIED CARD OF 'laws.FnPartOperation'. -/
def fnPartOperationCard : Claim7 := { stood := { row := fnPartOperationRow, standIns := [], harness := (true, "6f6ada3404007181ebb1b90908a1cb8a93fca6e4f6a10eabc06a84d7ff0978c5"), looks := true }, kinds := [], alts := [], laidByText := true, laidKinds := [.data, .sentinel, .pinned], laidTests := true, laidLooks := .later }
def FnPartOperationCardSaid : Prop := Claim7.holds Tryz.pinned (.plain (OpenSpec.ofChange fnPartOperationSpec)) fnPartOperationCard

/-- THE TIED CARD OF 'laws.FnPartOther'. -/
def fnPartOtherCard : Claim7 := { stood := { row := fnPartOtherRow, standIns := [], harness := (true, "6f6ada3404007181ebb1b90908a1cb8a93fca6e4f6a10eabc06a84d7ff0978c5"), looks := true }, kinds := [], alts := [], laidByText := true, laidKinds := [.data, .sentinel, .pinned], laidTests := true, laidLooks := .later }
def FnPartOtherCardSaid : Prop := Claim7.holds Tryz.pinned (.plain (OpenSpec.ofChange fnPartOtherSpec)) fnPartOtherCard

/-- THE SECOND FORM's CARD OF 'laws.FnPartArguments'. -/
def fnPartArgumentsUptoCard : Claim7 := { stood := { row := fnPartArgumentsUptoRow, standIns := [], harness := (true, "6f6ada3404007181ebb1b90908a1cb8a93fca6e4f6a10eabc06a84d7ff0978c5"), looks := true }, kinds := [], alts := [], laidByText := true, laidKinds := [.data, .sentinel, .pinned], laidTests := true, laidLooks := .later }
def FnPartArgumentsUptoCardSaid : Prop := Claim7.holds Tryz.pinned (.plain (OpenSpec.upto fnPartArgumentsSpec)) fnPartArgumentsUptoCard

/-- THE SECOND FORM's CARD OF 'laws.FnPartDirectiveDef'. -/
def fnPartDirectiveDefUptoCard : Claim7 := { stood := { row := fnPartDirectiveDefUptoRow, standIns := [], harness := (true, "6f6ada3404007181ebb1b90908a1cb8a93fca6e4f6a10eabc06a84d7ff0978c5"), looks := true }, kinds := [], alts := [], laidByText := true, laidKinds := [.data, .sentinel, .pinned], laidTests := true, laidLooks := .later }
def FnPartDirectiveDefUptoCardSaid : Prop := Claim7.holds Tryz.pinned (.plain (OpenSpec.upto fnPartDirectiveDefSpec)) fnPartDirectiveDefUptoCard

/-- THE SECOND FORM's CARD OF 'laws.FnPartEnum'. -/
def fnPartEnumUptoCard : Claim7 := { stood := { row := fnPartEnumUptoRow, standIns := [], harness := (true, "6f6ada3404007181ebb1b90908a1cb8a93fca6e4f6a10eabc06a84d7ff0978c5"), looks := true }, kinds := [], alts := [], laidByText := true, laidKinds := [.data, .sentinel, .pinned], laidTests := true, laidLooks := .later }
def FnPartEnumUptoCardSaid : Prop := Claim7.holds Tryz.pinned (.plain (OpenSpec.upto fnPartEnumSpec)) fnPartEnumUptoCard

/-- THE SECOND FORM's CARD OF 'laws.FnPartExtend'. -/
def fnPartExtendUptoCard : Claim7 := { stood := { row := fnPartExtendUptoRow, standIns := [], harness := (true, "6f6ada3404007181ebb1b90908a1cb8a93fca6e4f6a10eabc06a84d7ff0978c5"), looks := true }, kinds := [], alts := [], laidByText := true, laidKinds := [.data, .sentinel, .pinned], laidTests := true, laidLooks := .later }
def FnPartExtendUptoCardSaid : Prop := Claim7.holds Tryz.pinned (.plain (OpenSpec.upto fnPartExtendSpec)) fnPartExtendUptoCard

/-- THE SECOND FORM's CARD OF 'laws.FnPartField'. -/
def fnPartFieldUptoCard : Claim7 := { stood := { row := fnPartFieldUptoRow, standIns := [], harness := (true, "6f6ada3404007181ebb1b90908a1cb8a93fca6e4f6a10eabc06a84d7ff0978c5"), looks := true }, kinds := [], alts := [], laidByText := true, laidKinds := [.data, .sentinel, .pinned], laidTests := true, laidLooks := .later }
def FnPartFieldUptoCardSaid : Prop := Claim7.holds Tryz.pinned (.plain (OpenSpec.upto fnPartFieldSpec)) fnPartFieldUptoCard

/-- THE SECOND FORM's CARD OF 'laws.FnPartFragment'. -/
def fnPartFragmentUptoCard : Claim7 := { stood := { row := fnPartFragmentUptoRow, standIns := [], harness := (true, "6f6ada3404007181ebb1b90908a1cb8a93fca6e4f6a10eabc06a84d7ff0978c5"), looks := true }, kinds := [], alts := [], laidByText := true, laidKinds := [.data, .sentinel, .pinned], laidTests := true, laidLooks := .later }
def FnPartFragmentUptoCardSaid : Prop := Claim7.holds Tryz.pinned (.plain (OpenSpec.upto fnPartFragmentSpec)) fnPartFragmentUptoCard

/-- THE SECOND FORM's CARD OF 'laws.FnPartInline'. -/
def fnPartInlineUptoCard : Claim7 := { stood := { row := fnPartInlineUptoRow, standIns := [], harness := (true, "6f6ada3404007181ebb1b90908a1cb8a93fca6e4f6a10eabc06a84d7ff0978c5"), looks := true }, kinds := [], alts := [], laidByText := true, laidKinds := [.data, .sentinel, .pinned], laidTests := true, laidLooks := .later }
def FnPartInlineUptoCardSaid : Prop := Claim7.holds Tryz.pinned (.plain (OpenSpec.upto fnPartInlineSpec)) fnPartInlineUptoCard

/-- THE SECOND FORM's CARD OF 'laws.FnPartInput'. -/
def fnPartInputUptoCard : Claim7 := { stood := { row := fnPartInputUptoRow, standIns := [], harness := (true, "6f6ada3404007181ebb1b90908a1cb8a93fca6e4f6a10eabc06a84d7ff0978c5"), looks := true }, kinds := [], alts := [], laidByText := true, laidKinds := [.data, .sentinel, .pinned], laidTests := true, laidLooks := .later }
def FnPartInputUptoCardSaid : Prop := Claim7.holds Tryz.pinned (.plain (OpenSpec.upto fnPartInputSpec)) fnPartInputUptoCard

/-- THE SECOND FORM's CARD OF 'laws.FnPartInterface'. -/
def fnPartInterfaceUptoCard : Claim7 := { stood := { row := fnPartInterfaceUptoRow, standIns := [], harness := (true, "6f6ada3404007181ebb1b90908a1cb8a93fca6e4f6a10eabc06a84d7ff0978c5"), looks := true }, kinds := [], alts := [], laidByText := true, laidKinds := [.data, .sentinel, .pinned], laidTests := true, laidLooks := .later }
def FnPartInterfaceUptoCardSaid : Prop := Claim7.holds Tryz.pinned (.plain (OpenSpec.upto fnPartInterfaceSpec)) fnPartInterfaceUptoCard

/-- THE SECOND FORM's CARD OF 'laws.FnPartObject'. -/
def fnPartObjectUptoCard : Claim7 := { stood := { row := fnPartObjectUptoRow, standIns := [], harness := (true, "6f6ada3404007181ebb1b90908a1cb8a93fca6e4f6a10eabc06a84d7ff0978c5"), looks := true }, kinds := [], alts := [], laidByText := true, laidKinds := [.data, .sentinel, .pinned], laidTests := true, laidLooks := .later }
def FnPartObjectUptoCardSaid : Prop := Claim7.holds Tryz.pinned (.plain (OpenSpec.upto fnPartObjectSpec)) fnPartObjectUptoCard

/-- THE SECOND FORM's CARD OF 'laws.FnPartOperation'. -/
def fnPartOperationUptoCard : Claim7 := { stood := { row := fnPartOperationUptoRow, standIns := [], harness := (true, "6f6ada3404007181ebb1b90908a1cb8a93fca6e4f6a10eabc06a84d7ff0978c5"), looks := true }, kinds := [], alts := [], laidByText := true, laidKinds := [.data, .sentinel, .pinned], laidTests := true, laidLooks := .later }
def FnPartOperationUptoCardSaid : Prop := Claim7.holds Tryz.pinned (.plain (OpenSpec.upto fnPartOperationSpec)) fnPartOperationUptoCard

/-- THE SECOND FORM's CARD OF 'laws.FnPartOther'. -/
def fnPartOtherUptoCard : Claim7 := { stood := { row := fnPartOtherUptoRow, standIns := [], harness := (true, "6f6ada3404007181ebb1b90908a1cb8a93fca6e4f6a10eabc06a84d7ff0978c5"), looks := true }, kinds := [], alts := [], laidByText := true, laidKinds := [.data, .sentinel, .pinned], laidTests := true, laidLooks := .later }
def FnPartOtherUptoCardSaid : Prop := Claim7.holds Tryz.pinned (.plain (OpenSpec.upto fnPartOtherSpec)) fnPartOtherUptoCard
end Rows
end Go.Proofs.YtkopcepfeeemhaaGreatDoor
