/-
  NARROWER THAN 'FOR EVERY INPUT', by the rows' own cells (each row's printed sentence says how): FnPartArguments: laid · FnPartDirectiveDef: laid · FnPartEnum: laid · FnPartExtend: laid · FnPartField: laid · FnPartFragment: laid · FnPartInline: laid · FnPartInput: laid · FnPartInterface: laid · FnPartObject: laid · FnPartOperation: laid · FnPartOther: laid.
  DERIVED. THE GIVEN ROWS OF THIS SEAT. 12 by the template 'for every input the law returns true; each argument reads behind the call as it read before'; 0 by the template 'total and deterministic' (their statements: YtkopcepfeeemhaaGreatDoorTotals.lean).
  GIVEN WITH THE SEED: the statements are not yours to turn. If you find one false, say at which input.
  Laid BY PROGRAM, IN A SANDBOX (cutbox-rows.mjs): the forced cells as the released guide's own fill.sh prints them over the translation 9ffb0d3b00e3cb16… (all of the seat's roots in one cut). By AI agents, Wed Nov 11 2026. No macro, syntax, notation, axiom, sorry.
-/
import Derived.Test.YtkopcepfeeemhaaGreatDoorChecked
import GoSem.PinnedTables
import GoSem.Claim
import GoSem.ClaimJoined
import GoSem.ClaimMapViews
import Derived.JoinedTies
import Derived.KernelRfl
namespace Go.Proofs.YtkopcepfeeemhaaGreatDoor
/- THE CELL 'sum', in the pinned program and in every row, IS THE sha256 OF THE DUMP (.gsa) THAT YtkopcepfeeemhaaGreatDoorProg.lean LOADS. Nothing in Lean hashes anything: it is a label: what it is worth is what the hold of that sum in a sandbox is worth. -/
noncomputable def Tryz.pinned : Pinned := { name := "ytkopcepfeeemhaagreatdoor", sum := "9ffb0d3b00e3cb16769d36e4f03c70bbc9783f7bac7c95875d64bc207223a923", checked := Tryz.checked }
namespace Rows
def none {H : Type} : Left H := { results := [], args := [] }

/- WHAT THE LISTED PACKAGE-LEVEL VARIABLES READ AS WHEN THE CALL BEGINS. Each datum BY PROGRAM (the guide's laid-datum.mjs) off the statement by which the dump's own 'gosem.cut.vars' lays the variable. In a bare row this is a premise. The card (YtkopcepfeeemhaaGreatDoorCards.lean) ties it to the program's text. -/
def laid_unicode_utf8_acceptRanges {H : Type} : DataW H := .agg [.agg [.lit (.int .u8 128), .lit (.int .u8 191)], .agg [.lit (.int .u8 160), .lit (.int .u8 191)], .agg [.lit (.int .u8 128), .lit (.int .u8 159)], .agg [.lit (.int .u8 144), .lit (.int .u8 191)], .agg [.lit (.int .u8 128), .lit (.int .u8 143)], .agg [.lit (.int .u8 0), .lit (.int .u8 0)], .agg [.lit (.int .u8 0), .lit (.int .u8 0)], .agg [.lit (.int .u8 0), .lit (.int .u8 0)], .agg [.lit (.int .u8 0), .lit (.int .u8 0)], .agg [.lit (.int .u8 0), .lit (.int .u8 0)], .agg [.lit (.int .u8 0), .lit (.int .u8 0)], .agg [.lit (.int .u8 0), .lit (.int .u8 0)], .agg [.lit (.int .u8 0), .lit (.int .u8 0)], .agg [.lit (.int .u8 0), .lit (.int .u8 0)], .agg [.lit (.int .u8 0), .lit (.int .u8 0)], .agg [.lit (.int .u8 0), .lit (.int .u8 0)]]
def laid_bytes_ErrTooLarge {H : Type} : DataW H := .iface "*errors.errorString" (.ptr (.agg [.lit (.string [98, 121, 116, 101, 115, 46, 66, 117, 102, 102, 101, 114, 58, 32, 116, 111, 111, 32, 108, 97, 114, 103, 101])]))
/-- One of Go's own tables, pinned by name: the form's constant. -/
def laid_unicode_utf8_first : DataW Unit := Go.Pinned.utf8First

/-- 'laws.FnPartArguments': WHATEVER THE INPUT: true; the input reads as it did. -/
def fnPartArgumentsSpec : ChangeSpec := { name := "fnPartArguments", fn := fun _ => fun
  | [d1, d2, d3] => { results := [.lit (.bool true)], args := [d1, d2, d3] }
  | _ => none }
def fnPartArgumentsRow : OpenClaim := { program := "ytkopcepfeeemhaagreatdoor", sum := "9ffb0d3b00e3cb16769d36e4f03c70bbc9783f7bac7c95875d64bc207223a923", func := "given.example/pub-antiphonal/laws.FnPartArguments", spec := "fnPartArguments", inPlace := ["internal/abi.NoEscape", "internal/bytealg.MakeNoZero"], unfollowed := true, recurses := true, named := ["unicode/utf8.first", "unicode/utf8.acceptRanges", "bytes.ErrTooLarge"], apart := false, laid := [("unicode/utf8.acceptRanges", laid_unicode_utf8_acceptRanges), ("bytes.ErrTooLarge", laid_bytes_ErrTooLarge), ("unicode/utf8.first", laid_unicode_utf8_first)] }
def FnPartArgumentsSaid : Prop := fnPartArgumentsRow.holds Tryz.pinned (OpenSpec.ofChange fnPartArgumentsSpec)

/-- ITS FALSE NEIGHBOUR: 'it returns false'. Refute it at one input. -/
def fnPartArgumentsWrong : ChangeSpec := { name := "fnPartArguments", fn := fun _ => fun
  | [d1, d2, d3] => { results := [.lit (.bool false)], args := [d1, d2, d3] }
  | _ => none }
def FnPartArgumentsWrongFalsely : Prop := fnPartArgumentsRow.holds Tryz.pinned (OpenSpec.ofChange fnPartArgumentsWrong)

/-- 'laws.FnPartDirectiveDef': WHATEVER THE INPUT: true; the input reads as it did. -/
def fnPartDirectiveDefSpec : ChangeSpec := { name := "fnPartDirectiveDef", fn := fun _ => fun
  | [d1, d2, d3] => { results := [.lit (.bool true)], args := [d1, d2, d3] }
  | _ => none }
def fnPartDirectiveDefRow : OpenClaim := { program := "ytkopcepfeeemhaagreatdoor", sum := "9ffb0d3b00e3cb16769d36e4f03c70bbc9783f7bac7c95875d64bc207223a923", func := "given.example/pub-antiphonal/laws.FnPartDirectiveDef", spec := "fnPartDirectiveDef", inPlace := ["internal/abi.NoEscape", "internal/bytealg.MakeNoZero"], unfollowed := true, recurses := true, named := ["unicode/utf8.first", "unicode/utf8.acceptRanges", "bytes.ErrTooLarge"], apart := false, laid := [("unicode/utf8.acceptRanges", laid_unicode_utf8_acceptRanges), ("bytes.ErrTooLarge", laid_bytes_ErrTooLarge), ("unicode/utf8.first", laid_unicode_utf8_first)] }
def FnPartDirectiveDefSaid : Prop := fnPartDirectiveDefRow.holds Tryz.pinned (OpenSpec.ofChange fnPartDirectiveDefSpec)

/-- ITS FALSE NEIGHBOUR: 'it returns false'. Refute it at one input. -/
def fnPartDirectiveDefWrong : ChangeSpec := { name := "fnPartDirectiveDef", fn := fun _ => fun
  | [d1, d2, d3] => { results := [.lit (.bool false)], args := [d1, d2, d3] }
  | _ => none }
def FnPartDirectiveDefWrongFalsely : Prop := fnPartDirectiveDefRow.holds Tryz.pinned (OpenSpec.ofChange fnPartDirectiveDefWrong)

/-- 'laws.FnPartEnum': WHATEVER THE INPUT: true; the input reads as it did. -/
def fnPartEnumSpec : ChangeSpec := { name := "fnPartEnum", fn := fun _ => fun
  | [d1, d2, d3] => { results := [.lit (.bool true)], args := [d1, d2, d3] }
  | _ => none }
def fnPartEnumRow : OpenClaim := { program := "ytkopcepfeeemhaagreatdoor", sum := "9ffb0d3b00e3cb16769d36e4f03c70bbc9783f7bac7c95875d64bc207223a923", func := "given.example/pub-antiphonal/laws.FnPartEnum", spec := "fnPartEnum", inPlace := ["internal/abi.NoEscape", "internal/bytealg.MakeNoZero"], unfollowed := true, recurses := true, named := ["unicode/utf8.first", "unicode/utf8.acceptRanges", "bytes.ErrTooLarge"], apart := false, laid := [("unicode/utf8.acceptRanges", laid_unicode_utf8_acceptRanges), ("bytes.ErrTooLarge", laid_bytes_ErrTooLarge), ("unicode/utf8.first", laid_unicode_utf8_first)] }
def FnPartEnumSaid : Prop := fnPartEnumRow.holds Tryz.pinned (OpenSpec.ofChange fnPartEnumSpec)

/-- ITS FALSE NEIGHBOUR: 'it returns false'. Refute it at one input. -/
def fnPartEnumWrong : ChangeSpec := { name := "fnPartEnum", fn := fun _ => fun
  | [d1, d2, d3] => { results := [.lit (.bool false)], args := [d1, d2, d3] }
  | _ => none }
def FnPartEnumWrongFalsely : Prop := fnPartEnumRow.holds Tryz.pinned (OpenSpec.ofChange fnPartEnumWrong)

/-- 'laws.FnPartExtend': WHATEVER THE INPUT: true; the input reads as it did. -/
def fnPartExtendSpec : ChangeSpec := { name := "fnPartExtend", fn := fun _ => fun
  | [d1, d2, d3] => { results := [.lit (.bool true)], args := [d1, d2, d3] }
  | _ => none }
def fnPartExtendRow : OpenClaim := { program := "ytkopcepfeeemhaagreatdoor", sum := "9ffb0d3b00e3cb16769d36e4f03c70bbc9783f7bac7c95875d64bc207223a923", func := "given.example/pub-antiphonal/laws.FnPartExtend", spec := "fnPartExtend", inPlace := ["internal/abi.NoEscape", "internal/bytealg.MakeNoZero"], unfollowed := true, recurses := true, named := ["unicode/utf8.first", "unicode/utf8.acceptRanges", "bytes.ErrTooLarge"], apart := false, laid := [("unicode/utf8.acceptRanges", laid_unicode_utf8_acceptRanges), ("bytes.ErrTooLarge", laid_bytes_ErrTooLarge), ("unicode/utf8.first", laid_unicode_utf8_first)] }
def FnPartExtendSaid : Prop := fnPartExtendRow.holds Tryz.pinned (OpenSpec.ofChange fnPartExtendSpec)

/-- ITS FALSE NEIGHBOUR: 'it returns false'. Refute it at one input. -/
def fnPartExtendWrong : ChangeSpec := { name := "fnPartExtend", fn := fun _ => fun
  | [d1, d2, d3] => { results := [.lit (.bool false)], args := [d1, d2, d3] }
  | _ => none }
def FnPartExtendWrongFalsely : Prop := fnPartExtendRow.holds Tryz.pinned (OpenSpec.ofChange fnPartExtendWrong)

/-- 'laws.FnPartField': WHATEVER THE INPUT: true; the input reads as it did. -/
def fnPartFieldSpec : ChangeSpec := { name := "fnPartField", fn := fun _ => fun
  | [d1, d2, d3] => { results := [.lit (.bool true)], args := [d1, d2, d3] }
  | _ => none }
def fnPartFieldRow : OpenClaim := { program := "ytkopcepfeeemhaagreatdoor", sum := "9ffb0d3b00e3cb16769d36e4f03c70bbc9783f7bac7c95875d64bc207223a923", func := "given.example/pub-antiphonal/laws.FnPartField", spec := "fnPartField", inPlace := ["internal/abi.NoEscape", "internal/bytealg.MakeNoZero"], unfollowed := true, recurses := true, named := ["unicode/utf8.first", "unicode/utf8.acceptRanges", "bytes.ErrTooLarge"], apart := false, laid := [("unicode/utf8.acceptRanges", laid_unicode_utf8_acceptRanges), ("bytes.ErrTooLarge", laid_bytes_ErrTooLarge), ("unicode/utf8.first", laid_unicode_utf8_first)] }
def FnPartFieldSaid : Prop := fnPartFieldRow.holds Tryz.pinned (OpenSpec.ofChange fnPartFieldSpec)

/-- ITS FALSE NEIGHBOUR: 'it returns false'. Refute it at one input. -/
def fnPartFieldWrong : ChangeSpec := { name := "fnPartField", fn := fun _ => fun
  | [d1, d2, d3] => { results := [.lit (.bool false)], args := [d1, d2, d3] }
  | _ => none }
def FnPartFieldWrongFalsely : Prop := fnPartFieldRow.holds Tryz.pinned (OpenSpec.ofChange fnPartFieldWrong)

/-- 'laws.FnPartFragment': WHATEVER THE INPUT: true; the input reads as it did. -/
def fnPartFragmentSpec : ChangeSpec := { name := "fnPartFragment", fn := fun _ => fun
  | [d1, d2, d3] => { results := [.lit (.bool true)], args := [d1, d2, d3] }
  | _ => none }
def fnPartFragmentRow : OpenClaim := { program := "ytkopcepfeeemhaagreatdoor", sum := "9ffb0d3b00e3cb16769d36e4f03c70bbc9783f7bac7c95875d64bc207223a923", func := "given.example/pub-antiphonal/laws.FnPartFragment", spec := "fnPartFragment", inPlace := ["internal/abi.NoEscape", "internal/bytealg.MakeNoZero"], unfollowed := true, recurses := true, named := ["unicode/utf8.first", "unicode/utf8.acceptRanges", "bytes.ErrTooLarge"], apart := false, laid := [("unicode/utf8.acceptRanges", laid_unicode_utf8_acceptRanges), ("bytes.ErrTooLarge", laid_bytes_ErrTooLarge), ("unicode/utf8.first", laid_unicode_utf8_first)] }
def FnPartFragmentSaid : Prop := fnPartFragmentRow.holds Tryz.pinned (OpenSpec.ofChange fnPartFragmentSpec)

/-- ITS FALSE NEIGHBOUR: 'it returns false'. Refute it at one input. -/
def fnPartFragmentWrong : ChangeSpec := { name := "fnPartFragment", fn := fun _ => fun
  | [d1, d2, d3] => { results := [.lit (.bool false)], args := [d1, d2, d3] }
  | _ => none }
def FnPartFragmentWrongFalsely : Prop := fnPartFragmentRow.holds Tryz.pinned (OpenSpec.ofChange fnPartFragmentWrong)

/-- 'laws.FnPartInline': WHATEVER THE INPUT: true; the input reads as it did. -/
def fnPartInlineSpec : ChangeSpec := { name := "fnPartInline", fn := fun _ => fun
  | [d1, d2, d3] => { results := [.lit (.bool true)], args := [d1, d2, d3] }
  | _ => none }
def fnPartInlineRow : OpenClaim := { program := "ytkopcepfeeemhaagreatdoor", sum := "9ffb0d3b00e3cb16769d36e4f03c70bbc9783f7bac7c95875d64bc207223a923", func := "given.example/pub-antiphonal/laws.FnPartInline", spec := "fnPartInline", inPlace := ["internal/abi.NoEscape", "internal/bytealg.MakeNoZero"], unfollowed := true, recurses := true, named := ["unicode/utf8.first", "unicode/utf8.acceptRanges", "bytes.ErrTooLarge"], apart := false, laid := [("unicode/utf8.acceptRanges", laid_unicode_utf8_acceptRanges), ("bytes.ErrTooLarge", laid_bytes_ErrTooLarge), ("unicode/utf8.first", laid_unicode_utf8_first)] }
def FnPartInlineSaid : Prop := fnPartInlineRow.holds Tryz.pinned (OpenSpec.ofChange fnPartInlineSpec)

/-- ITS FALSE NEIGHBOUR: 'it returns false'. Refute it at one input. -/
def fnPartInlineWrong : ChangeSpec := { name := "fnPartInline", fn := fun _ => fun
  | [d1, d2, d3] => { results := [.lit (.bool false)], args := [d1, d2, d3] }
  | _ => none }
def FnPartInlineWrongFalsely : Prop := fnPartInlineRow.holds Tryz.pinned (OpenSpec.ofChange fnPartInlineWrong)

/-- 'laws.FnPartInput': WHATEVER THE INPUT: true; the input reads as it did. -/
def fnPartInputSpec : ChangeSpec := { name := "fnPartInput", fn := fun _ => fun
  | [d1, d2, d3] => { results := [.lit (.bool true)], args := [d1, d2, d3] }
  | _ => none }
def fnPartInputRow : OpenClaim := { program := "ytkopcepfeeemhaagreatdoor", sum := "9ffb0d3b00e3cb16769d36e4f03c70bbc9783f7bac7c95875d64bc207223a923", func := "given.example/pub-antiphonal/laws.FnPartInput", spec := "fnPartInput", inPlace := ["internal/abi.NoEscape", "internal/bytealg.MakeNoZero"], unfollowed := true, recurses := true, named := ["unicode/utf8.first", "unicode/utf8.acceptRanges", "bytes.ErrTooLarge"], apart := false, laid := [("unicode/utf8.acceptRanges", laid_unicode_utf8_acceptRanges), ("bytes.ErrTooLarge", laid_bytes_ErrTooLarge), ("unicode/utf8.first", laid_unicode_utf8_first)] }
def FnPartInputSaid : Prop := fnPartInputRow.holds Tryz.pinned (OpenSpec.ofChange fnPartInputSpec)

/-- ITS FALSE NEIGHBOUR: 'it returns false'. Refute it at one input. -/
def fnPartInputWrong : ChangeSpec := { name := "fnPartInput", fn := fun _ => fun
  | [d1, d2, d3] => { results := [.lit (.bool false)], args := [d1, d2, d3] }
  | _ => none }
def FnPartInputWrongFalsely : Prop := fnPartInputRow.holds Tryz.pinned (OpenSpec.ofChange fnPartInputWrong)

/-- 'laws.FnPartInterface': WHATEVER THE INPUT: true; the input reads as it did. -/
def fnPartInterfaceSpec : ChangeSpec := { name := "fnPartInterface", fn := fun _ => fun
  | [d1, d2, d3] => { results := [.lit (.bool true)], args := [d1, d2, d3] }
  | _ => none }
def fnPartInterfaceRow : OpenClaim := { program := "ytkopcepfeeemhaagreatdoor", sum := "9ffb0d3b00e3cb16769d36e4f03c70bbc9783f7bac7c95875d64bc207223a923", func := "given.example/pub-antiphonal/laws.FnPartInterface", spec := "fnPartInterface", inPlace := ["internal/abi.NoEscape", "internal/bytealg.MakeNoZero"], unfollowed := true, recurses := true, named := ["unicode/utf8.first", "unicode/utf8.acceptRanges", "bytes.ErrTooLarge"], apart := false, laid := [("unicode/utf8.acceptRanges", laid_unicode_utf8_acceptRanges), ("bytes.ErrTooLarge", laid_bytes_ErrTooLarge), ("unicode/utf8.first", laid_unicode_utf8_first)] }
def FnPartInterfaceSaid : Prop := fnPartInterfaceRow.holds Tryz.pinned (OpenSpec.ofChange fnPartInterfaceSpec)

/-- ITS FALSE NEIGHBOUR: 'it returns false'. Refute it at one input. -/
def fnPartInterfaceWrong : ChangeSpec := { name := "fnPartInterface", fn := fun _ => fun
  | [d1, d2, d3] => { results := [.lit (.bool false)], args := [d1, d2, d3] }
  | _ => none }
def FnPartInterfaceWrongFalsely : Prop := fnPartInterfaceRow.holds Tryz.pinned (OpenSpec.ofChange fnPartInterfaceWrong)

/-- 'laws.FnPartObject': WHATEVER THE INPUT: true; the input reads as it did. -/
def fnPartObjectSpec : ChangeSpec := { name := "fnPartObject", fn := fun _ => fun
  | [d1, d2, d3] => { results := [.lit (.bool true)], args := [d1, d2, d3] }
  | _ => none }
def fnPartObjectRow : OpenClaim := { program := "ytkopcepfeeemhaagreatdoor", sum := "9ffb0d3b00e3cb16769d36e4f03c70bbc9783f7bac7c95875d64bc207223a923", func := "given.example/pub-antiphonal/laws.FnPartObject", spec := "fnPartObject", inPlace := ["internal/abi.NoEscape", "internal/bytealg.MakeNoZero"], unfollowed := true, recurses := true, named := ["unicode/utf8.first", "unicode/utf8.acceptRanges", "bytes.ErrTooLarge"], apart := false, laid := [("unicode/utf8.acceptRanges", laid_unicode_utf8_acceptRanges), ("bytes.ErrTooLarge", laid_bytes_ErrTooLarge), ("unicode/utf8.first", laid_unicode_utf8_first)] }
def FnPartObjectSaid : Prop := fnPartObjectRow.holds Tryz.pinned (OpenSpec.ofChange fnPartObjectSpec)

/-- ITS FALSE NEIGHBOUR: 'it returns false'. Refute it at one input. -/
def fnPartObjectWrong : ChangeSpec := { name := "fnPartObject", fn := fun _ => fun
  | [d1, d2, d3] => { results := [.lit (.bool false)], args := [d1, d2, d3] }
  | _ => none }
def FnPartObjectWrongFalsely : Prop := fnPartObjectRow.holds Tryz.pinned (OpenSpec.ofChange fnPartObjectWrong)

/-- 'laws.FnPartOperation': WHATEVER THE INPUT: true; the input reads as it did. -/
def fnPartOperationSpec : ChangeSpec := { name := "fnPartOperation", fn := fun _ => fun
  | [d1, d2, d3] => { results := [.lit (.bool true)], args := [d1, d2, d3] }
  | _ => none }
def fnPartOperationRow : OpenClaim := { program := "ytkopcepfeeemhaagreatdoor", sum := "9ffb0d3b00e3cb16769d36e4f03c70bbc9783f7bac7c95875d64bc207223a923", func := "given.example/pub-antiphonal/laws.FnPartOperation", spec := "fnPartOperation", inPlace := ["internal/abi.NoEscape", "internal/bytealg.MakeNoZero"], unfollowed := true, recurses := true, named := ["unicode/utf8.first", "unicode/utf8.acceptRanges", "bytes.ErrTooLarge"], apart := false, laid := [("unicode/utf8.acceptRanges", laid_unicode_utf8_acceptRanges), ("bytes.ErrTooLarge", laid_bytes_ErrTooLarge), ("unicode/utf8.first", laid_unicode_utf8_first)] }
def FnPartOperationSaid : Prop := fnPartOperationRow.holds Tryz.pinned (OpenSpec.ofChange fnPartOperationSpec)

/-- ITS FALSE NEIGHBOUR: 'it returns false'. Refute it at one input. -/
def fnPartOperationWrong : ChangeSpec := { name := "fnPartOperation", fn := fun _ => fun
  | [d1, d2, d3] => { results := [.lit (.bool false)], args := [d1, d2, d3] }
  | _ => none }
def FnPartOperationWrongFalsely : Prop := fnPartOperationRow.holds Tryz.pinned (OpenSpec.ofChange fnPartOperationWrong)

/-- 'laws.FnPartOther': WHATEVER THE INPUT: true; the input reads as it did. -/
def fnPartOtherSpec : ChangeSpec := { name := "fnPartOther", fn := fun _ => fun
  | [d1, d2, d3] => { results := [.lit (.bool true)], args := [d1, d2, d3] }
  | _ => none }
def fnPartOtherRow : OpenClaim := { program := "ytkopcepfeeemhaagreatdoor", sum := "9ffb0d3b00e3cb16769d36e4f03c70bbc9783f7bac7c95875d64bc207223a923", func := "given.example/pub-antiphonal/laws.FnPartOther", spec := "fnPartOther", inPlace := ["internal/abi.NoEscape", "internal/bytealg.MakeNoZero"], unfollowed := true, recurses := true, named := ["unicode/utf8.first", "unicode/utf8.acceptRanges", "bytes.ErrTooLarge"], apart := false, laid := [("unicode/utf8.acceptRanges", laid_unicode_utf8_acceptRanges), ("bytes.ErrTooLarge", laid_bytes_ErrTooLarge), ("unicode/utf8.first", laid_unicode_utf8_first)] }
def FnPartOtherSaid : Prop := fnPartOtherRow.holds Tryz.pinned (OpenSpec.ofChange fnPartOtherSpec)

/-- ITS FALSE NEIGHBOUR: 'it returns false'. Refute it at one input. -/
def fnPartOtherWrong : ChangeSpec := { name := "fnPartOther", fn := fun _ => fun
  | [d1, d2, d3] => { results := [.lit (.bool false)], args := [d1, d2, d3] }
  | _ => none }
def FnPartOtherWrongFalsely : Prop := fnPartOtherRow.holds Tryz.pinned (OpenSpec.ofChange fnPartOtherWrong)

/- THE SECOND FORM. 'bulk': how many values and letters a reading holds, each counted each time it is reached (what is shared counts as often as it is met; a slice's spare places count too). A statement '..UptoSaid' is the law's where the arguments, and the package variables that the reading takes, are together of bulk at most 1048576: NARROWER than '..Said'. Prove '..Said' where nothing that the law and all that it calls make is longer than what came in: it says more and counts as full. Else prove '..UptoSaid'. A law counts once. -/
mutual
def uptoBulk {H : Type} : DataW H → Nat
  | .lit (.string bytes) => bytes.length + 1
  | .lit _ => 1
  | .nil => 1
  | .ptr d => uptoBulk d + 1
  | .slice elems spare => uptoBulkAll elems + uptoBulkAll spare + 1
  | .agg parts => uptoBulkAll parts + 1
  | .iface _ d => uptoBulk d + 1
  | .map entries => uptoBulkEntries entries + 1
  | .held _ => 1
def uptoBulkAll {H : Type} : List (DataW H) → Nat
  | [] => 0
  | d :: r => uptoBulk d + uptoBulkAll r
def uptoBulkEntries {H : Type} : List (Lit × DataW H) → Nat
  | [] => 0
  | x :: r => uptoBulkEntry x + uptoBulkEntries r
def uptoBulkEntry {H : Type} : Lit × DataW H → Nat
  | (.string bytes, d) => bytes.length + uptoBulk d + 1
  | (_, d) => uptoBulk d + 1
 end
def uptoSmall : (H : Type) → List (DataW H) → Bool := fun _ ds => decide (uptoBulkAll ds ≤ 1048576)
def OpenSpec.upto (s : _root_.Go.ChangeSpec) : _root_.Go.OpenSpec := { _root_.Go.OpenSpec.ofChange s with cond := some uptoSmall }

/-- 'laws.FnPartArguments', WHERE WHAT IT READS IS OF BULK AT MOST 1048576: true; the input reads as it did. -/
def fnPartArgumentsUptoRow : OpenClaim := { program := "ytkopcepfeeemhaagreatdoor", sum := "9ffb0d3b00e3cb16769d36e4f03c70bbc9783f7bac7c95875d64bc207223a923", func := "given.example/pub-antiphonal/laws.FnPartArguments", spec := "fnPartArguments", inPlace := ["internal/abi.NoEscape", "internal/bytealg.MakeNoZero"], unfollowed := true, recurses := true, named := ["unicode/utf8.first", "unicode/utf8.acceptRanges", "bytes.ErrTooLarge"], apart := false, laid := [("unicode/utf8.acceptRanges", laid_unicode_utf8_acceptRanges), ("bytes.ErrTooLarge", laid_bytes_ErrTooLarge), ("unicode/utf8.first", laid_unicode_utf8_first)], narrowed := true }
def FnPartArgumentsUptoSaid : Prop := fnPartArgumentsUptoRow.holds Tryz.pinned (OpenSpec.upto fnPartArgumentsSpec)

/-- 'laws.FnPartDirectiveDef', WHERE WHAT IT READS IS OF BULK AT MOST 1048576: true; the input reads as it did. -/
def fnPartDirectiveDefUptoRow : OpenClaim := { program := "ytkopcepfeeemhaagreatdoor", sum := "9ffb0d3b00e3cb16769d36e4f03c70bbc9783f7bac7c95875d64bc207223a923", func := "given.example/pub-antiphonal/laws.FnPartDirectiveDef", spec := "fnPartDirectiveDef", inPlace := ["internal/abi.NoEscape", "internal/bytealg.MakeNoZero"], unfollowed := true, recurses := true, named := ["unicode/utf8.first", "unicode/utf8.acceptRanges", "bytes.ErrTooLarge"], apart := false, laid := [("unicode/utf8.acceptRanges", laid_unicode_utf8_acceptRanges), ("bytes.ErrTooLarge", laid_bytes_ErrTooLarge), ("unicode/utf8.first", laid_unicode_utf8_first)], narrowed := true }
def FnPartDirectiveDefUptoSaid : Prop := fnPartDirectiveDefUptoRow.holds Tryz.pinned (OpenSpec.upto fnPartDirectiveDefSpec)

/-- 'laws.FnPartEnum', WHERE WHAT IT READS IS OF BULK AT MOST 1048576: true; the input reads as it did. -/
def fnPartEnumUptoRow : OpenClaim := { program := "ytkopcepfeeemhaagreatdoor", sum := "9ffb0d3b00e3cb16769d36e4f03c70bbc9783f7bac7c95875d64bc207223a923", func := "given.example/pub-antiphonal/laws.FnPartEnum", spec := "fnPartEnum", inPlace := ["internal/abi.NoEscape", "internal/bytealg.MakeNoZero"], unfollowed := true, recurses := true, named := ["unicode/utf8.first", "unicode/utf8.acceptRanges", "bytes.ErrTooLarge"], apart := false, laid := [("unicode/utf8.acceptRanges", laid_unicode_utf8_acceptRanges), ("bytes.ErrTooLarge", laid_bytes_ErrTooLarge), ("unicode/utf8.first", laid_unicode_utf8_first)], narrowed := true }
def FnPartEnumUptoSaid : Prop := fnPartEnumUptoRow.holds Tryz.pinned (OpenSpec.upto fnPartEnumSpec)

/-- 'laws.FnPartExtend', WHERE WHAT IT READS IS OF BULK AT MOST 1048576: true; the input reads as it did. -/
def fnPartExtendUptoRow : OpenClaim := { program := "ytkopcepfeeemhaagreatdoor", sum := "9ffb0d3b00e3cb16769d36e4f03c70bbc9783f7bac7c95875d64bc207223a923", func := "given.example/pub-antiphonal/laws.FnPartExtend", spec := "fnPartExtend", inPlace := ["internal/abi.NoEscape", "internal/bytealg.MakeNoZero"], unfollowed := true, recurses := true, named := ["unicode/utf8.first", "unicode/utf8.acceptRanges", "bytes.ErrTooLarge"], apart := false, laid := [("unicode/utf8.acceptRanges", laid_unicode_utf8_acceptRanges), ("bytes.ErrTooLarge", laid_bytes_ErrTooLarge), ("unicode/utf8.first", laid_unicode_utf8_first)], narrowed := true }
def FnPartExtendUptoSaid : Prop := fnPartExtendUptoRow.holds Tryz.pinned (OpenSpec.upto fnPartExtendSpec)

/-- 'laws.FnPartField', WHERE WHAT IT READS IS OF BULK AT MOST 1048576: true; the input reads as it did. -/
def fnPartFieldUptoRow : OpenClaim := { program := "ytkopcepfeeemhaagreatdoor", sum := "9ffb0d3b00e3cb16769d36e4f03c70bbc9783f7bac7c95875d64bc207223a923", func := "given.example/pub-antiphonal/laws.FnPartField", spec := "fnPartField", inPlace := ["internal/abi.NoEscape", "internal/bytealg.MakeNoZero"], unfollowed := true, recurses := true, named := ["unicode/utf8.first", "unicode/utf8.acceptRanges", "bytes.ErrTooLarge"], apart := false, laid := [("unicode/utf8.acceptRanges", laid_unicode_utf8_acceptRanges), ("bytes.ErrTooLarge", laid_bytes_ErrTooLarge), ("unicode/utf8.first", laid_unicode_utf8_first)], narrowed := true }
def FnPartFieldUptoSaid : Prop := fnPartFieldUptoRow.holds Tryz.pinned (OpenSpec.upto fnPartFieldSpec)

/-- 'laws.FnPartFragment', WHERE WHAT IT READS IS OF BULK AT MOST 1048576: true; the input reads as it did. -/
def fnPartFragmentUptoRow : OpenClaim := { program := "ytkopcepfeeemhaagreatdoor", sum := "9ffb0d3b00e3cb16769d36e4f03c70bbc9783f7bac7c95875d64bc207223a923", func := "given.example/pub-antiphonal/laws.FnPartFragment", spec := "fnPartFragment", inPlace := ["internal/abi.NoEscape", "internal/bytealg.MakeNoZero"], unfollowed := true, recurses := true, named := ["unicode/utf8.first", "unicode/utf8.acceptRanges", "bytes.ErrTooLarge"], apart := false, laid := [("unicode/utf8.acceptRanges", laid_unicode_utf8_acceptRanges), ("bytes.ErrTooLarge", laid_bytes_ErrTooLarge), ("unicode/utf8.first", laid_unicode_utf8_first)], narrowed := true }
def FnPartFragmentUptoSaid : Prop := fnPartFragmentUptoRow.holds Tryz.pinned (OpenSpec.upto fnPartFragmentSpec)

/-- 'laws.FnPartInline', WHERE WHAT IT READS IS OF BULK AT MOST 1048576: true; the input reads as it did. -/
def fnPartInlineUptoRow : OpenClaim := { program := "ytkopcepfeeemhaagreatdoor", sum := "9ffb0d3b00e3cb16769d36e4f03c70bbc9783f7bac7c95875d64bc207223a923", func := "given.example/pub-antiphonal/laws.FnPartInline", spec := "fnPartInline", inPlace := ["internal/abi.NoEscape", "internal/bytealg.MakeNoZero"], unfollowed := true, recurses := true, named := ["unicode/utf8.first", "unicode/utf8.acceptRanges", "bytes.ErrTooLarge"], apart := false, laid := [("unicode/utf8.acceptRanges", laid_unicode_utf8_acceptRanges), ("bytes.ErrTooLarge", laid_bytes_ErrTooLarge), ("unicode/utf8.first", laid_unicode_utf8_first)], narrowed := true }
def FnPartInlineUptoSaid : Prop := fnPartInlineUptoRow.holds Tryz.pinned (OpenSpec.upto fnPartInlineSpec)

/-- 'laws.FnPartInput', WHERE WHAT IT READS IS OF BULK AT MOST 1048576: true; the input reads as it did. -/
def fnPartInputUptoRow : OpenClaim := { program := "ytkopcepfeeemhaagreatdoor", sum := "9ffb0d3b00e3cb16769d36e4f03c70bbc9783f7bac7c95875d64bc207223a923", func := "given.example/pub-antiphonal/laws.FnPartInput", spec := "fnPartInput", inPlace := ["internal/abi.NoEscape", "internal/bytealg.MakeNoZero"], unfollowed := true, recurses := true, named := ["unicode/utf8.first", "unicode/utf8.acceptRanges", "bytes.ErrTooLarge"], apart := false, laid := [("unicode/utf8.acceptRanges", laid_unicode_utf8_acceptRanges), ("bytes.ErrTooLarge", laid_bytes_ErrTooLarge), ("unicode/utf8.first", laid_unicode_utf8_first)], narrowed := true }
def FnPartInputUptoSaid : Prop := fnPartInputUptoRow.holds Tryz.pinned (OpenSpec.upto fnPartInputSpec)

/-- 'laws.FnPartInterface', WHERE WHAT IT READS IS OF BULK AT MOST 1048576: true; the input reads as it did. -/
def fnPartInterfaceUptoRow : OpenClaim := { program := "ytkopcepfeeemhaagreatdoor", sum := "9ffb0d3b00e3cb16769d36e4f03c70bbc9783f7bac7c95875d64bc207223a923", func := "given.example/pub-antiphonal/laws.FnPartInterface", spec := "fnPartInterface", inPlace := ["internal/abi.NoEscape", "internal/bytealg.MakeNoZero"], unfollowed := true, recurses := true, named := ["unicode/utf8.first", "unicode/utf8.acceptRanges", "bytes.ErrTooLarge"], apart := false, laid := [("unicode/utf8.acceptRanges", laid_unicode_utf8_acceptRanges), ("bytes.ErrTooLarge", laid_bytes_ErrTooLarge), ("unicode/utf8.first", laid_unicode_utf8_first)], narrowed := true }
def FnPartInterfaceUptoSaid : Prop := fnPartInterfaceUptoRow.holds Tryz.pinned (OpenSpec.upto fnPartInterfaceSpec)

/-- 'laws.FnPartObject', WHERE WHAT IT READS IS OF BULK AT MOST 1048576: true; the input reads as it did. -/
def fnPartObjectUptoRow : OpenClaim := { program := "ytkopcepfeeemhaagreatdoor", sum := "9ffb0d3b00e3cb16769d36e4f03c70bbc9783f7bac7c95875d64bc207223a923", func := "given.example/pub-antiphonal/laws.FnPartObject", spec := "fnPartObject", inPlace := ["internal/abi.NoEscape", "internal/bytealg.MakeNoZero"], unfollowed := true, recurses := true, named := ["unicode/utf8.first", "unicode/utf8.acceptRanges", "bytes.ErrTooLarge"], apart := false, laid := [("unicode/utf8.acceptRanges", laid_unicode_utf8_acceptRanges), ("bytes.ErrTooLarge", laid_bytes_ErrTooLarge), ("unicode/utf8.first", laid_unicode_utf8_first)], narrowed := true }
def FnPartObjectUptoSaid : Prop := fnPartObjectUptoRow.holds Tryz.pinned (OpenSpec.upto fnPartObjectSpec)

/-- 'laws.FnPartOperation', WHERE WHAT IT READS IS OF BULK AT MOST 1048576: true; the input reads as it did. -/
def fnPartOperationUptoRow : OpenClaim := { program := "ytkopcepfeeemhaagreatdoor", sum := "9ffb0d3b00e3cb16769d36e4f03c70bbc9783f7bac7c95875d64bc207223a923", func := "given.example/pub-antiphonal/laws.FnPartOperation", spec := "fnPartOperation", inPlace := ["internal/abi.NoEscape", "internal/bytealg.MakeNoZero"], unfollowed := true, recurses := true, named := ["unicode/utf8.first", "unicode/utf8.acceptRanges", "bytes.ErrTooLarge"], apart := false, laid := [("unicode/utf8.acceptRanges", laid_unicode_utf8_acceptRanges), ("bytes.ErrTooLarge", laid_bytes_ErrTooLarge), ("unicode/utf8.first", laid_unicode_utf8_first)], narrowed := true }
def FnPartOperationUptoSaid : Prop := fnPartOperationUptoRow.holds Tryz.pinned (OpenSpec.upto fnPartOperationSpec)

/-- 'laws.FnPartOther', WHERE WHAT IT READS IS OF BULK AT MOST 1048576: true; the input reads as it did. -/
def fnPartOtherUptoRow : OpenClaim := { program := "ytkopcepfeeemhaagreatdoor", sum := "9ffb0d3b00e3cb16769d36e4f03c70bbc9783f7bac7c95875d64bc207223a923", func := "given.example/pub-antiphonal/laws.FnPartOther", spec := "fnPartOther", inPlace := ["internal/abi.NoEscape", "internal/bytealg.MakeNoZero"], unfollowed := true, recurses := true, named := ["unicode/utf8.first", "unicode/utf8.acceptRanges", "bytes.ErrTooLarge"], apart := false, laid := [("unicode/utf8.acceptRanges", laid_unicode_utf8_acceptRanges), ("bytes.ErrTooLarge", laid_bytes_ErrTooLarge), ("unicode/utf8.first", laid_unicode_utf8_first)], narrowed := true }
def FnPartOtherUptoSaid : Prop := fnPartOtherUptoRow.holds Tryz.pinned (OpenSpec.upto fnPartOtherSpec)

end Rows
end Go.Proofs.YtkopcepfeeemhaaGreatDoor
