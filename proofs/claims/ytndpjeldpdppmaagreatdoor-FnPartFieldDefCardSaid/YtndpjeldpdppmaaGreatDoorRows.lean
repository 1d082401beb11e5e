/-
  NARROWER THAN 'FOR EVERY INPUT', by the rows' own cells (each row's printed sentence says how): FnPartArgument: laid · FnPartDescription: laid · FnPartDirective: laid · FnPartEnumValue: laid · FnPartFieldDef: laid · FnPartInputDef: laid · FnPartOperationType: laid · FnPartScalar: laid · FnPartSchema: laid · FnPartSpread: laid · FnPartUnion: laid · FnPartVariable: laid.
  DERIVED. THE GIVEN ROWS OF THIS SEAT. 12 by the template 'for every input the law returns true; each argument reads behind the call as it read before'; 0 by the template 'total and deterministic' (their statements: YtndpjeldpdppmaaGreatDoorTotals.lean).
  GIVEN WITH THE SEED: the statements are not yours to turn. If you find one false, say at which input.
  Laid BY PROGRAM, IN A SANDBOX (cutbox-rows.mjs): the forced cells as the released guide's own fill.sh prints them over the translation 1610fadeb1823485… (all of the seat's roots in one cut). By AI agents, Wed Nov 11 2026. No macro, syntax, notation, axiom, sorry.
-/
import Derived.Test.YtndpjeldpdppmaaGreatDoorChecked
import GoSem.PinnedTables
import GoSem.Claim
import GoSem.ClaimJoined
import GoSem.ClaimMapViews
import Derived.JoinedTies
import Derived.KernelRfl
namespace Go.Proofs.YtndpjeldpdppmaaGreatDoor
/- THE CELL 'sum', in the pinned program and in every row, IS THE sha256 OF THE DUMP (.gsa) THAT YtndpjeldpdppmaaGreatDoorProg.lean LOADS. Nothing in Lean hashes anything: it is a label: what it is worth is what the hold of that sum in a sandbox is worth. -/
noncomputable def Tryz.pinned : Pinned := { name := "ytndpjeldpdppmaagreatdoor", sum := "1610fadeb1823485559eeb32cd4bee9e2e69a971af813fd33de88f17f73706d3", checked := Tryz.checked }
namespace Rows
def none {H : Type} : Left H := { results := [], args := [] }

/- WHAT THE LISTED PACKAGE-LEVEL VARIABLES READ AS WHEN THE CALL BEGINS. Each datum BY PROGRAM (the guide's laid-datum.mjs) off the statement by which the dump's own 'gosem.cut.vars' lays the variable. In a bare row this is a premise. The card (YtndpjeldpdppmaaGreatDoorCards.lean) ties it to the program's text. -/
def laid_unicode_utf8_acceptRanges {H : Type} : DataW H := .agg [.agg [.lit (.int .u8 128), .lit (.int .u8 191)], .agg [.lit (.int .u8 160), .lit (.int .u8 191)], .agg [.lit (.int .u8 128), .lit (.int .u8 159)], .agg [.lit (.int .u8 144), .lit (.int .u8 191)], .agg [.lit (.int .u8 128), .lit (.int .u8 143)], .agg [.lit (.int .u8 0), .lit (.int .u8 0)], .agg [.lit (.int .u8 0), .lit (.int .u8 0)], .agg [.lit (.int .u8 0), .lit (.int .u8 0)], .agg [.lit (.int .u8 0), .lit (.int .u8 0)], .agg [.lit (.int .u8 0), .lit (.int .u8 0)], .agg [.lit (.int .u8 0), .lit (.int .u8 0)], .agg [.lit (.int .u8 0), .lit (.int .u8 0)], .agg [.lit (.int .u8 0), .lit (.int .u8 0)], .agg [.lit (.int .u8 0), .lit (.int .u8 0)], .agg [.lit (.int .u8 0), .lit (.int .u8 0)], .agg [.lit (.int .u8 0), .lit (.int .u8 0)]]
def laid_bytes_ErrTooLarge {H : Type} : DataW H := .iface "*errors.errorString" (.ptr (.agg [.lit (.string [98, 121, 116, 101, 115, 46, 66, 117, 102, 102, 101, 114, 58, 32, 116, 111, 111, 32, 108, 97, 114, 103, 101])]))
/-- One of Go's own tables, pinned by name: the form's constant. -/
def laid_unicode_utf8_first : DataW Unit := Go.Pinned.utf8First

/-- 'laws.FnPartArgument': WHATEVER THE INPUT: true; the input reads as it did. -/
def fnPartArgumentSpec : ChangeSpec := { name := "fnPartArgument", fn := fun _ => fun
  | [d1, d2, d3] => { results := [.lit (.bool true)], args := [d1, d2, d3] }
  | _ => none }
def fnPartArgumentRow : OpenClaim := { program := "ytndpjeldpdppmaagreatdoor", sum := "1610fadeb1823485559eeb32cd4bee9e2e69a971af813fd33de88f17f73706d3", func := "given.example/pub-antiphonal/laws.FnPartArgument", spec := "fnPartArgument", inPlace := ["internal/abi.NoEscape", "internal/bytealg.MakeNoZero"], unfollowed := true, recurses := true, named := ["unicode/utf8.first", "unicode/utf8.acceptRanges", "bytes.ErrTooLarge"], apart := false, laid := [("unicode/utf8.acceptRanges", laid_unicode_utf8_acceptRanges), ("bytes.ErrTooLarge", laid_bytes_ErrTooLarge), ("unicode/utf8.first", laid_unicode_utf8_first)] }
def FnPartArgumentSaid : Prop := fnPartArgumentRow.holds Tryz.pinned (OpenSpec.ofChange fnPartArgumentSpec)

/-- ITS FALSE NEIGHBOUR: 'it returns false'. Refute it at one input. -/
def fnPartArgumentWrong : ChangeSpec := { name := "fnPartArgument", fn := fun _ => fun
  | [d1, d2, d3] => { results := [.lit (.bool false)], args := [d1, d2, d3] }
  | _ => none }
def FnPartArgumentWrongFalsely : Prop := fnPartArgumentRow.holds Tryz.pinned (OpenSpec.ofChange fnPartArgumentWrong)

/-- 'laws.FnPartDescription': WHATEVER THE INPUT: true; the input reads as it did. -/
def fnPartDescriptionSpec : ChangeSpec := { name := "fnPartDescription", fn := fun _ => fun
  | [d1, d2, d3] => { results := [.lit (.bool true)], args := [d1, d2, d3] }
  | _ => none }
def fnPartDescriptionRow : OpenClaim := { program := "ytndpjeldpdppmaagreatdoor", sum := "1610fadeb1823485559eeb32cd4bee9e2e69a971af813fd33de88f17f73706d3", func := "given.example/pub-antiphonal/laws.FnPartDescription", spec := "fnPartDescription", inPlace := ["internal/abi.NoEscape", "internal/bytealg.MakeNoZero"], unfollowed := true, recurses := true, named := ["unicode/utf8.first", "unicode/utf8.acceptRanges", "bytes.ErrTooLarge"], apart := false, laid := [("unicode/utf8.acceptRanges", laid_unicode_utf8_acceptRanges), ("bytes.ErrTooLarge", laid_bytes_ErrTooLarge), ("unicode/utf8.first", laid_unicode_utf8_first)] }
def FnPartDescriptionSaid : Prop := fnPartDescriptionRow.holds Tryz.pinned (OpenSpec.ofChange fnPartDescriptionSpec)

/-- ITS FALSE NEIGHBOUR: 'it returns false'. Refute it at one input. -/
def fnPartDescriptionWrong : ChangeSpec := { name := "fnPartDescription", fn := fun _ => fun
  | [d1, d2, d3] => { results := [.lit (.bool false)], args := [d1, d2, d3] }
  | _ => none }
def FnPartDescriptionWrongFalsely : Prop := fnPartDescriptionRow.holds Tryz.pinned (OpenSpec.ofChange fnPartDescriptionWrong)

/-- 'laws.FnPartDirective': WHATEVER THE INPUT: true; the input reads as it did. -/
def fnPartDirectiveSpec : ChangeSpec := { name := "fnPartDirective", fn := fun _ => fun
  | [d1, d2, d3] => { results := [.lit (.bool true)], args := [d1, d2, d3] }
  | _ => none }
def fnPartDirectiveRow : OpenClaim := { program := "ytndpjeldpdppmaagreatdoor", sum := "1610fadeb1823485559eeb32cd4bee9e2e69a971af813fd33de88f17f73706d3", func := "given.example/pub-antiphonal/laws.FnPartDirective", spec := "fnPartDirective", inPlace := ["internal/abi.NoEscape", "internal/bytealg.MakeNoZero"], unfollowed := true, recurses := true, named := ["unicode/utf8.first", "unicode/utf8.acceptRanges", "bytes.ErrTooLarge"], apart := false, laid := [("unicode/utf8.acceptRanges", laid_unicode_utf8_acceptRanges), ("bytes.ErrTooLarge", laid_bytes_ErrTooLarge), ("unicode/utf8.first", laid_unicode_utf8_first)] }
def FnPartDirectiveSaid : Prop := fnPartDirectiveRow.holds Tryz.pinned (OpenSpec.ofChange fnPartDirectiveSpec)

/-- ITS FALSE NEIGHBOUR: 'it returns false'. Refute it at one input. -/
def fnPartDirectiveWrong : ChangeSpec := { name := "fnPartDirective", fn := fun _ => fun
  | [d1, d2, d3] => { results := [.lit (.bool false)], args := [d1, d2, d3] }
  | _ => none }
def FnPartDirectiveWrongFalsely : Prop := fnPartDirectiveRow.holds Tryz.pinned (OpenSpec.ofChange fnPartDirectiveWrong)

/-- 'laws.FnPartEnumValue': WHATEVER THE INPUT: true; the input reads as it did. -/
def fnPartEnumValueSpec : ChangeSpec := { name := "fnPartEnumValue", fn := fun _ => fun
  | [d1, d2, d3] => { results := [.lit (.bool true)], args := [d1, d2, d3] }
  | _ => none }
def fnPartEnumValueRow : OpenClaim := { program := "ytndpjeldpdppmaagreatdoor", sum := "1610fadeb1823485559eeb32cd4bee9e2e69a971af813fd33de88f17f73706d3", func := "given.example/pub-antiphonal/laws.FnPartEnumValue", spec := "fnPartEnumValue", inPlace := ["internal/abi.NoEscape", "internal/bytealg.MakeNoZero"], unfollowed := true, recurses := true, named := ["unicode/utf8.first", "unicode/utf8.acceptRanges", "bytes.ErrTooLarge"], apart := false, laid := [("unicode/utf8.acceptRanges", laid_unicode_utf8_acceptRanges), ("bytes.ErrTooLarge", laid_bytes_ErrTooLarge), ("unicode/utf8.first", laid_unicode_utf8_first)] }
def FnPartEnumValueSaid : Prop := fnPartEnumValueRow.holds Tryz.pinned (OpenSpec.ofChange fnPartEnumValueSpec)

/-- ITS FALSE NEIGHBOUR: 'it returns false'. Refute it at one input. -/
def fnPartEnumValueWrong : ChangeSpec := { name := "fnPartEnumValue", fn := fun _ => fun
  | [d1, d2, d3] => { results := [.lit (.bool false)], args := [d1, d2, d3] }
  | _ => none }
def FnPartEnumValueWrongFalsely : Prop := fnPartEnumValueRow.holds Tryz.pinned (OpenSpec.ofChange fnPartEnumValueWrong)

/-- 'laws.FnPartFieldDef': WHATEVER THE INPUT: true; the input reads as it did. -/
def fnPartFieldDefSpec : ChangeSpec := { name := "fnPartFieldDef", fn := fun _ => fun
  | [d1, d2, d3] => { results := [.lit (.bool true)], args := [d1, d2, d3] }
  | _ => none }
def fnPartFieldDefRow : OpenClaim := { program := "ytndpjeldpdppmaagreatdoor", sum := "1610fadeb1823485559eeb32cd4bee9e2e69a971af813fd33de88f17f73706d3", func := "given.example/pub-antiphonal/laws.FnPartFieldDef", spec := "fnPartFieldDef", inPlace := ["internal/abi.NoEscape", "internal/bytealg.MakeNoZero"], unfollowed := true, recurses := true, named := ["unicode/utf8.first", "unicode/utf8.acceptRanges", "bytes.ErrTooLarge"], apart := false, laid := [("unicode/utf8.acceptRanges", laid_unicode_utf8_acceptRanges), ("bytes.ErrTooLarge", laid_bytes_ErrTooLarge), ("unicode/utf8.first", laid_unicode_utf8_first)] }
def FnPartFieldDefSaid : Prop := fnPartFieldDefRow.holds Tryz.pinned (OpenSpec.ofChange fnPartFieldDefSpec)

/-- ITS FALSE NEIGHBOUR: 'it returns false'. Refute it at one input. -/
def fnPartFieldDefWrong : ChangeSpec := { name := "fnPartFieldDef", fn := fun _ => fun
  | [d1, d2, d3] => { results := [.lit (.bool false)], args := [d1, d2, d3] }
  | _ => none }
def FnPartFieldDefWrongFalsely : Prop := fnPartFieldDefRow.holds Tryz.pinned (OpenSpec.ofChange fnPartFieldDefWrong)

/-- 'laws.FnPartInputDef': WHATEVER THE INPUT: true; the input reads as it did. -/
def fnPartInputDefSpec : ChangeSpec := { name := "fnPartInputDef", fn := fun _ => fun
  | [d1, d2, d3] => { results := [.lit (.bool true)], args := [d1, d2, d3] }
  | _ => none }
def fnPartInputDefRow : OpenClaim := { program := "ytndpjeldpdppmaagreatdoor", sum := "1610fadeb1823485559eeb32cd4bee9e2e69a971af813fd33de88f17f73706d3", func := "given.example/pub-antiphonal/laws.FnPartInputDef", spec := "fnPartInputDef", inPlace := ["internal/abi.NoEscape", "internal/bytealg.MakeNoZero"], unfollowed := true, recurses := true, named := ["unicode/utf8.first", "unicode/utf8.acceptRanges", "bytes.ErrTooLarge"], apart := false, laid := [("unicode/utf8.acceptRanges", laid_unicode_utf8_acceptRanges), ("bytes.ErrTooLarge", laid_bytes_ErrTooLarge), ("unicode/utf8.first", laid_unicode_utf8_first)] }
def FnPartInputDefSaid : Prop := fnPartInputDefRow.holds Tryz.pinned (OpenSpec.ofChange fnPartInputDefSpec)

/-- ITS FALSE NEIGHBOUR: 'it returns false'. Refute it at one input. -/
def fnPartInputDefWrong : ChangeSpec := { name := "fnPartInputDef", fn := fun _ => fun
  | [d1, d2, d3] => { results := [.lit (.bool false)], args := [d1, d2, d3] }
  | _ => none }
def FnPartInputDefWrongFalsely : Prop := fnPartInputDefRow.holds Tryz.pinned (OpenSpec.ofChange fnPartInputDefWrong)

/-- 'laws.FnPartOperationType': WHATEVER THE INPUT: true; the input reads as it did. -/
def fnPartOperationTypeSpec : ChangeSpec := { name := "fnPartOperationType", fn := fun _ => fun
  | [d1, d2, d3] => { results := [.lit (.bool true)], args := [d1, d2, d3] }
  | _ => none }
def fnPartOperationTypeRow : OpenClaim := { program := "ytndpjeldpdppmaagreatdoor", sum := "1610fadeb1823485559eeb32cd4bee9e2e69a971af813fd33de88f17f73706d3", func := "given.example/pub-antiphonal/laws.FnPartOperationType", spec := "fnPartOperationType", inPlace := ["internal/abi.NoEscape", "internal/bytealg.MakeNoZero"], unfollowed := true, recurses := true, named := ["unicode/utf8.first", "unicode/utf8.acceptRanges", "bytes.ErrTooLarge"], apart := false, laid := [("unicode/utf8.acceptRanges", laid_unicode_utf8_acceptRanges), ("bytes.ErrTooLarge", laid_bytes_ErrTooLarge), ("unicode/utf8.first", laid_unicode_utf8_first)] }
def FnPartOperationTypeSaid : Prop := fnPartOperationTypeRow.holds Tryz.pinned (OpenSpec.ofChange fnPartOperationTypeSpec)

/-- ITS FALSE NEIGHBOUR: 'it returns false'. Refute it at one input. -/
def fnPartOperationTypeWrong : ChangeSpec := { name := "fnPartOperationType", fn := fun _ => fun
  | [d1, d2, d3] => { results := [.lit (.bool false)], args := [d1, d2, d3] }
  | _ => none }
def FnPartOperationTypeWrongFalsely : Prop := fnPartOperationTypeRow.holds Tryz.pinned (OpenSpec.ofChange fnPartOperationTypeWrong)

/-- 'laws.FnPartScalar': WHATEVER THE INPUT: true; the input reads as it did. -/
def fnPartScalarSpec : ChangeSpec := { name := "fnPartScalar", fn := fun _ => fun
  | [d1, d2, d3] => { results := [.lit (.bool true)], args := [d1, d2, d3] }
  | _ => none }
def fnPartScalarRow : OpenClaim := { program := "ytndpjeldpdppmaagreatdoor", sum := "1610fadeb1823485559eeb32cd4bee9e2e69a971af813fd33de88f17f73706d3", func := "given.example/pub-antiphonal/laws.FnPartScalar", spec := "fnPartScalar", inPlace := ["internal/abi.NoEscape", "internal/bytealg.MakeNoZero"], unfollowed := true, recurses := true, named := ["unicode/utf8.first", "unicode/utf8.acceptRanges", "bytes.ErrTooLarge"], apart := false, laid := [("unicode/utf8.acceptRanges", laid_unicode_utf8_acceptRanges), ("bytes.ErrTooLarge", laid_bytes_ErrTooLarge), ("unicode/utf8.first", laid_unicode_utf8_first)] }
def FnPartScalarSaid : Prop := fnPartScalarRow.holds Tryz.pinned (OpenSpec.ofChange fnPartScalarSpec)

/-- ITS FALSE NEIGHBOUR: 'it returns false'. Refute it at one input. -/
def fnPartScalarWrong : ChangeSpec := { name := "fnPartScalar", fn := fun _ => fun
  | [d1, d2, d3] => { results := [.lit (.bool false)], args := [d1, d2, d3] }
  | _ => none }
def FnPartScalarWrongFalsely : Prop := fnPartScalarRow.holds Tryz.pinned (OpenSpec.ofChange fnPartScalarWrong)

/-- 'laws.FnPartSchema': WHATEVER THE INPUT: true; the input reads as it did. -/
def fnPartSchemaSpec : ChangeSpec := { name := "fnPartSchema", fn := fun _ => fun
  | [d1, d2, d3] => { results := [.lit (.bool true)], args := [d1, d2, d3] }
  | _ => none }
def fnPartSchemaRow : OpenClaim := { program := "ytndpjeldpdppmaagreatdoor", sum := "1610fadeb1823485559eeb32cd4bee9e2e69a971af813fd33de88f17f73706d3", func := "given.example/pub-antiphonal/laws.FnPartSchema", spec := "fnPartSchema", inPlace := ["internal/abi.NoEscape", "internal/bytealg.MakeNoZero"], unfollowed := true, recurses := true, named := ["unicode/utf8.first", "unicode/utf8.acceptRanges", "bytes.ErrTooLarge"], apart := false, laid := [("unicode/utf8.acceptRanges", laid_unicode_utf8_acceptRanges), ("bytes.ErrTooLarge", laid_bytes_ErrTooLarge), ("unicode/utf8.first", laid_unicode_utf8_first)] }
def FnPartSchemaSaid : Prop := fnPartSchemaRow.holds Tryz.pinned (OpenSpec.ofChange fnPartSchemaSpec)

/-- ITS FALSE NEIGHBOUR: 'it returns false'. Refute it at one input. -/
def fnPartSchemaWrong : ChangeSpec := { name := "fnPartSchema", fn := fun _ => fun
  | [d1, d2, d3] => { results := [.lit (.bool false)], args := [d1, d2, d3] }
  | _ => none }
def FnPartSchemaWrongFalsely : Prop := fnPartSchemaRow.holds Tryz.pinned (OpenSpec.ofChange fnPartSchemaWrong)

/-- 'laws.FnPartSpread': WHATEVER THE INPUT: true; the input reads as it did. -/
def fnPartSpreadSpec : ChangeSpec := { name := "fnPartSpread", fn := fun _ => fun
  | [d1, d2, d3] => { results := [.lit (.bool true)], args := [d1, d2, d3] }
  | _ => none }
def fnPartSpreadRow : OpenClaim := { program := "ytndpjeldpdppmaagreatdoor", sum := "1610fadeb1823485559eeb32cd4bee9e2e69a971af813fd33de88f17f73706d3", func := "given.example/pub-antiphonal/laws.FnPartSpread", spec := "fnPartSpread", inPlace := ["internal/abi.NoEscape", "internal/bytealg.MakeNoZero"], unfollowed := true, recurses := true, named := ["unicode/utf8.first", "unicode/utf8.acceptRanges", "bytes.ErrTooLarge"], apart := false, laid := [("unicode/utf8.acceptRanges", laid_unicode_utf8_acceptRanges), ("bytes.ErrTooLarge", laid_bytes_ErrTooLarge), ("unicode/utf8.first", laid_unicode_utf8_first)] }
def FnPartSpreadSaid : Prop := fnPartSpreadRow.holds Tryz.pinned (OpenSpec.ofChange fnPartSpreadSpec)

/-- ITS FALSE NEIGHBOUR: 'it returns false'. Refute it at one input. -/
def fnPartSpreadWrong : ChangeSpec := { name := "fnPartSpread", fn := fun _ => fun
  | [d1, d2, d3] => { results := [.lit (.bool false)], args := [d1, d2, d3] }
  | _ => none }
def FnPartSpreadWrongFalsely : Prop := fnPartSpreadRow.holds Tryz.pinned (OpenSpec.ofChange fnPartSpreadWrong)

/-- 'laws.FnPartUnion': WHATEVER THE INPUT: true; the input reads as it did. -/
def fnPartUnionSpec : ChangeSpec := { name := "fnPartUnion", fn := fun _ => fun
  | [d1, d2, d3] => { results := [.lit (.bool true)], args := [d1, d2, d3] }
  | _ => none }
def fnPartUnionRow : OpenClaim := { program := "ytndpjeldpdppmaagreatdoor", sum := "1610fadeb1823485559eeb32cd4bee9e2e69a971af813fd33de88f17f73706d3", func := "given.example/pub-antiphonal/laws.FnPartUnion", spec := "fnPartUnion", inPlace := ["internal/abi.NoEscape", "internal/bytealg.MakeNoZero"], unfollowed := true, recurses := true, named := ["unicode/utf8.first", "unicode/utf8.acceptRanges", "bytes.ErrTooLarge"], apart := false, laid := [("unicode/utf8.acceptRanges", laid_unicode_utf8_acceptRanges), ("bytes.ErrTooLarge", laid_bytes_ErrTooLarge), ("unicode/utf8.first", laid_unicode_utf8_first)] }
def FnPartUnionSaid : Prop := fnPartUnionRow.holds Tryz.pinned (OpenSpec.ofChange fnPartUnionSpec)

/-- ITS FALSE NEIGHBOUR: 'it returns false'. Refute it at one input. -/
def fnPartUnionWrong : ChangeSpec := { name := "fnPartUnion", fn := fun _ => fun
  | [d1, d2, d3] => { results := [.lit (.bool false)], args := [d1, d2, d3] }
  | _ => none }
def FnPartUnionWrongFalsely : Prop := fnPartUnionRow.holds Tryz.pinned (OpenSpec.ofChange fnPartUnionWrong)

/-- 'laws.FnPartVariable': WHATEVER THE INPUT: true; the input reads as it did. -/
def fnPartVariableSpec : ChangeSpec := { name := "fnPartVariable", fn := fun _ => fun
  | [d1, d2, d3] => { results := [.lit (.bool true)], args := [d1, d2, d3] }
  | _ => none }
def fnPartVariableRow : OpenClaim := { program := "ytndpjeldpdppmaagreatdoor", sum := "1610fadeb1823485559eeb32cd4bee9e2e69a971af813fd33de88f17f73706d3", func := "given.example/pub-antiphonal/laws.FnPartVariable", spec := "fnPartVariable", inPlace := ["internal/abi.NoEscape", "internal/bytealg.MakeNoZero"], unfollowed := true, recurses := true, named := ["unicode/utf8.first", "unicode/utf8.acceptRanges", "bytes.ErrTooLarge"], apart := false, laid := [("unicode/utf8.acceptRanges", laid_unicode_utf8_acceptRanges), ("bytes.ErrTooLarge", laid_bytes_ErrTooLarge), ("unicode/utf8.first", laid_unicode_utf8_first)] }
def FnPartVariableSaid : Prop := fnPartVariableRow.holds Tryz.pinned (OpenSpec.ofChange fnPartVariableSpec)

/-- ITS FALSE NEIGHBOUR: 'it returns false'. Refute it at one input. -/
def fnPartVariableWrong : ChangeSpec := { name := "fnPartVariable", fn := fun _ => fun
  | [d1, d2, d3] => { results := [.lit (.bool false)], args := [d1, d2, d3] }
  | _ => none }
def FnPartVariableWrongFalsely : Prop := fnPartVariableRow.holds Tryz.pinned (OpenSpec.ofChange fnPartVariableWrong)

/- THE SECOND FORM. 'bulk': how many values and letters a reading holds, each counted each time it is reached (what is shared counts as often as it is met; a slice's spare places count too). A statement '..UptoSaid' is the law's where the arguments, and the package variables that the reading takes, are together of bulk at most 1048576: NARROWER than '..Said'. Prove '..Said' where nothing that the law and all that it calls make is longer than what came in: it says more and counts as full. Else prove '..UptoSaid'. A law counts once. -/
mutual
def uptoBulk {H : Type} : DataW H → Nat
  | .lit (.string bytes) => bytes.length + 1
  | .lit _ => 1
  | .nil => 1
  | .ptr d => uptoBulk d + 1
  | .slice elems spare => uptoBulkAll elems + uptoBulkAll spare + 1
  | .agg parts => uptoBulkAll parts + 1
  | .iface _ d => uptoBulk d + 1
  | .map entries => uptoBulkEntries entries + 1
  | .held _ => 1
def uptoBulkAll {H : Type} : List (DataW H) → Nat
  | [] => 0
  | d :: r => uptoBulk d + uptoBulkAll r
def uptoBulkEntries {H : Type} : List (Lit × DataW H) → Nat
  | [] => 0
  | x :: r => uptoBulkEntry x + uptoBulkEntries r
def uptoBulkEntry {H : Type} : Lit × DataW H → Nat
  | (.string bytes, d) => bytes.length + uptoBulk d + 1
  | (_, d) => uptoBulk d + 1
 end
def uptoSmall : (H : Type) → List (DataW H) → Bool := fun _ ds => decide (uptoBulkAll ds ≤ 1048576)
def OpenSpec.upto (s : _root_.Go.ChangeSpec) : _root_.Go.OpenSpec := { _root_.Go.OpenSpec.ofChange s with cond := some uptoSmall }

/-- 'laws.FnPartArgument', WHERE WHAT IT READS IS OF BULK AT MOST 1048576: true; the input reads as it did. -/
def fnPartArgumentUptoRow : OpenClaim := { program := "ytndpjeldpdppmaagreatdoor", sum := "1610fadeb1823485559eeb32cd4bee9e2e69a971af813fd33de88f17f73706d3", func := "given.example/pub-antiphonal/laws.FnPartArgument", spec := "fnPartArgument", inPlace := ["internal/abi.NoEscape", "internal/bytealg.MakeNoZero"], unfollowed := true, recurses := true, named := ["unicode/utf8.first", "unicode/utf8.acceptRanges", "bytes.ErrTooLarge"], apart := false, laid := [("unicode/utf8.acceptRanges", laid_unicode_utf8_acceptRanges), ("bytes.ErrTooLarge", laid_bytes_ErrTooLarge), ("unicode/utf8.first", laid_unicode_utf8_first)], narrowed := true }
def FnPartArgumentUptoSaid : Prop := fnPartArgumentUptoRow.holds Tryz.pinned (OpenSpec.upto fnPartArgumentSpec)

/-- 'laws.FnPartDescription', WHERE WHAT IT READS IS OF BULK AT MOST 1048576: true; the input reads as it did. -/
def fnPartDescriptionUptoRow : OpenClaim := { program := "ytndpjeldpdppmaagreatdoor", sum := "1610fadeb1823485559eeb32cd4bee9e2e69a971af813fd33de88f17f73706d3", func := "given.example/pub-antiphonal/laws.FnPartDescription", spec := "fnPartDescription", inPlace := ["internal/abi.NoEscape", "internal/bytealg.MakeNoZero"], unfollowed := true, recurses := true, named := ["unicode/utf8.first", "unicode/utf8.acceptRanges", "bytes.ErrTooLarge"], apart := false, laid := [("unicode/utf8.acceptRanges", laid_unicode_utf8_acceptRanges), ("bytes.ErrTooLarge", laid_bytes_ErrTooLarge), ("unicode/utf8.first", laid_unicode_utf8_first)], narrowed := true }
def FnPartDescriptionUptoSaid : Prop := fnPartDescriptionUptoRow.holds Tryz.pinned (OpenSpec.upto fnPartDescriptionSpec)

/-- 'laws.FnPartDirective', WHERE WHAT IT READS IS OF BULK AT MOST 1048576: true; the input reads as it did. -/
def fnPartDirectiveUptoRow : OpenClaim := { program := "ytndpjeldpdppmaagreatdoor", sum := "1610fadeb1823485559eeb32cd4bee9e2e69a971af813fd33de88f17f73706d3", func := "given.example/pub-antiphonal/laws.FnPartDirective", spec := "fnPartDirective", inPlace := ["internal/abi.NoEscape", "internal/bytealg.MakeNoZero"], unfollowed := true, recurses := true, named := ["unicode/utf8.first", "unicode/utf8.acceptRanges", "bytes.ErrTooLarge"], apart := false, laid := [("unicode/utf8.acceptRanges", laid_unicode_utf8_acceptRanges), ("bytes.ErrTooLarge", laid_bytes_ErrTooLarge), ("unicode/utf8.first", laid_unicode_utf8_first)], narrowed := true }
def FnPartDirectiveUptoSaid : Prop := fnPartDirectiveUptoRow.holds Tryz.pinned (OpenSpec.upto fnPartDirectiveSpec)

/-- 'laws.FnPartEnumValue', WHERE WHAT IT READS IS OF BULK AT MOST 1048576: true; the input reads as it did. -/
def fnPartEnumValueUptoRow : OpenClaim := { program := "ytndpjeldpdppmaagreatdoor", sum := "1610fadeb1823485559eeb32cd4bee9e2e69a971af813fd33de88f17f73706d3", func := "given.example/pub-antiphonal/laws.FnPartEnumValue", spec := "fnPartEnumValue", inPlace := ["internal/abi.NoEscape", "internal/bytealg.MakeNoZero"], unfollowed := true, recurses := true, named := ["unicode/utf8.first", "unicode/utf8.acceptRanges", "bytes.ErrTooLarge"], apart := false, laid := [("unicode/utf8.acceptRanges", laid_unicode_utf8_acceptRanges), ("bytes.ErrTooLarge", laid_bytes_ErrTooLarge), ("unicode/utf8.first", laid_unicode_utf8_first)], narrowed := true }
def FnPartEnumValueUptoSaid : Prop := fnPartEnumValueUptoRow.holds Tryz.pinned (OpenSpec.upto fnPartEnumValueSpec)

/-- 'laws.FnPartFieldDef', WHERE WHAT IT READS IS OF BULK AT MOST 1048576: true; the input reads as it did. -/
def fnPartFieldDefUptoRow : OpenClaim := { program := "ytndpjeldpdppmaagreatdoor", sum := "1610fadeb1823485559eeb32cd4bee9e2e69a971af813fd33de88f17f73706d3", func := "given.example/pub-antiphonal/laws.FnPartFieldDef", spec := "fnPartFieldDef", inPlace := ["internal/abi.NoEscape", "internal/bytealg.MakeNoZero"], unfollowed := true, recurses := true, named := ["unicode/utf8.first", "unicode/utf8.acceptRanges", "bytes.ErrTooLarge"], apart := false, laid := [("unicode/utf8.acceptRanges", laid_unicode_utf8_acceptRanges), ("bytes.ErrTooLarge", laid_bytes_ErrTooLarge), ("unicode/utf8.first", laid_unicode_utf8_first)], narrowed := true }
def FnPartFieldDefUptoSaid : Prop := fnPartFieldDefUptoRow.holds Tryz.pinned (OpenSpec.upto fnPartFieldDefSpec)

/-- 'laws.FnPartInputDef', WHERE WHAT IT READS IS OF BULK AT MOST 1048576: true; the input reads as it did. -/
def fnPartInputDefUptoRow : OpenClaim := { program := "ytndpjeldpdppmaagreatdoor", sum := "1610fadeb1823485559eeb32cd4bee9e2e69a971af813fd33de88f17f73706d3", func := "given.example/pub-antiphonal/laws.FnPartInputDef", spec := "fnPartInputDef", inPlace := ["internal/abi.NoEscape", "internal/bytealg.MakeNoZero"], unfollowed := true, recurses := true, named := ["unicode/utf8.first", "unicode/utf8.acceptRanges", "bytes.ErrTooLarge"], apart := false, laid := [("unicode/utf8.acceptRanges", laid_unicode_utf8_acceptRanges), ("bytes.ErrTooLarge", laid_bytes_ErrTooLarge), ("unicode/utf8.first", laid_unicode_utf8_first)], narrowed := true }
def FnPartInputDefUptoSaid : Prop := fnPartInputDefUptoRow.holds Tryz.pinned (OpenSpec.upto fnPartInputDefSpec)

/-- 'laws.FnPartOperationType', WHERE WHAT IT READS IS OF BULK AT MOST 1048576: true; the input reads as it did. -/
def fnPartOperationTypeUptoRow : OpenClaim := { program := "ytndpjeldpdppmaagreatdoor", sum := "1610fadeb1823485559eeb32cd4bee9e2e69a971af813fd33de88f17f73706d3", func := "given.example/pub-antiphonal/laws.FnPartOperationType", spec := "fnPartOperationType", inPlace := ["internal/abi.NoEscape", "internal/bytealg.MakeNoZero"], unfollowed := true, recurses := true, named := ["unicode/utf8.first", "unicode/utf8.acceptRanges", "bytes.ErrTooLarge"], apart := false, laid := [("unicode/utf8.acceptRanges", laid_unicode_utf8_acceptRanges), ("bytes.ErrTooLarge", laid_bytes_ErrTooLarge), ("unicode/utf8.first", laid_unicode_utf8_first)], narrowed := true }
def FnPartOperationTypeUptoSaid : Prop := fnPartOperationTypeUptoRow.holds Tryz.pinned (OpenSpec.upto fnPartOperationTypeSpec)

/-- 'laws.FnPartScalar', WHERE WHAT IT READS IS OF BULK AT MOST 1048576: true; the input reads as it did. -/
def fnPartScalarUptoRow : OpenClaim := { program := "ytndpjeldpdppmaagreatdoor", sum := "1610fadeb1823485559eeb32cd4bee9e2e69a971af813fd33de88f17f73706d3", func := "given.example/pub-antiphonal/laws.FnPartScalar", spec := "fnPartScalar", inPlace := ["internal/abi.NoEscape", "internal/bytealg.MakeNoZero"], unfollowed := true, recurses := true, named := ["unicode/utf8.first", "unicode/utf8.acceptRanges", "bytes.ErrTooLarge"], apart := false, laid := [("unicode/utf8.acceptRanges", laid_unicode_utf8_acceptRanges), ("bytes.ErrTooLarge", laid_bytes_ErrTooLarge), ("unicode/utf8.first", laid_unicode_utf8_first)], narrowed := true }
def FnPartScalarUptoSaid : Prop := fnPartScalarUptoRow.holds Tryz.pinned (OpenSpec.upto fnPartScalarSpec)

/-- 'laws.FnPartSchema', WHERE WHAT IT READS IS OF BULK AT MOST 1048576: true; the input reads as it did. -/
def fnPartSchemaUptoRow : OpenClaim := { program := "ytndpjeldpdppmaagreatdoor", sum := "1610fadeb1823485559eeb32cd4bee9e2e69a971af813fd33de88f17f73706d3", func := "given.example/pub-antiphonal/laws.FnPartSchema", spec := "fnPartSchema", inPlace := ["internal/abi.NoEscape", "internal/bytealg.MakeNoZero"], unfollowed := true, recurses := true, named := ["unicode/utf8.first", "unicode/utf8.acceptRanges", "bytes.ErrTooLarge"], apart := false, laid := [("unicode/utf8.acceptRanges", laid_unicode_utf8_acceptRanges), ("bytes.ErrTooLarge", laid_bytes_ErrTooLarge), ("unicode/utf8.first", laid_unicode_utf8_first)], narrowed := true }
def FnPartSchemaUptoSaid : Prop := fnPartSchemaUptoRow.holds Tryz.pinned (OpenSpec.upto fnPartSchemaSpec)

/-- 'laws.FnPartSpread', WHERE WHAT IT READS IS OF BULK AT MOST 1048576: true; the input reads as it did. -/
def fnPartSpreadUptoRow : OpenClaim := { program := "ytndpjeldpdppmaagreatdoor", sum := "1610fadeb1823485559eeb32cd4bee9e2e69a971af813fd33de88f17f73706d3", func := "given.example/pub-antiphonal/laws.FnPartSpread", spec := "fnPartSpread", inPlace := ["internal/abi.NoEscape", "internal/bytealg.MakeNoZero"], unfollowed := true, recurses := true, named := ["unicode/utf8.first", "unicode/utf8.acceptRanges", "bytes.ErrTooLarge"], apart := false, laid := [("unicode/utf8.acceptRanges", laid_unicode_utf8_acceptRanges), ("bytes.ErrTooLarge", laid_bytes_ErrTooLarge), ("unicode/utf8.first", laid_unicode_utf8_first)], narrowed := true }
def FnPartSpreadUptoSaid : Prop := fnPartSpreadUptoRow.holds Tryz.pinned (OpenSpec.upto fnPartSpreadSpec)

/-- 'laws.FnPartUnion', WHERE WHAT IT READS IS OF BULK AT MOST 1048576: true; the input reads as it did. -/
def fnPartUnionUptoRow : OpenClaim := { program := "ytndpjeldpdppmaagreatdoor", sum := "1610fadeb1823485559eeb32cd4bee9e2e69a971af813fd33de88f17f73706d3", func := "given.example/pub-antiphonal/laws.FnPartUnion", spec := "fnPartUnion", inPlace := ["internal/abi.NoEscape", "internal/bytealg.MakeNoZero"], unfollowed := true, recurses := true, named := ["unicode/utf8.first", "unicode/utf8.acceptRanges", "bytes.ErrTooLarge"], apart := false, laid := [("unicode/utf8.acceptRanges", laid_unicode_utf8_acceptRanges), ("bytes.ErrTooLarge", laid_bytes_ErrTooLarge), ("unicode/utf8.first", laid_unicode_utf8_first)], narrowed := true }
def FnPartUnionUptoSaid : Prop := fnPartUnionUptoRow.holds Tryz.pinned (OpenSpec.upto fnPartUnionSpec)

/-- 'laws.FnPartVariable', WHERE WHAT IT READS IS OF BULK AT MOST 1048576: true; the input reads as it did. -/
def fnPartVariableUptoRow : OpenClaim := { program := "ytndpjeldpdppmaagreatdoor", sum := "1610fadeb1823485559eeb32cd4bee9e2e69a971af813fd33de88f17f73706d3", func := "given.example/pub-antiphonal/laws.FnPartVariable", spec := "fnPartVariable", inPlace := ["internal/abi.NoEscape", "internal/bytealg.MakeNoZero"], unfollowed := true, recurses := true, named := ["unicode/utf8.first", "unicode/utf8.acceptRanges", "bytes.ErrTooLarge"], apart := false, laid := [("unicode/utf8.acceptRanges", laid_unicode_utf8_acceptRanges), ("bytes.ErrTooLarge", laid_bytes_ErrTooLarge), ("unicode/utf8.first", laid_unicode_utf8_first)], narrowed := true }
def FnPartVariableUptoSaid : Prop := fnPartVariableUptoRow.holds Tryz.pinned (OpenSpec.upto fnPartVariableSpec)

end Rows
end Go.Proofs.YtndpjeldpdppmaaGreatDoor
