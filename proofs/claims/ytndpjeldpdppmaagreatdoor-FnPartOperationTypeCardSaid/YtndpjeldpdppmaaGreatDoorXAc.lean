/- A part of the proof of what the last text of this claim says: WA0, WA1, WA2. Conditions: none. -/
import Derived.Test.YtndpjeldpdppmaaGreatDoorProg
import Derived.KernelRfl
import Derived.Test.YtndpjeldpdppmaaGreatDoorXAb
namespace Go.Vx
open Go Go.Proofs
set_option maxRecDepth 100000
noncomputable abbrev PP : Program := Tryz.prog
theorem mixed : Tryz.prog.follows .mixedOrders = true := by kernel_rfl
abbrev f_ast_NewLocation : FuncId := 199
abbrev f_ast_NewName : FuncId := 202
abbrev f_ast_NewNamed : FuncId := 201
abbrev f_ast_NewOperationTypeDefinition : FuncId := 144
abbrev f_ast_NewScalarDefinition : FuncId := 146
abbrev f_gqlerrors_NewSyntaxError : FuncId := 197
abbrev f_impl_ReadPart : FuncId := 20
abbrev f_impl_on : FuncId := 65
abbrev f_impl_partName : FuncId := 26
abbrev f_impl_readPart : FuncId := 27
abbrev f_impl_taker_definition : FuncId := 71
abbrev f_impl_taker_description : FuncId := 63
abbrev f_impl_taker_directives : FuncId := 62
abbrev f_impl_taker_directives_1 : FuncId := 119
abbrev f_impl_taker_part : FuncId := 34
abbrev f_impl_taker_put : FuncId := 64
abbrev f_impl_taker_system : FuncId := 128
abbrev f_impl_taker_system_2 : FuncId := 185
abbrev f_impl_text : FuncId := 66
abbrev f_laws_FnPartOperationType : FuncId := 9
abbrev f_laws_beneath9 : FuncId := 19
abbrev f_laws_part9 : FuncId := 16
abbrev f_laws_zzFits3 : FuncId := 15
abbrev f_laws_zzFits4 : FuncId := 17
abbrev f_lexer_Lex : FuncId := 135
abbrev f_lexer_Lex_1 : FuncId := 195
abbrev f_lexer_makeToken : FuncId := 225
abbrev f_lexer_positionAfterWhitespace : FuncId := 224
abbrev f_lexer_readBlockString : FuncId := 229
abbrev f_lexer_readName : FuncId := 227
abbrev f_lexer_readNumber : FuncId := 228
abbrev f_lexer_readString : FuncId := 230
abbrev f_lexer_readToken : FuncId := 196
abbrev f_lexer_runeAt : FuncId := 226
abbrev f_parser_ReadPart : FuncId := 33
abbrev f_parser_advance : FuncId := 148
abbrev f_parser_alone : FuncId := 85
abbrev f_parser_begin : FuncId := 58
abbrev f_parser_errNone : FuncId := 114
abbrev f_parser_expect : FuncId := 142
abbrev f_parser_expectKeyWord : FuncId := 136
abbrev f_parser_listed_p_ast_InputValueDefinition : FuncId := 93
abbrev f_parser_listed_p_ast_Name : FuncId := 104
abbrev f_parser_listed_p_ast_Named : FuncId := 90
abbrev f_parser_loc : FuncId := 140
abbrev f_parser_makeParser : FuncId := 83
abbrev f_parser_parseArgument : FuncId := 112
abbrev f_parser_parseArgumentDefs : FuncId := 94
abbrev f_parser_parseDescription : FuncId := 106
abbrev f_parser_parseDirective : FuncId := 113
abbrev f_parser_parseDirectiveDefinition : FuncId := 103
abbrev f_parser_parseDirectiveLocations : FuncId := 105
abbrev f_parser_parseDirectives : FuncId := 137
abbrev f_parser_parseEnumTypeDefinition : FuncId := 99
abbrev f_parser_parseEnumValueDefinition : FuncId := 100
abbrev f_parser_parseField : FuncId := 110
abbrev f_parser_parseFieldDefinition : FuncId := 92
abbrev f_parser_parseFragment : FuncId := 111
abbrev f_parser_parseFragmentDefinition : FuncId := 108
abbrev f_parser_parseImplementsInterfaces : FuncId := 91
abbrev f_parser_parseInputObjectTypeDefinition : FuncId := 101
abbrev f_parser_parseInputValueDef : FuncId := 95
abbrev f_parser_parseInterfaceTypeDefinition : FuncId := 96
abbrev f_parser_parseName : FuncId := 145
abbrev f_parser_parseNamed : FuncId := 143
abbrev f_parser_parseObjectTypeDefinition : FuncId := 89
abbrev f_parser_parseOperationDefinition : FuncId := 107
abbrev f_parser_parseOperationType : FuncId := 141
abbrev f_parser_parseOperationTypeDefinition : FuncId := 87
abbrev f_parser_parseScalarTypeDefinition : FuncId := 88
abbrev f_parser_parseSchemaDefinition : FuncId := 86
abbrev f_parser_parseStringLiteral : FuncId := 163
abbrev f_parser_parseTypeExtensionDefinition : FuncId := 102
abbrev f_parser_parseUnionMembers : FuncId := 98
abbrev f_parser_parseUnionTypeDefinition : FuncId := 97
abbrev f_parser_parseVariableDefinition : FuncId := 109
abbrev f_parser_part : FuncId := 59
abbrev f_parser_peek : FuncId := 152
abbrev f_parser_peekDescription : FuncId := 162
abbrev f_parser_skip : FuncId := 149
abbrev f_parser_unexpected : FuncId := 200
abbrev f_source_NewSource : FuncId := 84
abbrev f_spec_AnyDocument : FuncId := 18
abbrev f_spec_Block : FuncId := 72
abbrev f_spec_BlockValue : FuncId := 78
abbrev f_spec_Encoded : FuncId := 250
abbrev f_spec_Gaps : FuncId := 21
abbrev f_spec_IsName : FuncId := 46
abbrev f_spec_IsNumber : FuncId := 47
abbrev f_spec_KidOf : FuncId := 81
abbrev f_spec_Kids : FuncId := 38
abbrev f_spec_KidsOf : FuncId := 134
abbrev f_spec_Lex : FuncId := 75
abbrev f_spec_Lines : FuncId := 131
abbrev f_spec_Point : FuncId := 76
abbrev f_spec_Quote : FuncId := 73
abbrev f_spec_SameDocument : FuncId := 23
abbrev f_spec_Sub : FuncId := 24
abbrev f_spec_TokenTexts : FuncId := 22
abbrev f_spec_blockable : FuncId := 49
abbrev f_spec_clinging : FuncId := 28
abbrev f_spec_common : FuncId := 132
abbrev f_spec_fixedAt : FuncId := 54
abbrev f_spec_fixedHere : FuncId := 82
abbrev f_spec_formed : FuncId := 31
abbrev f_spec_hexadecimal : FuncId := 249
abbrev f_spec_isBegin : FuncId := 35
abbrev f_spec_isDigit : FuncId := 36
abbrev f_spec_isNullable : FuncId := 56
abbrev f_spec_isObject : FuncId := 80
abbrev f_spec_isSelections : FuncId := 53
abbrev f_spec_isType : FuncId := 43
abbrev f_spec_isValue : FuncId := 44
abbrev f_spec_leading : FuncId := 133
abbrev f_spec_lexed : FuncId := 130
abbrev f_spec_lexer_add : FuncId := 217
abbrev f_spec_lexer_block : FuncId := 221
abbrev f_spec_lexer_comment : FuncId := 216
abbrev f_spec_lexer_digits : FuncId := 248
abbrev f_spec_lexer_escape : FuncId := 238
abbrev f_spec_lexer_fail : FuncId := 223
abbrev f_spec_lexer_next : FuncId := 219
abbrev f_spec_lexer_number : FuncId := 220
abbrev f_spec_lexer_numeral : FuncId := 237
abbrev f_spec_lexer_text : FuncId := 222
abbrev f_spec_lexer_token : FuncId := 194
abbrev f_spec_plainBlock : FuncId := 79
abbrev f_spec_rightFrom : FuncId := 25
abbrev f_spec_row_all : FuncId := 50
abbrev f_spec_row_end : FuncId := 51
abbrev f_spec_row_most : FuncId := 55
abbrev f_spec_row_one : FuncId := 52
abbrev f_spec_shaped : FuncId := 32
abbrev f_spec_shapedType : FuncId := 57
abbrev f_spec_sign : FuncId := 218
abbrev f_spec_sized : FuncId := 30
abbrev f_spec_source : FuncId := 236
abbrev f_spec_starts : FuncId := 77
abbrev f_spec_textable : FuncId := 48
abbrev f_spec_writer_about : FuncId := 129
abbrev f_spec_writer_definition : FuncId := 74
abbrev f_spec_writer_directives : FuncId := 41
abbrev f_spec_writer_first : FuncId := 42
abbrev f_spec_writer_kids : FuncId := 40
abbrev f_spec_writer_node : FuncId := 29
abbrev f_spec_writer_node_1 : FuncId := 37
abbrev f_spec_writer_put : FuncId := 39
abbrev f_spec_writer_rest : FuncId := 45
abbrev f_unicode_utf8_DecodeRune : FuncId := 239
abbrev t__2int : TypeId := 61
abbrev t_any : TypeId := 20
abbrev t_ast_Location : TypeId := 182
abbrev t_ast_Name : TypeId := 111
abbrev t_ast_Named : TypeId := 109
abbrev t_ast_Node : TypeId := 127
abbrev t_ast_OperationTypeDefinition : TypeId := 105
abbrev t_ast_ScalarDefinition : TypeId := 232
abbrev t_impl_Node : TypeId := 28
abbrev t_impl_Token : TypeId := 134
abbrev t_impl_taker : TypeId := 58
abbrev t_int : TypeId := 3
abbrev t_int32 : TypeId := 21
abbrev t_lexer_Token : TypeId := 81
abbrev t_p_ast_Argument : TypeId := 92
abbrev t_p_ast_Directive : TypeId := 95
abbrev t_p_ast_DirectiveDefinition : TypeId := 268
abbrev t_p_ast_EnumDefinition : TypeId := 255
abbrev t_p_ast_EnumValueDefinition : TypeId := 119
abbrev t_p_ast_Field : TypeId := 122
abbrev t_p_ast_FieldDefinition : TypeId := 113
abbrev t_p_ast_FragmentDefinition : TypeId := 200
abbrev t_p_ast_InputObjectDefinition : TypeId := 260
abbrev t_p_ast_InputValueDefinition : TypeId := 116
abbrev t_p_ast_InterfaceDefinition : TypeId := 246
abbrev t_p_ast_ObjectDefinition : TypeId := 233
abbrev t_p_ast_OperationDefinition : TypeId := 197
abbrev t_p_ast_OperationTypeDefinition : TypeId := 100
abbrev t_p_ast_ScalarDefinition : TypeId := 229
abbrev t_p_ast_SchemaDefinition : TypeId := 216
abbrev t_p_ast_StringValue : TypeId := 98
abbrev t_p_ast_TypeExtensionDefinition : TypeId := 264
abbrev t_p_ast_UnionDefinition : TypeId := 250
abbrev t_p_ast_VariableDefinition : TypeId := 89
abbrev t_p_gqlerrors_Error : TypeId := 326
abbrev t_p_impl_taker : TypeId := 55
abbrev t_p_source_Source : TypeId := 84
abbrev t_p_spec_writer : TypeId := 43
abbrev t_parser_ParseOptions : TypeId := 86
abbrev t_parser_Parser : TypeId := 88
abbrev t_source_Source : TypeId := 142
abbrev t_spec_lexer : TypeId := 324
abbrev t_spec_row : TypeId := 69
abbrev t_spec_writer : TypeId := 46
abbrev t_string : TypeId := 9
abbrev t_uint8 : TypeId := 5
abbrev g_first : Nat := 0
abbrev g_accept : Nat := 1
end Go.Vx
namespace Go.Vx
open Go Go.Proofs
set_option maxRecDepth 100000
/-- spec.isBegin -/
def isBegin.W (c : Int) (H : Heap) (R : Value → Heap → Prop) : Prop :=
  forkB (decide (c ≥ 97))
  (forkB (decide (c ≤ 122))
    (retK (some [(.bool true)]) H R)
    (forkB (decide (c ≥ 65))
      (forkB (decide (c ≤ 90))
        (retK (some [(.bool true)]) H R)
        (retK (some [(.bool (c == 95))]) H R))
      (retK (some [(.bool (c == 95))]) H R)))
  (forkB (decide (c ≥ 65))
    (forkB (decide (c ≤ 90))
      (retK (some [(.bool true)]) H R)
      (retK (some [(.bool (c == 95))]) H R))
    (retK (some [(.bool (c == 95))]) H R))
theorem isBegin.enter (c : Int) (H : Heap) (R : Value → Heap → Prop) (h : isBegin.W c H R) : Fn PP f_spec_isBegin #[(.int .u8 c)] H R :=
  fun_sound mixed Tryz.func35 ⟨patL [], loopL [], joinL [], joinL [], joinRL []⟩ [(.int .u8 c)] H R (Eq.mp (by unfold isBegin.W; kernel_rfl) h)

/-- spec.isDigit -/
def isDigit.W (c : Int) (H : Heap) (R : Value → Heap → Prop) : Prop :=
  forkB (decide (c ≥ 48))
  (retK (some [(.bool (decide (c ≤ 57)))]) H R)
  (retK (some [(.bool false)]) H R)
theorem isDigit.enter (c : Int) (H : Heap) (R : Value → Heap → Prop) (h : isDigit.W c H R) : Fn PP f_spec_isDigit #[(.int .u8 c)] H R :=
  fun_sound mixed Tryz.func36 ⟨patL [], loopL [], joinL [], joinL [], joinRL []⟩ [(.int .u8 c)] H R (Eq.mp (by unfold isDigit.W; kernel_rfl) h)

/-- spec.IsName -/
def IsName.W (s : ByteArray) (H : Heap) (R : Value → Heap → Prop) : Prop :=
  loopK (Int × Unit) (0, ()) H fun z1 H2 next3 =>
  forkB (decide (z1.1 < ((s.size : Nat) : Int)))
  (((0 : Int) ≤ z1.1 ∧ z1.1 < ((s.size : Nat) : Int)) ∧
    callW PP f_spec_isBegin #[(.int .u8 (bt s z1.1))] H2 pBool fun (x4 : Bool) H5 =>
    forkB (!x4)
    (forkB (z1.1 == 0)
      (retK (some [(.bool false)]) H5 R)
      (((0 : Int) ≤ z1.1 ∧ z1.1 < ((s.size : Nat) : Int)) ∧
        callW PP f_spec_isDigit #[(.int .u8 (bt s z1.1))] H5 pBool fun (x6 : Bool) H7 =>
        forkB (!x6)
        (retK (some [(.bool false)]) H7 R)
        (next3 ((IntKind.i64.wrap (z1.1 + 1)), ()) H7)))
    (next3 ((IntKind.i64.wrap (z1.1 + 1)), ()) H5))
  (retK (some [(.bool (!(s.toList == (bs []).toList)))]) H2 R)
theorem IsName.enter (s : ByteArray) (H : Heap) (R : Value → Heap → Prop) (h : IsName.W s H R) : Fn PP f_spec_IsName #[(.string s)] H R :=
  fun_sound mixed Tryz.func46 ⟨patL [(13, pBool), (22, pBool)], loopL [(0, [Slot.int .i64 3])], joinL [], joinL [], joinRL []⟩ [(.string s)] H R (Eq.mp (by unfold IsName.W; kernel_rfl) h)

/-- spec.Point -/
def Point.W (s : ByteArray) (at_ : Int) (H : Heap) (R : Value → Heap → Prop) : Prop :=
  ((0 : Int) ≤ at_ ∧ at_ < ((s.size : Nat) : Int)) ∧
  forkB (decide ((IntKind.i64.wrap (bt s at_)) < 128))
  (retK (some [(.int .i64 (IntKind.i64.wrap (bt s at_))), (.int .i64 1)]) H R)
  (joinPK (Bool × Unit) H (fun J1 =>
    forkB (decide ((IntKind.i64.wrap (bt s at_)) ≥ 194))
      (J1 ((decide ((IntKind.i64.wrap (bt s at_)) < 224)), ()) H)
      (J1 (false, ()) H)) fun y2 =>
    joinK (Int × Int × Int × Unit) (fun J3 =>
    forkB y2.1
      (J3 ((IntKind.i64.wrap ((IntKind.i64.wrap (bt s at_)) - 192)), 2, 128, ()) H)
      (joinPK (Bool × Unit) H (fun J6 =>
        forkB (decide ((IntKind.i64.wrap (bt s at_)) ≥ 224))
          (J6 ((decide ((IntKind.i64.wrap (bt s at_)) < 240)), ()) H)
          (J6 (false, ()) H)) fun y7 =>
        joinK (Int × Int × Int × Unit) (fun J8 =>
        forkB y7.1
          (J8 ((IntKind.i64.wrap ((IntKind.i64.wrap (bt s at_)) - 224)), 3, 2048, ()) H)
          (joinPK (Bool × Unit) H (fun J11 =>
            forkB (decide ((IntKind.i64.wrap (bt s at_)) ≥ 240))
              (J11 ((decide ((IntKind.i64.wrap (bt s at_)) < 245)), ()) H)
              (J11 (false, ()) H)) fun y12 =>
            joinK (Int × Int × Int × Unit) (fun J13 =>
            forkB y12.1
              (J13 ((IntKind.i64.wrap ((IntKind.i64.wrap (bt s at_)) - 240)), 4, 65536, ()) H)
              (J13 (0, 0, 0, ()) H)) fun y14 H15 =>
            J8 (y14.1, y14.2.1, y14.2.2.1, ()) H15)) fun y9 H10 =>
        J3 (y9.1, y9.2.1, y9.2.2.1, ()) H10)) fun y4 H5 =>
    joinPK (Bool × Unit) H5 (fun J16 =>
    forkB (y4.2.1 == 0)
      (J16 (true, ()) H5)
      (J16 ((decide ((IntKind.i64.wrap (at_ + y4.2.1)) > ((s.size : Nat) : Int))), ()) H5)) fun y17 =>
    forkB y17.1
    (retK (some [(.int .i64 0), (.int .i64 0)]) H5 R)
    (loopK (Int × Int × Int × Unit) (y4.1, y4.2.1, (IntKind.i64.wrap (at_ + 1)), ()) H5 fun z18 H19 next20 =>
      forkB (decide (z18.2.2.1 < (IntKind.i64.wrap (at_ + z18.2.1))))
      (joinPK (Bool × Unit) H19 (fun J21 =>
        ((0 : Int) ≤ z18.2.2.1 ∧ z18.2.2.1 < ((s.size : Nat) : Int)) ∧
          forkB (decide ((bt s z18.2.2.1) < 128))
          (J21 (true, ()) H19)
          (((0 : Int) ≤ z18.2.2.1 ∧ z18.2.2.1 < ((s.size : Nat) : Int)) ∧
            J21 ((decide ((bt s z18.2.2.1) > 191)), ()) H19)) fun y22 =>
        forkB y22.1
        (retK (some [(.int .i64 0), (.int .i64 0)]) H19 R)
        (((0 : Int) ≤ z18.2.2.1 ∧ z18.2.2.1 < ((s.size : Nat) : Int)) ∧
          next20 ((IntKind.i64.wrap ((IntKind.i64.wrap ((IntKind.i64.wrap (z18.1 * 2 ^ (min (6 : Int).toNat 64))) + (IntKind.i64.wrap (bt s z18.2.2.1)))) - 128)), z18.2.1, (IntKind.i64.wrap (z18.2.2.1 + 1)), ()) H19))
      (joinPK (Bool × Unit) H19 (fun J23 =>
        forkB (decide (z18.1 < y4.2.2.1))
          (J23 (true, ()) H19)
          (forkB (decide (z18.1 > 1114111))
            (J23 (true, ()) H19)
            (forkB (decide (z18.1 ≥ 55296))
              (J23 ((decide (z18.1 < 57344)), ()) H19)
              (J23 (false, ()) H19)))) fun y24 =>
        forkB y24.1
        (retK (some [(.int .i64 0), (.int .i64 0)]) H19 R)
        (retK (some [(.int .i64 z18.1), (.int .i64 z18.2.1)]) H19 R))))
theorem Point.enter (s : ByteArray) (at_ : Int) (H : Heap) (R : Value → Heap → Prop) (h : Point.W s at_ H R) : Fn PP f_spec_Point #[(.string s), (.int .i64 at_)] H R :=
  fun_sound mixed Tryz.func76 ⟨patL [], loopL [(1, [Slot.int .i64 4, Slot.int .i64 5, Slot.int .i64 8])], joinL [(17, [Slot.int .i64 4, Slot.int .i64 5, Slot.int .i64 7]), (26, [Slot.int .i64 4, Slot.int .i64 5, Slot.int .i64 7]), (35, [Slot.int .i64 4, Slot.int .i64 5, Slot.int .i64 7])], joinL [], joinRL [(5, [Slot.bool 17], true), (7, [Slot.bool 26], true), (9, [Slot.bool 35], true), (11, [Slot.bool 53], true), (16, [Slot.bool 72], true), (19, [Slot.bool 95], true)]⟩ [(.string s), (.int .i64 at_)] H R (Eq.mp (by unfold Point.W; kernel_rfl) h)

/-- spec.hexadecimal -/
def hexadecimal.W (c : Int) (H : Heap) (R : Value → Heap → Prop) : Prop :=
  forkB (decide (c ≥ 48))
  (forkB (decide (c ≤ 57))
    (retK (some [(.int .i64 (IntKind.i64.wrap (IntKind.u8.wrap (c - 48))))]) H R)
    (forkB (decide (c ≥ 97))
      (forkB (decide (c ≤ 102))
        (retK (some [(.int .i64 (IntKind.i64.wrap ((IntKind.i64.wrap (IntKind.u8.wrap (c - 97))) + 10)))]) H R)
        (forkB (decide (c ≥ 65))
          (forkB (decide (c ≤ 70))
            (retK (some [(.int .i64 (IntKind.i64.wrap ((IntKind.i64.wrap (IntKind.u8.wrap (c - 65))) + 10)))]) H R)
            (retK (some [(.int .i64 (-1))]) H R))
          (retK (some [(.int .i64 (-1))]) H R)))
      (forkB (decide (c ≥ 65))
        (forkB (decide (c ≤ 70))
          (retK (some [(.int .i64 (IntKind.i64.wrap ((IntKind.i64.wrap (IntKind.u8.wrap (c - 65))) + 10)))]) H R)
          (retK (some [(.int .i64 (-1))]) H R))
        (retK (some [(.int .i64 (-1))]) H R))))
  (forkB (decide (c ≥ 97))
    (forkB (decide (c ≤ 102))
      (retK (some [(.int .i64 (IntKind.i64.wrap ((IntKind.i64.wrap (IntKind.u8.wrap (c - 97))) + 10)))]) H R)
      (forkB (decide (c ≥ 65))
        (forkB (decide (c ≤ 70))
          (retK (some [(.int .i64 (IntKind.i64.wrap ((IntKind.i64.wrap (IntKind.u8.wrap (c - 65))) + 10)))]) H R)
          (retK (some [(.int .i64 (-1))]) H R))
        (retK (some [(.int .i64 (-1))]) H R)))
    (forkB (decide (c ≥ 65))
      (forkB (decide (c ≤ 70))
        (retK (some [(.int .i64 (IntKind.i64.wrap ((IntKind.i64.wrap (IntKind.u8.wrap (c - 65))) + 10)))]) H R)
        (retK (some [(.int .i64 (-1))]) H R))
      (retK (some [(.int .i64 (-1))]) H R)))
theorem hexadecimal.enter (c : Int) (H : Heap) (R : Value → Heap → Prop) (h : hexadecimal.W c H R) : Fn PP f_spec_hexadecimal #[(.int .u8 c)] H R :=
  fun_sound mixed Tryz.func249 ⟨patL [], loopL [], joinL [], joinL [], joinRL []⟩ [(.int .u8 c)] H R (Eq.mp (by unfold hexadecimal.W; kernel_rfl) h)

/-- spec.sign -/
def sign.W (c : Int) (H : Heap) (R : Value → Heap → Prop) : Prop :=
  forkB (c == 33)
  (retK (some [(.int .i64 2)]) H R)
  (forkB (c == 36)
    (retK (some [(.int .i64 3)]) H R)
    (forkB (c == 40)
      (retK (some [(.int .i64 4)]) H R)
      (forkB (c == 41)
        (retK (some [(.int .i64 5)]) H R)
        (forkB (c == 58)
          (retK (some [(.int .i64 7)]) H R)
          (forkB (c == 61)
            (retK (some [(.int .i64 8)]) H R)
            (forkB (c == 64)
              (retK (some [(.int .i64 9)]) H R)
              (forkB (c == 91)
                (retK (some [(.int .i64 10)]) H R)
                (forkB (c == 93)
                  (retK (some [(.int .i64 11)]) H R)
                  (forkB (c == 123)
                    (retK (some [(.int .i64 12)]) H R)
                    (forkB (c == 124)
                      (retK (some [(.int .i64 13)]) H R)
                      (forkB (c == 125)
                        (retK (some [(.int .i64 14)]) H R)
                        (forkB (c == 38)
                          (retK (some [(.int .i64 20)]) H R)
                          (retK (some [(.int .i64 0)]) H R)))))))))))))
theorem sign.enter (c : Int) (H : Heap) (R : Value → Heap → Prop) (h : sign.W c H R) : Fn PP f_spec_sign #[(.int .u8 c)] H R :=
  fun_sound mixed Tryz.func218 ⟨patL [], loopL [], joinL [], joinL [], joinRL []⟩ [(.int .u8 c)] H R (Eq.mp (by unfold sign.W; kernel_rfl) h)

/-- spec.starts -/
def starts.W (s : ByteArray) (at_ : Int) (t : ByteArray) (H : Heap) (R : Value → Heap → Prop) : Prop :=
  forkB (decide ((IntKind.i64.wrap (at_ + ((t.size : Nat) : Int))) ≤ ((s.size : Nat) : Int)))
  ((((0 : Int) ≤ (IntKind.i64.wrap (at_ + ((t.size : Nat) : Int))) ∧ (IntKind.i64.wrap (at_ + ((t.size : Nat) : Int))) ≤ ((s.size : Nat) : Int)) ∧ ((0 : Int) ≤ at_ ∧ at_ ≤ (((IntKind.i64.wrap (at_ + ((t.size : Nat) : Int))).toNat : Nat) : Int))) ∧
    retK (some [(.bool ((s.extract at_.toNat (IntKind.i64.wrap (at_ + ((t.size : Nat) : Int))).toNat).toList == t.toList))]) H R)
  (retK (some [(.bool false)]) H R)
theorem starts.enter (s : ByteArray) (at_ : Int) (t : ByteArray) (H : Heap) (R : Value → Heap → Prop) (h : starts.W s at_ t H R) : Fn PP f_spec_starts #[(.string s), (.int .i64 at_), (.string t)] H R :=
  fun_sound mixed Tryz.func77 ⟨patL [], loopL [], joinL [], joinL [], joinRL []⟩ [(.string s), (.int .i64 at_), (.string t)] H R (Eq.mp (by unfold starts.W; kernel_rfl) h)

/-- spec.source -/
def source_.W (c : Int) (H : Heap) (R : Value → Heap → Prop) : Prop :=
  forkB (c == 9)
  (retK (some [(.bool true), (.bool (decide (c ≤ 65535)))]) H R)
  (forkB (c == 10)
    (retK (some [(.bool true), (.bool (decide (c ≤ 65535)))]) H R)
    (forkB (c == 13)
      (retK (some [(.bool true), (.bool (decide (c ≤ 65535)))]) H R)
      (retK (some [(.bool (decide (c ≥ 32))), (.bool (decide (c ≤ 65535)))]) H R)))
theorem source_.enter (c : Int) (H : Heap) (R : Value → Heap → Prop) (h : source_.W c H R) : Fn PP f_spec_source #[(.int .i64 c)] H R :=
  fun_sound mixed Tryz.func236 ⟨patL [], loopL [], joinL [], joinL [], joinRL []⟩ [(.int .i64 c)] H R (Eq.mp (by unfold source_.W; kernel_rfl) h)

/-- spec.Encoded -/
def Encoded.W (c : Int) (H : Heap) (R : Value → Heap → Prop) : Prop :=
  newB H (.cells #[(.int .i32 (IntKind.i32.wrap c))] t_int32) fun b1 H2 =>
  runeW H2 ⟨b1, 0, none⟩ fun (c3 : Int) =>
  retK (some [(.string (Utf8.encode c3))]) H2 R
theorem Encoded.enter (c : Int) (H : Heap) (R : Value → Heap → Prop) (h : Encoded.W c H R) : Fn PP f_spec_Encoded #[(.int .i64 c)] H R :=
  fun_sound mixed Tryz.func250 ⟨patL [], loopL [], joinL [], joinL [], joinRL []⟩ [(.int .i64 c)] H R (Eq.mp (by unfold Encoded.W; kernel_rfl) h)

/-- spec.textable -/
def textable.W (s : ByteArray) (H : Heap) (R : Value → Heap → Prop) : Prop :=
  loopK (Int × Unit) (0, ()) H fun z1 H2 next3 =>
  forkB (decide (z1.1 < ((s.size : Nat) : Int)))
  (callW PP f_spec_Point #[(.string s), (.int .i64 z1.1)] H2 ⟨Int × Int, fun x => (.tuple #[(.int .i64 x.1), (.int .i64 x.2)])⟩ fun (x4 : Int × Int) H5 =>
    joinPK (Bool × Unit) H5 (fun J6 =>
    forkB (x4.2 == 0)
      (J6 (true, ()) H5)
      (forkB (x4.1 == 0)
        (J6 (true, ()) H5)
        (J6 ((decide (x4.1 > 65535)), ()) H5))) fun y7 =>
    forkB y7.1
    (retK (some [(.bool false)]) H5 R)
    (next3 ((IntKind.i64.wrap (z1.1 + x4.2)), ()) H5))
  (retK (some [(.bool true)]) H2 R)
theorem textable.enter (s : ByteArray) (H : Heap) (R : Value → Heap → Prop) (h : textable.W s H R) : Fn PP f_spec_textable #[(.string s)] H R :=
  fun_sound mixed Tryz.func48 ⟨patL [(13, ⟨Int × Int, fun x => (.tuple #[(.int .i64 x.1), (.int .i64 x.2)])⟩)], loopL [(0, [Slot.int .i64 3])], joinL [], joinL [], joinRL [(4, [Slot.bool 25], true)]⟩ [(.string s)] H R (Eq.mp (by unfold textable.W; kernel_rfl) h)

/-- spec.blockable -/
def blockable.W (s : ByteArray) (H : Heap) (R : Value → Heap → Prop) : Prop :=
  loopK (Int × Unit) (0, ()) H fun z1 H2 next3 =>
  forkB (decide (z1.1 < ((s.size : Nat) : Int)))
  (callW PP f_spec_Point #[(.string s), (.int .i64 z1.1)] H2 ⟨Int × Int, fun x => (.tuple #[(.int .i64 x.1), (.int .i64 x.2)])⟩ fun (x4 : Int × Int) H5 =>
    joinK (Bool × Unit) (fun J6 =>
    forkB (x4.2 == 0)
      (J6 (true, ()) H5)
      (forkB (x4.1 != 9)
        (forkB (x4.1 != 10)
          (forkB (decide (x4.1 < 32))
            (J6 (true, ()) H5)
            (forkB (x4.1 == 127)
              (J6 (true, ()) H5)
              (forkB (x4.1 == 65279)
                (J6 (true, ()) H5)
                (forkB (decide (x4.1 > 65535))
                  (J6 (true, ()) H5)
                  (callW PP f_spec_starts #[(.string s), (.int .i64 z1.1), (.string (bs [34, 34, 34]))] H5 pBool fun (x9 : Bool) H10 =>
                    J6 (x9, ()) H10)))))
          (forkB (x4.1 == 127)
            (J6 (true, ()) H5)
            (forkB (x4.1 == 65279)
              (J6 (true, ()) H5)
              (forkB (decide (x4.1 > 65535))
                (J6 (true, ()) H5)
                (callW PP f_spec_starts #[(.string s), (.int .i64 z1.1), (.string (bs [34, 34, 34]))] H5 pBool fun (x11 : Bool) H12 =>
                  J6 (x11, ()) H12)))))
        (forkB (x4.1 == 127)
          (J6 (true, ()) H5)
          (forkB (x4.1 == 65279)
            (J6 (true, ()) H5)
            (forkB (decide (x4.1 > 65535))
              (J6 (true, ()) H5)
              (callW PP f_spec_starts #[(.string s), (.int .i64 z1.1), (.string (bs [34, 34, 34]))] H5 pBool fun (x13 : Bool) H14 =>
                J6 (x13, ()) H14)))))) fun y7 H8 =>
    forkB y7.1
    (retK (some [(.bool false)]) H8 R)
    (next3 ((IntKind.i64.wrap (z1.1 + x4.2)), ()) H8))
  (joinK (Bool × Unit) (fun J15 =>
    ((((bs [10]).size + s.size : Nat) : Int) ≤ 9223372036854775807) ∧
      (((((bs [10]) ++ s).size + (bs [10]).size : Nat) : Int) ≤ 9223372036854775807) ∧
      callW PP f_spec_BlockValue #[(.string (((bs [10]) ++ s) ++ (bs [10])))] H2 pStr fun (x18 : ByteArray) H19 =>
      forkB (x18.toList == s.toList)
      (((((bs [10]).size + s.size : Nat) : Int) ≤ 9223372036854775807) ∧
        (((((bs [10]) ++ s).size + (bs [10]).size : Nat) : Int) ≤ 9223372036854775807) ∧
        callW PP f_spec_plainBlock #[(.string (((bs [10]) ++ s) ++ (bs [10])))] H19 pBool fun (x20 : Bool) H21 =>
        J15 (x20, ()) H21)
      (J15 (false, ()) H19)) fun y16 H17 =>
    retK (some [(.bool y16.1)]) H17 R)
theorem blockable.enter (s : ByteArray) (H : Heap) (R : Value → Heap → Prop) (h : blockable.W s H R) : Fn PP f_spec_blockable #[(.string s)] H R :=
  fun_sound mixed Tryz.func49 ⟨patL [(13, ⟨Int × Int, fun x => (.tuple #[(.int .i64 x.1), (.int .i64 x.2)])⟩), (45, pBool), (53, pStr), (60, pBool)], loopL [(0, [Slot.int .i64 3])], joinL [], joinL [], joinRL [(4, [Slot.bool 46], false), (7, [Slot.bool 2], false)]⟩ [(.string s)] H R (Eq.mp (by unfold blockable.W; kernel_rfl) h)

/-- spec.leading -/
def leading.W (s : ByteArray) (H : Heap) (R : Value → Heap → Prop) : Prop :=
  loopK (Int × Unit) (0, ()) H fun z1 H2 next3 =>
  joinPK (Bool × Unit) H2 (fun J4 =>
  forkB (decide (z1.1 < ((s.size : Nat) : Int)))
    (((0 : Int) ≤ z1.1 ∧ z1.1 < ((s.size : Nat) : Int)) ∧
      forkB ((bt s z1.1) == 32)
      (J4 (true, ()) H2)
      (((0 : Int) ≤ z1.1 ∧ z1.1 < ((s.size : Nat) : Int)) ∧
        J4 (((bt s z1.1) == 9), ()) H2))
    (J4 (false, ()) H2)) fun y5 =>
  forkB y5.1
  (next3 ((IntKind.i64.wrap (z1.1 + 1)), ()) H2)
  (retK (some [(.int .i64 z1.1)]) H2 R)
theorem leading.enter (s : ByteArray) (H : Heap) (R : Value → Heap → Prop) (h : leading.W s H R) : Fn PP f_spec_leading #[(.string s)] H R :=
  fun_sound mixed Tryz.func133 ⟨patL [], loopL [(0, [Slot.int .i64 3])], joinL [], joinL [], joinRL [(2, [Slot.bool 19], true)]⟩ [(.string s)] H R (Eq.mp (by unfold leading.W; kernel_rfl) h)

/-- spec.common -/
def common.W (l lO lN lC : Nat) (H : Heap) (R : Value → Heap → Prop) : Prop :=
  loopK (Int × Int × Unit) ((-1), 1, ()) H fun z1 H2 next3 =>
  forkB (decide (z1.2.1 < ((lN : Nat) : Int)))
  ((IxOk (some ⟨l, lO, none⟩) z1.2.1 lN) ∧
    loadW H2 false 1 ⟨l, (lO + z1.2.1.toNat * 1), none⟩ pStr fun (x4 : ByteArray) =>
    callW PP f_spec_leading #[(.string x4)] H2 (pInt .i64) fun (x5 : Int) H6 =>
    joinPK (Bool × Unit) H6 (fun J7 =>
    (IxOk (some ⟨l, lO, none⟩) z1.2.1 lN) ∧
      loadW H6 false 1 ⟨l, (lO + z1.2.1.toNat * 1), none⟩ pStr fun (x9 : ByteArray) =>
      forkB (decide (x5 < ((x9.size : Nat) : Int)))
      (forkB (decide (z1.1 < 0))
        (J7 (true, ()) H6)
        (J7 ((decide (x5 < z1.1)), ()) H6))
      (J7 (false, ()) H6)) fun y8 =>
    joinK (Int × Unit) (fun J10 =>
    forkB y8.1
      (J10 (x5, ()) H6)
      (J10 (z1.1, ()) H6)) fun y11 H12 =>
    next3 (y11.1, (IntKind.i64.wrap (z1.2.1 + 1)), ()) H12)
  (retK (some [(.int .i64 (if 0 > z1.1 then 0 else z1.1))]) H2 R)
theorem common.enter (l lO lN lC : Nat) (H : Heap) (R : Value → Heap → Prop) (h : common.W l lO lN lC H R) : Fn PP f_spec_common #[(.slice (some ⟨l, lO, none⟩) lN lC)] H R :=
  fun_sound mixed Tryz.func132 ⟨patL [(15, pStr), (16, (pInt .i64)), (21, pStr)], loopL [(0, [Slot.int .i64 3, Slot.int .i64 4])], joinL [(32, [Slot.int .i64 3])], joinL [], joinRL [(6, [Slot.bool 32], true)]⟩ [(.slice (some ⟨l, lO, none⟩) lN lC)] H R (Eq.mp (by unfold common.W; kernel_rfl) h)

/-- spec.Lines -/
def Lines.W (s : ByteArray) (H : Heap) (R : Value → Heap → Prop) : Prop :=
  loopK ((Option Addr × Nat × Nat) × Int × Int × Unit) ((none, 0, 0), 0, 0, ()) H fun z1 H2 next3 =>
  forkB (decide (z1.2.2.1 < ((s.size : Nat) : Int)))
  (joinPK (Bool × Unit) H2 (fun J4 =>
    ((0 : Int) ≤ z1.2.2.1 ∧ z1.2.2.1 < ((s.size : Nat) : Int)) ∧
      forkB ((bt s z1.2.2.1) != 10)
      (((0 : Int) ≤ z1.2.2.1 ∧ z1.2.2.1 < ((s.size : Nat) : Int)) ∧
        J4 (((bt s z1.2.2.1) != 13), ()) H2)
      (J4 (false, ()) H2)) fun y5 =>
    forkB y5.1
    (next3 ((z1.1.1, z1.1.2.1, z1.1.2.2), z1.2.1, (IntKind.i64.wrap (z1.2.2.1 + 1)), ()) H2)
    ((((0 : Int) ≤ z1.2.2.1 ∧ z1.2.2.1 ≤ ((s.size : Nat) : Int)) ∧ ((0 : Int) ≤ z1.2.1 ∧ z1.2.1 ≤ ((z1.2.2.1.toNat : Nat) : Int))) ∧
      newB H2 (.cells #[(.string (s.extract z1.2.1.toNat z1.2.2.1.toNat))] t_string) fun b6 H7 =>
      appK H7 t_string 1 16 z1.1.1 z1.1.2.1 z1.1.2.2 (some ⟨b6, 0, none⟩) 1 fun a8 c9 H10 =>
      joinPK (Bool × Unit) H10 (fun J11 =>
      ((0 : Int) ≤ z1.2.2.1 ∧ z1.2.2.1 < ((s.size : Nat) : Int)) ∧
        forkB ((bt s z1.2.2.1) == 13)
        (forkB (decide ((IntKind.i64.wrap (z1.2.2.1 + 1)) < ((s.size : Nat) : Int)))
          (((0 : Int) ≤ (IntKind.i64.wrap (z1.2.2.1 + 1)) ∧ (IntKind.i64.wrap (z1.2.2.1 + 1)) < ((s.size : Nat) : Int)) ∧
            J11 (((bt s (IntKind.i64.wrap (z1.2.2.1 + 1))) == 10), ()) H10)
          (J11 (false, ()) H10))
        (J11 (false, ()) H10)) fun y12 =>
      joinK (Int × Unit) (fun J13 =>
      forkB y12.1
        (J13 ((IntKind.i64.wrap (z1.2.2.1 + 1)), ()) H10)
        (J13 (z1.2.2.1, ()) H10)) fun y14 H15 =>
      next3 ((a8, (z1.1.2.1 + 1), c9), (IntKind.i64.wrap (y14.1 + 1)), (IntKind.i64.wrap (y14.1 + 1)), ()) H15))
  (((0 : Int) ≤ z1.2.1 ∧ z1.2.1 ≤ ((s.size : Nat) : Int)) ∧
    newB H2 (.cells #[(.string (s.extract z1.2.1.toNat s.size))] t_string) fun b16 H17 =>
    appK H17 t_string 1 16 z1.1.1 z1.1.2.1 z1.1.2.2 (some ⟨b16, 0, none⟩) 1 fun a18 c19 H20 =>
    retK (some [(.slice a18 (z1.1.2.1 + 1) c19)]) H20 R)
theorem Lines.enter (s : ByteArray) (H : Heap) (R : Value → Heap → Prop) (h : Lines.W s H R) : Fn PP f_spec_Lines #[(.string s)] H R :=
  fun_sound mixed Tryz.func131 ⟨patL [], loopL [(0, [Slot.slc 3, Slot.int .i64 4, Slot.int .i64 5])], joinL [(46, [Slot.int .i64 5])], joinL [], joinRL [(6, [Slot.bool 21], true), (8, [Slot.bool 46], true)]⟩ [(.string s)] H R (Eq.mp (by unfold Lines.W; kernel_rfl) h)

/-- spec.plainBlock -/
def plainBlock.W (raw : ByteArray) (H : Heap) (R : Value → Heap → Prop) : Prop :=
  callW PP f_spec_Lines #[(.string raw)] H pSlc fun (x1 : (Option Addr × Nat × Nat)) H2 =>
  callW PP f_spec_common #[(.slice x1.1 x1.2.1 x1.2.2)] H2 (pInt .i64) fun (x3 : Int) H4 =>
  forkB (decide (x3 > 0))
  ((IxOk x1.1 0 x1.2.1) ∧
    loadW H4 false 1 ⟨(blkOf x1.1), (offOf x1.1 + (0 : Int).toNat * 1), none⟩ pStr fun (x5 : ByteArray) =>
    (IxOk x1.1 0 x1.2.1) ∧
    loadW H4 false 1 ⟨(blkOf x1.1), (offOf x1.1 + (0 : Int).toNat * 1), none⟩ pStr fun (x6 : ByteArray) =>
    callW PP f_spec_leading #[(.string x5)] H4 (pInt .i64) fun (x7 : Int) H8 =>
    loadC H8 false 1 ⟨(blkOf x1.1), (offOf x1.1 + (0 : Int).toNat * 1), none⟩ = some (.string x6) ∧
    forkB (decide (x7 < ((x6.size : Nat) : Int)))
    (retK (some [(.bool false)]) H8 R)
    (loopK (Int × Unit) (1, ()) H8 fun z9 H10 next11 =>
      forkB (decide (z9.1 < ((x1.2.1 : Nat) : Int)))
      ((IxOk x1.1 z9.1 x1.2.1) ∧
        loadW H10 false 1 ⟨(blkOf x1.1), (offOf x1.1 + z9.1.toNat * 1), none⟩ pStr fun (x12 : ByteArray) =>
        (IxOk x1.1 z9.1 x1.2.1) ∧
        loadW H10 false 1 ⟨(blkOf x1.1), (offOf x1.1 + z9.1.toNat * 1), none⟩ pStr fun (x13 : ByteArray) =>
        callW PP f_spec_leading #[(.string x12)] H10 (pInt .i64) fun (x14 : Int) H15 =>
        loadC H15 false 1 ⟨(blkOf x1.1), (offOf x1.1 + z9.1.toNat * 1), none⟩ = some (.string x13) ∧
        forkB (x14 == ((x13.size : Nat) : Int))
        ((IxOk x1.1 z9.1 x1.2.1) ∧
          loadW H15 false 1 ⟨(blkOf x1.1), (offOf x1.1 + z9.1.toNat * 1), none⟩ pStr fun (x16 : ByteArray) =>
          forkB (decide (((x16.size : Nat) : Int) > 0))
          ((IxOk x1.1 z9.1 x1.2.1) ∧
            loadW H15 false 1 ⟨(blkOf x1.1), (offOf x1.1 + z9.1.toNat * 1), none⟩ pStr fun (x17 : ByteArray) =>
            forkB (decide (((x17.size : Nat) : Int) < x3))
            (retK (some [(.bool false)]) H15 R)
            (next11 ((IntKind.i64.wrap (z9.1 + 1)), ()) H15))
          (next11 ((IntKind.i64.wrap (z9.1 + 1)), ()) H15))
        (next11 ((IntKind.i64.wrap (z9.1 + 1)), ()) H15))
      (retK (some [(.bool true)]) H10 R)))
  (loopK (Int × Unit) (1, ()) H4 fun z18 H19 next20 =>
    forkB (decide (z18.1 < ((x1.2.1 : Nat) : Int)))
    ((IxOk x1.1 z18.1 x1.2.1) ∧
      loadW H19 false 1 ⟨(blkOf x1.1), (offOf x1.1 + z18.1.toNat * 1), none⟩ pStr fun (x21 : ByteArray) =>
      (IxOk x1.1 z18.1 x1.2.1) ∧
      loadW H19 false 1 ⟨(blkOf x1.1), (offOf x1.1 + z18.1.toNat * 1), none⟩ pStr fun (x22 : ByteArray) =>
      callW PP f_spec_leading #[(.string x21)] H19 (pInt .i64) fun (x23 : Int) H24 =>
      loadC H24 false 1 ⟨(blkOf x1.1), (offOf x1.1 + z18.1.toNat * 1), none⟩ = some (.string x22) ∧
      forkB (x23 == ((x22.size : Nat) : Int))
      ((IxOk x1.1 z18.1 x1.2.1) ∧
        loadW H24 false 1 ⟨(blkOf x1.1), (offOf x1.1 + z18.1.toNat * 1), none⟩ pStr fun (x25 : ByteArray) =>
        forkB (decide (((x25.size : Nat) : Int) > 0))
        ((IxOk x1.1 z18.1 x1.2.1) ∧
          loadW H24 false 1 ⟨(blkOf x1.1), (offOf x1.1 + z18.1.toNat * 1), none⟩ pStr fun (x26 : ByteArray) =>
          forkB (decide (((x26.size : Nat) : Int) < x3))
          (retK (some [(.bool false)]) H24 R)
          (next20 ((IntKind.i64.wrap (z18.1 + 1)), ()) H24))
        (next20 ((IntKind.i64.wrap (z18.1 + 1)), ()) H24))
      (next20 ((IntKind.i64.wrap (z18.1 + 1)), ()) H24))
    (retK (some [(.bool true)]) H19 R))
theorem plainBlock.enter (raw : ByteArray) (H : Heap) (R : Value → Heap → Prop) (h : plainBlock.W raw H R) : Fn PP f_spec_plainBlock #[(.string raw)] H R :=
  fun_sound mixed Tryz.func79 ⟨patL [(7, pSlc), (9, (pInt .i64)), (15, pStr), (16, (pInt .i64)), (19, pStr), (32, pStr), (33, (pInt .i64)), (37, pStr), (44, pStr), (52, pStr)], loopL [(0, [Slot.int .i64 5])], joinL [], joinL [], joinRL []⟩ [(.string raw)] H R (Eq.mp (by unfold plainBlock.W; kernel_rfl) h)

/-- spec.BlockValue -/
def BlockValue.W (raw : ByteArray) (H : Heap) (R : Value → Heap → Prop) : Prop :=
  callW PP f_spec_Lines #[(.string raw)] H pSlc fun (x1 : (Option Addr × Nat × Nat)) H2 =>
  callW PP f_spec_common #[(.slice x1.1 x1.2.1 x1.2.2)] H2 (pInt .i64) fun (x3 : Int) H4 =>
  loopK (Int × Unit) (1, ()) H4 fun z5 H6 next7 =>
  forkB (decide (z5.1 < ((x1.2.1 : Nat) : Int)))
  ((IxOk x1.1 z5.1 x1.2.1) ∧
    loadW H6 false 1 ⟨(blkOf x1.1), (offOf x1.1 + z5.1.toNat * 1), none⟩ pStr fun (x8 : ByteArray) =>
    (IxOk x1.1 z5.1 x1.2.1) ∧
    loadW H6 false 1 ⟨(blkOf x1.1), (offOf x1.1 + z5.1.toNat * 1), none⟩ pStr fun (x9 : ByteArray) =>
    ((0 : Int) ≤ (if ((x9.size : Nat) : Int) < x3 then ((x9.size : Nat) : Int) else x3) ∧ (if ((x9.size : Nat) : Int) < x3 then ((x9.size : Nat) : Int) else x3) ≤ ((x8.size : Nat) : Int)) ∧
    (IxOk x1.1 z5.1 x1.2.1) ∧
    storeW H6 ⟨(blkOf x1.1), (offOf x1.1 + z5.1.toNat * 1), none⟩ [(.string (x8.extract (if ((x9.size : Nat) : Int) < x3 then ((x9.size : Nat) : Int) else x3).toNat x8.size))] fun H10 =>
    next7 ((IntKind.i64.wrap (z5.1 + 1)), ()) H10)
  (joinK ((Option Addr × Nat × Nat) × Unit) (fun J11 =>
    loopK ((Option Addr × Nat × Nat) × Unit) ((x1.1, x1.2.1, x1.2.2), ()) H6 fun z14 H15 next16 =>
      forkB (decide (((z14.1.2.1 : Nat) : Int) > 0))
      ((IxOk z14.1.1 0 z14.1.2.1) ∧
        loadW H15 false 1 ⟨(blkOf z14.1.1), (offOf z14.1.1 + (0 : Int).toNat * 1), none⟩ pStr fun (x17 : ByteArray) =>
        (IxOk z14.1.1 0 z14.1.2.1) ∧
        loadW H15 false 1 ⟨(blkOf z14.1.1), (offOf z14.1.1 + (0 : Int).toNat * 1), none⟩ pStr fun (x18 : ByteArray) =>
        callW PP f_spec_leading #[(.string x17)] H15 (pInt .i64) fun (x19 : Int) H20 =>
        loadC H20 false 1 ⟨(blkOf z14.1.1), (offOf z14.1.1 + (0 : Int).toNat * 1), none⟩ = some (.string x18) ∧
        forkB (x19 == ((x18.size : Nat) : Int))
        (((0 : Int) ≤ 1 ∧ 1 ≤ ((z14.1.2.1 : Nat) : Int)) ∧
          next16 (((slcA z14.1.1 z14.1.2.2 (1 : Int).toNat 1), (z14.1.2.1 - (1 : Int).toNat), (z14.1.2.2 - (1 : Int).toNat)), ()) H20)
        (J11 ((z14.1.1, z14.1.2.1, z14.1.2.2), ()) H20))
      (J11 ((z14.1.1, z14.1.2.1, z14.1.2.2), ()) H15)) fun y12 H13 =>
    joinK ((Option Addr × Nat × Nat) × Unit) (fun J21 =>
    loopK ((Option Addr × Nat × Nat) × Unit) ((y12.1.1, y12.1.2.1, y12.1.2.2), ()) H13 fun z24 H25 next26 =>
      forkB (decide (((z24.1.2.1 : Nat) : Int) > 0))
      ((IxOk z24.1.1 (IntKind.i64.wrap (((z24.1.2.1 : Nat) : Int) - 1)) z24.1.2.1) ∧
        loadW H25 false 1 ⟨(blkOf z24.1.1), (offOf z24.1.1 + (IntKind.i64.wrap (((z24.1.2.1 : Nat) : Int) - 1)).toNat * 1), none⟩ pStr fun (x27 : ByteArray) =>
        (IxOk z24.1.1 (IntKind.i64.wrap (((z24.1.2.1 : Nat) : Int) - 1)) z24.1.2.1) ∧
        loadW H25 false 1 ⟨(blkOf z24.1.1), (offOf z24.1.1 + (IntKind.i64.wrap (((z24.1.2.1 : Nat) : Int) - 1)).toNat * 1), none⟩ pStr fun (x28 : ByteArray) =>
        callW PP f_spec_leading #[(.string x27)] H25 (pInt .i64) fun (x29 : Int) H30 =>
        loadC H30 false 1 ⟨(blkOf z24.1.1), (offOf z24.1.1 + (IntKind.i64.wrap (((z24.1.2.1 : Nat) : Int) - 1)).toNat * 1), none⟩ = some (.string x28) ∧
        forkB (x29 == ((x28.size : Nat) : Int))
        (((0 : Int) ≤ (IntKind.i64.wrap (((z24.1.2.1 : Nat) : Int) - 1)) ∧ (IntKind.i64.wrap (((z24.1.2.1 : Nat) : Int) - 1)) ≤ ((z24.1.2.2 : Nat) : Int)) ∧
          next26 (((slcA z24.1.1 z24.1.2.2 0 1), (IntKind.i64.wrap (((z24.1.2.1 : Nat) : Int) - 1)).toNat, z24.1.2.2), ()) H30)
        (J21 ((z24.1.1, z24.1.2.1, z24.1.2.2), ()) H30))
      (J21 ((z24.1.1, z24.1.2.1, z24.1.2.2), ()) H25)) fun y22 H23 =>
    loopK (ByteArray × Int × Unit) ((bs []), 0, ()) H23 fun z31 H32 next33 =>
    forkB (decide (z31.2.1 < ((y22.1.2.1 : Nat) : Int)))
    (joinK (ByteArray × Unit) (fun J34 =>
      forkB (decide (z31.2.1 > 0))
        ((((z31.1.size + (bs [10]).size : Nat) : Int) ≤ 9223372036854775807) ∧
          J34 ((z31.1 ++ (bs [10])), ()) H32)
        (J34 (z31.1, ()) H32)) fun y35 H36 =>
      (IxOk y22.1.1 z31.2.1 y22.1.2.1) ∧
      loadW H36 false 1 ⟨(blkOf y22.1.1), (offOf y22.1.1 + z31.2.1.toNat * 1), none⟩ pStr fun (x37 : ByteArray) =>
      (((y35.1.size + x37.size : Nat) : Int) ≤ 9223372036854775807) ∧
      next33 ((y35.1 ++ x37), (IntKind.i64.wrap (z31.2.1 + 1)), ()) H36)
    (retK (some [(.string z31.1)]) H32 R))
theorem BlockValue.enter (raw : ByteArray) (H : Heap) (R : Value → Heap → Prop) (h : BlockValue.W raw H R) : Fn PP f_spec_BlockValue #[(.string raw)] H R :=
  fun_sound mixed Tryz.func78 ⟨patL [(9, pSlc), (11, (pInt .i64)), (23, pStr), (28, pStr), (39, pStr), (40, (pInt .i64)), (43, pStr), (58, pStr), (59, (pInt .i64)), (65, pStr), (88, pStr)], loopL [(0, [Slot.int .i64 5]), (2, [Slot.slc 3]), (4, [Slot.slc 3]), (6, [Slot.str 6, Slot.int .i64 7])], joinL [(81, [Slot.str 6])], joinL [(2, [Slot.slc 3]), (4, [Slot.slc 3])], joinRL []⟩ [(.string raw)] H R (Eq.mp (by unfold BlockValue.W; kernel_rfl) h)

/-- (*spec.lexer).fail -/
def lexFail.W (x : Nat) (H : Heap) (R : Value → Heap → Prop) : Prop :=
  storeW H ⟨x, 3, none⟩ [(.bool true)] fun H1 =>
  retK (some []) H1 R
theorem lexFail.enter (x : Nat) (H : Heap) (R : Value → Heap → Prop) (h : lexFail.W x H R) : Fn PP f_spec_lexer_fail #[(.pointer (some ⟨x, 0, none⟩))] H R :=
  fun_sound mixed Tryz.func223 ⟨patL [], loopL [], joinL [], joinL [], joinRL []⟩ [(.pointer (some ⟨x, 0, none⟩))] H R (Eq.mp (by unfold lexFail.W; kernel_rfl) h)

/-- (*spec.lexer).add -/
def lexAdd.W (x : Nat) (kind : Int) (to : Int) (value : ByteArray) (H : Heap) (R : Value → Heap → Prop) : Prop :=
  loadW H false 1 ⟨x, 2, none⟩ pSlc fun (x1 : (Option Addr × Nat × Nat)) =>
  loadW H false 1 ⟨x, 1, none⟩ (pInt .i64) fun (x2 : Int) =>
  newB H (.cells #[(.int .i64 kind), (.string value), (.int .i64 x2), (.int .i64 to)] t_impl_Token) fun b3 H4 =>
  loadC H4 false 1 ⟨x, 2, none⟩ = some (.slice x1.1 x1.2.1 x1.2.2) ∧
  appK H4 t_impl_Token 4 40 x1.1 x1.2.1 x1.2.2 (some ⟨b3, 0, none⟩) 1 fun a5 c6 H7 =>
  storeW H7 ⟨x, 2, none⟩ [(.slice a5 (x1.2.1 + 1) c6)] fun H8 =>
  storeW H8 ⟨x, 1, none⟩ [(.int .i64 to)] fun H9 =>
  retK (some []) H9 R
theorem lexAdd.enter (x : Nat) (kind : Int) (to : Int) (value : ByteArray) (H : Heap) (R : Value → Heap → Prop) (h : lexAdd.W x kind to value H R) : Fn PP f_spec_lexer_add #[(.pointer (some ⟨x, 0, none⟩)), (.int .i64 kind), (.int .i64 to), (.string value)] H R :=
  fun_sound mixed Tryz.func217 ⟨patL [(12, pSlc), (18, (pInt .i64))], loopL [], joinL [], joinL [], joinRL []⟩ [(.pointer (some ⟨x, 0, none⟩)), (.int .i64 kind), (.int .i64 to), (.string value)] H R (Eq.mp (by unfold lexAdd.W; kernel_rfl) h)

/-- (*spec.lexer).next -/
def lexNext.W (x : Nat) (i : Int) (H : Heap) (R : Value → Heap → Prop) : Prop :=
  loadW H false 1 ⟨x, 0, none⟩ pStr fun (x1 : ByteArray) =>
  forkB (decide (i ≥ ((x1.size : Nat) : Int)))
  (retK (some [(.int .u8 0)]) H R)
  (loadW H false 1 ⟨x, 0, none⟩ pStr fun (x2 : ByteArray) =>
    ((0 : Int) ≤ i ∧ i < ((x2.size : Nat) : Int)) ∧
    retK (some [(.int .u8 (bt x2 i))]) H R)
theorem lexNext.enter (x : Nat) (i : Int) (H : Heap) (R : Value → Heap → Prop) (h : lexNext.W x i H R) : Fn PP f_spec_lexer_next #[(.pointer (some ⟨x, 0, none⟩)), (.int .i64 i)] H R :=
  fun_sound mixed Tryz.func219 ⟨patL [(9, pStr), (15, pStr)], loopL [], joinL [], joinL [], joinRL []⟩ [(.pointer (some ⟨x, 0, none⟩)), (.int .i64 i)] H R (Eq.mp (by unfold lexNext.W; kernel_rfl) h)

/-- (*spec.lexer).comment -/
def lexComment.W (x : Nat) (H : Heap) (R : Value → Heap → Prop) : Prop :=
  loopK (Unit) (()) H fun z1 H2 next3 =>
  loadW H2 false 1 ⟨x, 1, none⟩ (pInt .i64) fun (x4 : Int) =>
  loadW H2 false 1 ⟨x, 0, none⟩ pStr fun (x5 : ByteArray) =>
  forkB (decide (x4 < ((x5.size : Nat) : Int)))
  (loadW H2 false 1 ⟨x, 0, none⟩ pStr fun (x6 : ByteArray) =>
    loadW H2 false 1 ⟨x, 1, none⟩ (pInt .i64) fun (x7 : Int) =>
    ((0 : Int) ≤ x7 ∧ x7 < ((x6.size : Nat) : Int)) ∧
    forkB ((bt x6 x7) != 10)
    (loadW H2 false 1 ⟨x, 0, none⟩ pStr fun (x8 : ByteArray) =>
      loadW H2 false 1 ⟨x, 1, none⟩ (pInt .i64) fun (x9 : Int) =>
      ((0 : Int) ≤ x9 ∧ x9 < ((x8.size : Nat) : Int)) ∧
      forkB ((bt x8 x9) != 13)
      (loadW H2 false 1 ⟨x, 0, none⟩ pStr fun (x10 : ByteArray) =>
        loadW H2 false 1 ⟨x, 1, none⟩ (pInt .i64) fun (x11 : Int) =>
        callW PP f_spec_Point #[(.string x10), (.int .i64 x11)] H2 ⟨Int × Int, fun x => (.tuple #[(.int .i64 x.1), (.int .i64 x.2)])⟩ fun (x12 : Int × Int) H13 =>
        forkB (x12.2 == 0)
        (storeW H13 ⟨x, 3, none⟩ [(.bool true)] fun H14 =>
          storeW H14 ⟨x, 4, none⟩ [(.bool true)] fun H15 =>
          retK (some []) H15 R)
        (callW PP f_spec_source #[(.int .i64 x12.1)] H13 ⟨Bool × Bool, fun x => (.tuple #[(.bool x.1), (.bool x.2)])⟩ fun (x16 : Bool × Bool) H17 =>
          loadW H17 false 1 ⟨x, 4, none⟩ pBool fun (x18 : Bool) =>
          forkB x18
          (storeW H17 ⟨x, 4, none⟩ [(.bool true)] fun H19 =>
            loadW H19 false 1 ⟨x, 1, none⟩ (pInt .i64) fun (x20 : Int) =>
            storeW H19 ⟨x, 1, none⟩ [(.int .i64 (IntKind.i64.wrap (x20 + x12.2)))] fun H21 =>
            next3 (()) H21)
          (forkB (!x16.2)
            (storeW H17 ⟨x, 4, none⟩ [(.bool true)] fun H22 =>
              loadW H22 false 1 ⟨x, 1, none⟩ (pInt .i64) fun (x23 : Int) =>
              storeW H22 ⟨x, 1, none⟩ [(.int .i64 (IntKind.i64.wrap (x23 + x12.2)))] fun H24 =>
              next3 (()) H24)
            (forkB (!x16.1)
              (storeW H17 ⟨x, 4, none⟩ [(.bool true)] fun H25 =>
                loadW H25 false 1 ⟨x, 1, none⟩ (pInt .i64) fun (x26 : Int) =>
                storeW H25 ⟨x, 1, none⟩ [(.int .i64 (IntKind.i64.wrap (x26 + x12.2)))] fun H27 =>
                next3 (()) H27)
              (storeW H17 ⟨x, 4, none⟩ [(.bool (decide (x12.1 ≥ 128)))] fun H28 =>
                loadW H28 false 1 ⟨x, 1, none⟩ (pInt .i64) fun (x29 : Int) =>
                storeW H28 ⟨x, 1, none⟩ [(.int .i64 (IntKind.i64.wrap (x29 + x12.2)))] fun H30 =>
                next3 (()) H30)))))
      (retK (some []) H2 R))
    (retK (some []) H2 R))
  (retK (some []) H2 R)
theorem lexComment.enter (x : Nat) (H : Heap) (R : Value → Heap → Prop) (h : lexComment.W x H R) : Fn PP f_spec_lexer_comment #[(.pointer (some ⟨x, 0, none⟩))] H R :=
  fun_sound mixed Tryz.func216 ⟨patL [(9, (pInt .i64)), (13, pStr), (20, pStr), (24, (pInt .i64)), (32, pStr), (36, (pInt .i64)), (44, pStr), (48, (pInt .i64)), (49, ⟨Int × Int, fun x => (.tuple #[(.int .i64 x.1), (.int .i64 x.2)])⟩), (62, ⟨Bool × Bool, fun x => (.tuple #[(.bool x.1), (.bool x.2)])⟩), (69, pBool), (87, (pInt .i64))], loopL [(0, [])], joinL [], joinL [], joinRL []⟩ [(.pointer (some ⟨x, 0, none⟩))] H R (Eq.mp (by unfold lexComment.W; kernel_rfl) h)

/-- (*spec.lexer).digits -/
def lexDigits.W (x : Nat) (i : Int) (H : Heap) (R : Value → Heap → Prop) : Prop :=
  loopK (Int × Unit) (i, ()) H fun z1 H2 next3 =>
  callW PP f_spec_lexer_next #[(.pointer (some ⟨x, 0, none⟩)), (.int .i64 z1.1)] H2 (pInt .u8) fun (x4 : Int) H5 =>
  callW PP f_spec_isDigit #[(.int .u8 x4)] H5 pBool fun (x6 : Bool) H7 =>
  forkB x6
  (next3 ((IntKind.i64.wrap (z1.1 + 1)), ()) H7)
  (retK (some [(.int .i64 z1.1)]) H7 R)
theorem lexDigits.enter (x : Nat) (i : Int) (H : Heap) (R : Value → Heap → Prop) (h : lexDigits.W x i H R) : Fn PP f_spec_lexer_digits #[(.pointer (some ⟨x, 0, none⟩)), (.int .i64 i)] H R :=
  fun_sound mixed Tryz.func248 ⟨patL [(7, (pInt .u8)), (8, pBool)], loopL [(0, [Slot.int .i64 1])], joinL [], joinL [], joinRL []⟩ [(.pointer (some ⟨x, 0, none⟩)), (.int .i64 i)] H R (Eq.mp (by unfold lexDigits.W; kernel_rfl) h)

/-- (*spec.lexer).numeral -/
def lexNumeral.W (x : Nat) (i : Int) (H : Heap) (R : Value → Heap → Prop) : Prop :=
  callW PP f_spec_lexer_next #[(.pointer (some ⟨x, 0, none⟩)), (.int .i64 i)] H (pInt .u8) fun (x1 : Int) H2 =>
  joinK (Int × Unit) (fun J3 =>
  forkB (x1 == 45)
    (J3 ((IntKind.i64.wrap (i + 1)), ()) H2)
    (J3 (i, ()) H2)) fun y4 H5 =>
  callW PP f_spec_lexer_digits #[(.pointer (some ⟨x, 0, none⟩)), (.int .i64 y4.1)] H5 (pInt .i64) fun (x6 : Int) H7 =>
  joinPK (Bool × Unit) H7 (fun J8 =>
  forkB (x6 == y4.1)
    (J8 (true, ()) H7)
    (loadW H7 false 1 ⟨x, 0, none⟩ pStr fun (x10 : ByteArray) =>
      ((0 : Int) ≤ y4.1 ∧ y4.1 < ((x10.size : Nat) : Int)) ∧
      forkB ((bt x10 y4.1) == 48)
      (J8 ((decide (x6 > (IntKind.i64.wrap (y4.1 + 1)))), ()) H7)
      (J8 (false, ()) H7))) fun y9 =>
  forkB y9.1
  (retK (some [(.int .i64 0), (.int .i64 0)]) H7 R)
  (callW PP f_spec_lexer_next #[(.pointer (some ⟨x, 0, none⟩)), (.int .i64 x6)] H7 (pInt .u8) fun (x11 : Int) H12 =>
    joinK (Int × Int × Unit) (fun J13 =>
    forkB (x11 == 46)
      (callW PP f_spec_lexer_digits #[(.pointer (some ⟨x, 0, none⟩)), (.int .i64 (IntKind.i64.wrap (x6 + 1)))] H12 (pInt .i64) fun (x16 : Int) H17 =>
        forkB (x16 == (IntKind.i64.wrap (x6 + 1)))
        (retK (some [(.int .i64 0), (.int .i64 0)]) H17 R)
        (J13 (17, x16, ()) H17))
      (J13 (16, x6, ()) H12)) fun y14 H15 =>
    callW PP f_spec_lexer_next #[(.pointer (some ⟨x, 0, none⟩)), (.int .i64 y14.2.1)] H15 (pInt .u8) fun (x18 : Int) H19 =>
    joinPK (Bool × Unit) H19 (fun J20 =>
    forkB (x18 == 101)
      (J20 (true, ()) H19)
      (J20 ((x18 == 69), ()) H19)) fun y21 =>
    joinK (Int × Int × Unit) (fun J22 =>
    forkB y21.1
      (callW PP f_spec_lexer_next #[(.pointer (some ⟨x, 0, none⟩)), (.int .i64 (IntKind.i64.wrap (y14.2.1 + 1)))] H19 (pInt .u8) fun (x25 : Int) H26 =>
        joinPK (Bool × Unit) H26 (fun J27 =>
        forkB (x25 == 43)
          (J27 (true, ()) H26)
          (J27 ((x25 == 45), ()) H26)) fun y28 =>
        joinK (Int × Unit) (fun J29 =>
        forkB y28.1
          (J29 ((IntKind.i64.wrap ((IntKind.i64.wrap (y14.2.1 + 1)) + 1)), ()) H26)
          (J29 ((IntKind.i64.wrap (y14.2.1 + 1)), ()) H26)) fun y30 H31 =>
        callW PP f_spec_lexer_digits #[(.pointer (some ⟨x, 0, none⟩)), (.int .i64 y30.1)] H31 (pInt .i64) fun (x32 : Int) H33 =>
        forkB (x32 == y30.1)
        (retK (some [(.int .i64 0), (.int .i64 0)]) H33 R)
        (J22 (17, x32, ()) H33))
      (J22 (y14.1, y14.2.1, ()) H19)) fun y23 H24 =>
    retK (some [(.int .i64 y23.1), (.int .i64 y23.2.1)]) H24 R)
theorem lexNumeral.enter (x : Nat) (i : Int) (H : Heap) (R : Value → Heap → Prop) (h : lexNumeral.W x i H R) : Fn PP f_spec_lexer_numeral #[(.pointer (some ⟨x, 0, none⟩)), (.int .i64 i)] H R :=
  fun_sound mixed Tryz.func237 ⟨patL [(10, (pInt .u8)), (16, (pInt .i64)), (24, pStr), (37, (pInt .u8)), (44, (pInt .i64)), (50, (pInt .u8)), (61, (pInt .u8)), (72, (pInt .i64))], loopL [], joinL [(11, [Slot.int .i64 1]), (38, [Slot.int .i64 4, Slot.int .i64 5]), (56, [Slot.int .i64 4, Slot.int .i64 5]), (67, [Slot.int .i64 1])], joinL [], joinRL [(4, [Slot.bool 34], true), (13, [Slot.bool 56], true), (17, [Slot.bool 67], true)]⟩ [(.pointer (some ⟨x, 0, none⟩)), (.int .i64 i)] H R (Eq.mp (by unfold lexNumeral.W; kernel_rfl) h)

/-- (*spec.lexer).number -/
def lexNumber.W (x : Nat) (H : Heap) (R : Value → Heap → Prop) : Prop :=
  loadW H false 1 ⟨x, 1, none⟩ (pInt .i64) fun (x1 : Int) =>
  callW PP f_spec_lexer_numeral #[(.pointer (some ⟨x, 0, none⟩)), (.int .i64 x1)] H ⟨Int × Int, fun x => (.tuple #[(.int .i64 x.1), (.int .i64 x.2)])⟩ fun (x2 : Int × Int) H3 =>
  forkB (x2.1 == 0)
  (callW PP f_spec_lexer_fail #[(.pointer (some ⟨x, 0, none⟩))] H3 ⟨Unit, fun _ => (.tuple #[])⟩ fun (_ : Unit) H5 =>
    retK (some []) H5 R)
  (callW PP f_spec_lexer_next #[(.pointer (some ⟨x, 0, none⟩)), (.int .i64 x2.2)] H3 (pInt .u8) fun (x6 : Int) H7 =>
    joinK (Bool × Unit) (fun J8 =>
    forkB (x6 == 46)
      (J8 (true, ()) H7)
      (callW PP f_spec_isBegin #[(.int .u8 x6)] H7 pBool fun (x11 : Bool) H12 =>
        J8 (x11, ()) H12)) fun y9 H10 =>
    forkB y9.1
    (storeW H10 ⟨x, 4, none⟩ [(.bool true)] fun H13 =>
      callW PP f_spec_lexer_fail #[(.pointer (some ⟨x, 0, none⟩))] H13 ⟨Unit, fun _ => (.tuple #[])⟩ fun (_ : Unit) H15 =>
      retK (some []) H15 R)
    (loadW H10 false 1 ⟨x, 0, none⟩ pStr fun (x16 : ByteArray) =>
      loadW H10 false 1 ⟨x, 1, none⟩ (pInt .i64) fun (x17 : Int) =>
      (((0 : Int) ≤ x2.2 ∧ x2.2 ≤ ((x16.size : Nat) : Int)) ∧ ((0 : Int) ≤ x17 ∧ x17 ≤ ((x2.2.toNat : Nat) : Int))) ∧
      callW PP f_spec_lexer_add #[(.pointer (some ⟨x, 0, none⟩)), (.int .i64 x2.1), (.int .i64 x2.2), (.string (x16.extract x17.toNat x2.2.toNat))] H10 ⟨Unit, fun _ => (.tuple #[])⟩ fun (_ : Unit) H19 =>
      retK (some []) H19 R))
theorem lexNumber.enter (x : Nat) (H : Heap) (R : Value → Heap → Prop) (h : lexNumber.W x H R) : Fn PP f_spec_lexer_number #[(.pointer (some ⟨x, 0, none⟩))] H R :=
  fun_sound mixed Tryz.func220 ⟨patL [(10, (pInt .i64)), (11, ⟨Int × Int, fun x => (.tuple #[(.int .i64 x.1), (.int .i64 x.2)])⟩), (17, ⟨Unit, fun _ => (.tuple #[])⟩), (20, (pInt .u8)), (25, pBool), (31, ⟨Unit, fun _ => (.tuple #[])⟩), (38, pStr), (42, (pInt .i64)), (45, ⟨Unit, fun _ => (.tuple #[])⟩)], loopL [], joinL [], joinL [], joinRL [(4, [Slot.bool 26], false)]⟩ [(.pointer (some ⟨x, 0, none⟩))] H R (Eq.mp (by unfold lexNumber.W; kernel_rfl) h)

/-- (*spec.lexer).escape -/
def lexEscape.W (x : Nat) (i : Int) (H : Heap) (R : Value → Heap → Prop) : Prop :=
  callW PP f_spec_lexer_next #[(.pointer (some ⟨x, 0, none⟩)), (.int .i64 (IntKind.i64.wrap (i + 1)))] H (pInt .u8) fun (x1 : Int) H2 =>
  loopK (Int × Unit) (0, ()) H2 fun z3 H4 next5 =>
  forkB (decide (z3.1 < (((bs [34, 92, 47, 98, 102, 110, 114, 116]).size : Nat) : Int)))
  (((0 : Int) ≤ z3.1 ∧ z3.1 < (((bs [34, 92, 47, 98, 102, 110, 114, 116]).size : Nat) : Int)) ∧
    forkB ((bt (bs [34, 92, 47, 98, 102, 110, 114, 116]) z3.1) == x1)
    ((((0 : Int) ≤ (IntKind.i64.wrap (z3.1 + 1)) ∧ (IntKind.i64.wrap (z3.1 + 1)) ≤ (((bs [34, 92, 47, 8, 12, 10, 13, 9]).size : Nat) : Int)) ∧ ((0 : Int) ≤ z3.1 ∧ z3.1 ≤ (((IntKind.i64.wrap (z3.1 + 1)).toNat : Nat) : Int))) ∧
      retK (some [(.string ((bs [34, 92, 47, 8, 12, 10, 13, 9]).extract z3.1.toNat (IntKind.i64.wrap (z3.1 + 1)).toNat)), (.int .i64 2)]) H4 R)
    (next5 ((IntKind.i64.wrap (z3.1 + 1)), ()) H4))
  (forkB (x1 != 117)
    (retK (some [(.string (bs [])), (.int .i64 0)]) H4 R)
    (loopK (Int × Int × Unit) (0, (IntKind.i64.wrap (i + 2)), ()) H4 fun z6 H7 next8 =>
      forkB (decide (z6.2.1 < (IntKind.i64.wrap (i + 6))))
      (callW PP f_spec_lexer_next #[(.pointer (some ⟨x, 0, none⟩)), (.int .i64 z6.2.1)] H7 (pInt .u8) fun (x9 : Int) H10 =>
        callW PP f_spec_hexadecimal #[(.int .u8 x9)] H10 (pInt .i64) fun (x11 : Int) H12 =>
        forkB (decide (x11 < 0))
        (loadW H12 false 1 ⟨x, 4, none⟩ pBool fun (x13 : Bool) =>
          forkB x13
          (storeW H12 ⟨x, 4, none⟩ [(.bool true)] fun H14 =>
            retK (some [(.string (bs [])), (.int .i64 0)]) H14 R)
          (callW PP f_spec_lexer_next #[(.pointer (some ⟨x, 0, none⟩)), (.int .i64 z6.2.1)] H12 (pInt .u8) fun (x15 : Int) H16 =>
            storeW H16 ⟨x, 4, none⟩ [(.bool (x15 == 123))] fun H17 =>
            retK (some [(.string (bs [])), (.int .i64 0)]) H17 R))
        (next8 ((IntKind.i64.wrap ((IntKind.i64.wrap (16 * z6.1)) + x11)), (IntKind.i64.wrap (z6.2.1 + 1)), ()) H12))
      (joinPK (Bool × Unit) H7 (fun J18 =>
        forkB (decide (z6.1 ≥ 55296))
          (J18 ((decide (z6.1 < 57344)), ()) H7)
          (J18 (false, ()) H7)) fun y19 =>
        forkB y19.1
        (storeW H7 ⟨x, 4, none⟩ [(.bool true)] fun H20 =>
          retK (some [(.string (bs [])), (.int .i64 0)]) H20 R)
        (loadW H7 false 1 ⟨x, 4, none⟩ pBool fun (x21 : Bool) =>
          forkB x21
          (storeW H7 ⟨x, 4, none⟩ [(.bool true)] fun H22 =>
            callW PP f_spec_Encoded #[(.int .i64 z6.1)] H22 pStr fun (x23 : ByteArray) H24 =>
            retK (some [(.string x23), (.int .i64 6)]) H24 R)
          (storeW H7 ⟨x, 4, none⟩ [(.bool (z6.1 == 0))] fun H25 =>
            callW PP f_spec_Encoded #[(.int .i64 z6.1)] H25 pStr fun (x26 : ByteArray) H27 =>
            retK (some [(.string x26), (.int .i64 6)]) H27 R)))))
theorem lexEscape.enter (x : Nat) (i : Int) (H : Heap) (R : Value → Heap → Prop) (h : lexEscape.W x i H R) : Fn PP f_spec_lexer_escape #[(.pointer (some ⟨x, 0, none⟩)), (.int .i64 i)] H R :=
  fun_sound mixed Tryz.func238 ⟨patL [(16, (pInt .u8)), (45, (pInt .u8)), (46, (pInt .i64)), (53, pBool), (57, (pInt .u8)), (79, pBool), (87, pStr)], loopL [(0, [Slot.int .i64 9]), (2, [Slot.int .i64 10, Slot.int .i64 11])], joinL [], joinL [], joinRL [(20, [Slot.bool 71], true)]⟩ [(.pointer (some ⟨x, 0, none⟩)), (.int .i64 i)] H R (Eq.mp (by unfold lexEscape.W; kernel_rfl) h)

/-- (*spec.lexer).text -/
def lexText.W (x : Nat) (H : Heap) (R : Value → Heap → Prop) : Prop :=
  loadW H false 1 ⟨x, 1, none⟩ (pInt .i64) fun (x1 : Int) =>
  loopK (ByteArray × Int × Unit) ((bs []), (IntKind.i64.wrap (x1 + 1)), ()) H fun z2 H3 next4 =>
  loadW H3 false 1 ⟨x, 0, none⟩ pStr fun (x5 : ByteArray) =>
  forkB (decide (z2.2.1 < ((x5.size : Nat) : Int)))
  (loadW H3 false 1 ⟨x, 0, none⟩ pStr fun (x6 : ByteArray) =>
    ((0 : Int) ≤ z2.2.1 ∧ z2.2.1 < ((x6.size : Nat) : Int)) ∧
    forkB ((bt x6 z2.2.1) == 34)
    (callW PP f_spec_lexer_add #[(.pointer (some ⟨x, 0, none⟩)), (.int .i64 18), (.int .i64 (IntKind.i64.wrap (z2.2.1 + 1))), (.string z2.1)] H3 ⟨Unit, fun _ => (.tuple #[])⟩ fun (_ : Unit) H8 =>
      retK (some []) H8 R)
    (joinPK (Bool × Unit) H3 (fun J9 =>
      forkB ((bt x6 z2.2.1) == 10)
        (J9 (true, ()) H3)
        (J9 (((bt x6 z2.2.1) == 13), ()) H3)) fun y10 =>
      forkB y10.1
      (callW PP f_spec_lexer_fail #[(.pointer (some ⟨x, 0, none⟩))] H3 ⟨Unit, fun _ => (.tuple #[])⟩ fun (_ : Unit) H12 =>
        retK (some []) H12 R)
      (forkB ((bt x6 z2.2.1) == 92)
        (callW PP f_spec_lexer_escape #[(.pointer (some ⟨x, 0, none⟩)), (.int .i64 z2.2.1)] H3 ⟨ByteArray × Int, fun x => (.tuple #[(.string x.1), (.int .i64 x.2)])⟩ fun (x13 : ByteArray × Int) H14 =>
          forkB (x13.2 == 0)
          (callW PP f_spec_lexer_fail #[(.pointer (some ⟨x, 0, none⟩))] H14 ⟨Unit, fun _ => (.tuple #[])⟩ fun (_ : Unit) H16 =>
            retK (some []) H16 R)
          ((((z2.1.size + x13.1.size : Nat) : Int) ≤ 9223372036854775807) ∧
            next4 ((z2.1 ++ x13.1), (IntKind.i64.wrap (z2.2.1 + x13.2)), ()) H14))
        (loadW H3 false 1 ⟨x, 0, none⟩ pStr fun (x17 : ByteArray) =>
          callW PP f_spec_Point #[(.string x17), (.int .i64 z2.2.1)] H3 ⟨Int × Int, fun x => (.tuple #[(.int .i64 x.1), (.int .i64 x.2)])⟩ fun (x18 : Int × Int) H19 =>
          callW PP f_spec_source #[(.int .i64 x18.1)] H19 ⟨Bool × Bool, fun x => (.tuple #[(.bool x.1), (.bool x.2)])⟩ fun (x20 : Bool × Bool) H21 =>
          joinPK (Bool × Unit) H21 (fun J22 =>
          forkB (x18.2 == 0)
            (J22 (true, ()) H21)
            (J22 ((!x20.1), ()) H21)) fun y23 =>
          forkB y23.1
          (loadW H21 false 1 ⟨x, 4, none⟩ pBool fun (x24 : Bool) =>
            forkB x24
            (storeW H21 ⟨x, 4, none⟩ [(.bool true)] fun H25 =>
              callW PP f_spec_lexer_fail #[(.pointer (some ⟨x, 0, none⟩))] H25 ⟨Unit, fun _ => (.tuple #[])⟩ fun (_ : Unit) H27 =>
              retK (some []) H27 R)
            (storeW H21 ⟨x, 4, none⟩ [(.bool (x18.2 == 0))] fun H28 =>
              callW PP f_spec_lexer_fail #[(.pointer (some ⟨x, 0, none⟩))] H28 ⟨Unit, fun _ => (.tuple #[])⟩ fun (_ : Unit) H30 =>
              retK (some []) H30 R))
          (loadW H21 false 1 ⟨x, 4, none⟩ pBool fun (x31 : Bool) =>
            forkB x31
            (storeW H21 ⟨x, 4, none⟩ [(.bool true)] fun H32 =>
              loadW H32 false 1 ⟨x, 0, none⟩ pStr fun (x33 : ByteArray) =>
              (((0 : Int) ≤ (IntKind.i64.wrap (z2.2.1 + x18.2)) ∧ (IntKind.i64.wrap (z2.2.1 + x18.2)) ≤ ((x33.size : Nat) : Int)) ∧ ((0 : Int) ≤ z2.2.1 ∧ z2.2.1 ≤ (((IntKind.i64.wrap (z2.2.1 + x18.2)).toNat : Nat) : Int))) ∧
              (((z2.1.size + (x33.extract z2.2.1.toNat (IntKind.i64.wrap (z2.2.1 + x18.2)).toNat).size : Nat) : Int) ≤ 9223372036854775807) ∧
              next4 ((z2.1 ++ (x33.extract z2.2.1.toNat (IntKind.i64.wrap (z2.2.1 + x18.2)).toNat)), (IntKind.i64.wrap (z2.2.1 + x18.2)), ()) H32)
            (storeW H21 ⟨x, 4, none⟩ [(.bool (!x20.2))] fun H34 =>
              loadW H34 false 1 ⟨x, 0, none⟩ pStr fun (x35 : ByteArray) =>
              (((0 : Int) ≤ (IntKind.i64.wrap (z2.2.1 + x18.2)) ∧ (IntKind.i64.wrap (z2.2.1 + x18.2)) ≤ ((x35.size : Nat) : Int)) ∧ ((0 : Int) ≤ z2.2.1 ∧ z2.2.1 ≤ (((IntKind.i64.wrap (z2.2.1 + x18.2)).toNat : Nat) : Int))) ∧
              (((z2.1.size + (x35.extract z2.2.1.toNat (IntKind.i64.wrap (z2.2.1 + x18.2)).toNat).size : Nat) : Int) ≤ 9223372036854775807) ∧
              next4 ((z2.1 ++ (x35.extract z2.2.1.toNat (IntKind.i64.wrap (z2.2.1 + x18.2)).toNat)), (IntKind.i64.wrap (z2.2.1 + x18.2)), ()) H34))))))
  (callW PP f_spec_lexer_fail #[(.pointer (some ⟨x, 0, none⟩))] H3 ⟨Unit, fun _ => (.tuple #[])⟩ fun (_ : Unit) H37 =>
    retK (some []) H37 R)
theorem lexText.enter (x : Nat) (H : Heap) (R : Value → Heap → Prop) (h : lexText.W x H R) : Fn PP f_spec_lexer_text #[(.pointer (some ⟨x, 0, none⟩))] H R :=
  fun_sound mixed Tryz.func222 ⟨patL [(14, (pInt .i64)), (20, pStr), (26, pStr), (33, pStr), (35, ⟨Int × Int, fun x => (.tuple #[(.int .i64 x.1), (.int .i64 x.2)])⟩), (40, ⟨Bool × Bool, fun x => (.tuple #[(.bool x.1), (.bool x.2)])⟩), (53, pBool), (61, ⟨Unit, fun _ => (.tuple #[])⟩), (66, pBool), (77, pStr), (94, ⟨Unit, fun _ => (.tuple #[])⟩), (103, ⟨Unit, fun _ => (.tuple #[])⟩), (110, ⟨ByteArray × Int, fun x => (.tuple #[(.string x.1), (.int .i64 x.2)])⟩), (116, ⟨Unit, fun _ => (.tuple #[])⟩), (124, ⟨Unit, fun _ => (.tuple #[])⟩)], loopL [(0, [Slot.str 2, Slot.int .i64 3])], joinL [], joinL [], joinRL [(6, [Slot.bool 48], true), (13, [Slot.bool 95], true)]⟩ [(.pointer (some ⟨x, 0, none⟩))] H R (Eq.mp (by unfold lexText.W; kernel_rfl) h)

/-- (*spec.lexer).block -/
def lexBlock.W (x : Nat) (H : Heap) (R : Value → Heap → Prop) : Prop :=
  loadW H false 1 ⟨x, 1, none⟩ (pInt .i64) fun (x1 : Int) =>
  loopK (ByteArray × Int × Unit) ((bs []), (IntKind.i64.wrap (x1 + 3)), ()) H fun z2 H3 next4 =>
  loadW H3 false 1 ⟨x, 0, none⟩ pStr fun (x5 : ByteArray) =>
  forkB (decide (z2.2.1 < ((x5.size : Nat) : Int)))
  (loadW H3 false 1 ⟨x, 0, none⟩ pStr fun (x6 : ByteArray) =>
    callW PP f_spec_starts #[(.string x6), (.int .i64 z2.2.1), (.string (bs [34, 34, 34]))] H3 pBool fun (x7 : Bool) H8 =>
    forkB x7
    (loadW H8 false 1 ⟨x, 4, none⟩ pBool fun (x9 : Bool) =>
      forkB x9
      (storeW H8 ⟨x, 4, none⟩ [(.bool true)] fun H10 =>
        callW PP f_spec_BlockValue #[(.string z2.1)] H10 pStr fun (x11 : ByteArray) H12 =>
        callW PP f_spec_lexer_add #[(.pointer (some ⟨x, 0, none⟩)), (.int .i64 19), (.int .i64 (IntKind.i64.wrap (z2.2.1 + 3))), (.string x11)] H12 ⟨Unit, fun _ => (.tuple #[])⟩ fun (_ : Unit) H14 =>
        retK (some []) H14 R)
      (callW PP f_spec_plainBlock #[(.string z2.1)] H8 pBool fun (x15 : Bool) H16 =>
        storeW H16 ⟨x, 4, none⟩ [(.bool (!x15))] fun H17 =>
        callW PP f_spec_BlockValue #[(.string z2.1)] H17 pStr fun (x18 : ByteArray) H19 =>
        callW PP f_spec_lexer_add #[(.pointer (some ⟨x, 0, none⟩)), (.int .i64 19), (.int .i64 (IntKind.i64.wrap (z2.2.1 + 3))), (.string x18)] H19 ⟨Unit, fun _ => (.tuple #[])⟩ fun (_ : Unit) H21 =>
        retK (some []) H21 R))
    (loadW H8 false 1 ⟨x, 0, none⟩ pStr fun (x22 : ByteArray) =>
      callW PP f_spec_starts #[(.string x22), (.int .i64 z2.2.1), (.string (bs [92, 34, 34, 34]))] H8 pBool fun (x23 : Bool) H24 =>
      forkB x23
      (storeW H24 ⟨x, 4, none⟩ [(.bool true)] fun H25 =>
        (((z2.1.size + (bs [34, 34, 34]).size : Nat) : Int) ≤ 9223372036854775807) ∧
        next4 ((z2.1 ++ (bs [34, 34, 34])), (IntKind.i64.wrap (z2.2.1 + 4)), ()) H25)
      (loadW H24 false 1 ⟨x, 0, none⟩ pStr fun (x26 : ByteArray) =>
        callW PP f_spec_Point #[(.string x26), (.int .i64 z2.2.1)] H24 ⟨Int × Int, fun x => (.tuple #[(.int .i64 x.1), (.int .i64 x.2)])⟩ fun (x27 : Int × Int) H28 =>
        callW PP f_spec_source #[(.int .i64 x27.1)] H28 ⟨Bool × Bool, fun x => (.tuple #[(.bool x.1), (.bool x.2)])⟩ fun (x29 : Bool × Bool) H30 =>
        joinPK (Bool × Unit) H30 (fun J31 =>
        forkB (x27.2 == 0)
          (J31 (true, ()) H30)
          (J31 ((!x29.1), ()) H30)) fun y32 =>
        forkB y32.1
        (loadW H30 false 1 ⟨x, 4, none⟩ pBool fun (x33 : Bool) =>
          forkB x33
          (storeW H30 ⟨x, 4, none⟩ [(.bool true)] fun H34 =>
            callW PP f_spec_lexer_fail #[(.pointer (some ⟨x, 0, none⟩))] H34 ⟨Unit, fun _ => (.tuple #[])⟩ fun (_ : Unit) H36 =>
            retK (some []) H36 R)
          (storeW H30 ⟨x, 4, none⟩ [(.bool (x27.2 == 0))] fun H37 =>
            callW PP f_spec_lexer_fail #[(.pointer (some ⟨x, 0, none⟩))] H37 ⟨Unit, fun _ => (.tuple #[])⟩ fun (_ : Unit) H39 =>
            retK (some []) H39 R))
        (loadW H30 false 1 ⟨x, 4, none⟩ pBool fun (x40 : Bool) =>
          forkB x40
          (storeW H30 ⟨x, 4, none⟩ [(.bool true)] fun H41 =>
            loadW H41 false 1 ⟨x, 0, none⟩ pStr fun (x42 : ByteArray) =>
            (((0 : Int) ≤ (IntKind.i64.wrap (z2.2.1 + x27.2)) ∧ (IntKind.i64.wrap (z2.2.1 + x27.2)) ≤ ((x42.size : Nat) : Int)) ∧ ((0 : Int) ≤ z2.2.1 ∧ z2.2.1 ≤ (((IntKind.i64.wrap (z2.2.1 + x27.2)).toNat : Nat) : Int))) ∧
            (((z2.1.size + (x42.extract z2.2.1.toNat (IntKind.i64.wrap (z2.2.1 + x27.2)).toNat).size : Nat) : Int) ≤ 9223372036854775807) ∧
            next4 ((z2.1 ++ (x42.extract z2.2.1.toNat (IntKind.i64.wrap (z2.2.1 + x27.2)).toNat)), (IntKind.i64.wrap (z2.2.1 + x27.2)), ()) H41)
          (storeW H30 ⟨x, 4, none⟩ [(.bool (!x29.2))] fun H43 =>
            loadW H43 false 1 ⟨x, 0, none⟩ pStr fun (x44 : ByteArray) =>
            (((0 : Int) ≤ (IntKind.i64.wrap (z2.2.1 + x27.2)) ∧ (IntKind.i64.wrap (z2.2.1 + x27.2)) ≤ ((x44.size : Nat) : Int)) ∧ ((0 : Int) ≤ z2.2.1 ∧ z2.2.1 ≤ (((IntKind.i64.wrap (z2.2.1 + x27.2)).toNat : Nat) : Int))) ∧
            (((z2.1.size + (x44.extract z2.2.1.toNat (IntKind.i64.wrap (z2.2.1 + x27.2)).toNat).size : Nat) : Int) ≤ 9223372036854775807) ∧
            next4 ((z2.1 ++ (x44.extract z2.2.1.toNat (IntKind.i64.wrap (z2.2.1 + x27.2)).toNat)), (IntKind.i64.wrap (z2.2.1 + x27.2)), ()) H43)))))
  (callW PP f_spec_lexer_fail #[(.pointer (some ⟨x, 0, none⟩))] H3 ⟨Unit, fun _ => (.tuple #[])⟩ fun (_ : Unit) H46 =>
    retK (some []) H46 R)
theorem lexBlock.enter (x : Nat) (H : Heap) (R : Value → Heap → Prop) (h : lexBlock.W x H R) : Fn PP f_spec_lexer_block #[(.pointer (some ⟨x, 0, none⟩))] H R :=
  fun_sound mixed Tryz.func221 ⟨patL [(11, (pInt .i64)), (17, pStr), (24, pStr), (26, ⟨Int × Int, fun x => (.tuple #[(.int .i64 x.1), (.int .i64 x.2)])⟩), (31, ⟨Bool × Bool, fun x => (.tuple #[(.bool x.1), (.bool x.2)])⟩), (44, pBool), (52, ⟨Unit, fun _ => (.tuple #[])⟩), (57, pBool), (68, pStr), (82, pStr), (84, pBool), (89, pBool), (92, pBool), (101, pStr), (102, ⟨Unit, fun _ => (.tuple #[])⟩), (107, pStr), (109, pBool), (118, ⟨Unit, fun _ => (.tuple #[])⟩)], loopL [(0, [Slot.str 2, Slot.int .i64 3])], joinL [], joinL [], joinRL [(5, [Slot.bool 39], true)]⟩ [(.pointer (some ⟨x, 0, none⟩))] H R (Eq.mp (by unfold lexBlock.W; kernel_rfl) h)

/-- (*spec.lexer).token -/
def lexToken.W (x : Nat) (H : Heap) (R : Value → Heap → Prop) : Prop :=
  loadW H false 1 ⟨x, 0, none⟩ pStr fun (x1 : ByteArray) =>
  loadW H false 1 ⟨x, 1, none⟩ (pInt .i64) fun (x2 : Int) =>
  ((0 : Int) ≤ x2 ∧ x2 < ((x1.size : Nat) : Int)) ∧
  joinPK (Bool × Unit) H (fun J3 =>
  forkB ((bt x1 x2) == 32)
    (J3 (true, ()) H)
    (forkB ((bt x1 x2) == 9)
      (J3 (true, ()) H)
      (forkB ((bt x1 x2) == 10)
        (J3 (true, ()) H)
        (forkB ((bt x1 x2) == 13)
          (J3 (true, ()) H)
          (J3 (((bt x1 x2) == 44), ()) H))))) fun y4 =>
  forkB y4.1
  (loadW H false 1 ⟨x, 1, none⟩ (pInt .i64) fun (x5 : Int) =>
    storeW H ⟨x, 1, none⟩ [(.int .i64 (IntKind.i64.wrap (x5 + 1)))] fun H6 =>
    retK (some []) H6 R)
  (loadW H false 1 ⟨x, 0, none⟩ pStr fun (x7 : ByteArray) =>
    loadW H false 1 ⟨x, 1, none⟩ (pInt .i64) fun (x8 : Int) =>
    callW PP f_spec_starts #[(.string x7), (.int .i64 x8), (.string (bs [239, 187, 191]))] H pBool fun (x9 : Bool) H10 =>
    forkB x9
    (storeW H10 ⟨x, 4, none⟩ [(.bool true)] fun H11 =>
      loadW H11 false 1 ⟨x, 1, none⟩ (pInt .i64) fun (x12 : Int) =>
      storeW H11 ⟨x, 1, none⟩ [(.int .i64 (IntKind.i64.wrap (x12 + 3)))] fun H13 =>
      retK (some []) H13 R)
    (forkB ((bt x1 x2) == 35)
      (callW PP f_spec_lexer_comment #[(.pointer (some ⟨x, 0, none⟩))] H10 ⟨Unit, fun _ => (.tuple #[])⟩ fun (_ : Unit) H15 =>
        retK (some []) H15 R)
      (loadW H10 false 1 ⟨x, 0, none⟩ pStr fun (x16 : ByteArray) =>
        loadW H10 false 1 ⟨x, 1, none⟩ (pInt .i64) fun (x17 : Int) =>
        callW PP f_spec_starts #[(.string x16), (.int .i64 x17), (.string (bs [46, 46, 46]))] H10 pBool fun (x18 : Bool) H19 =>
        forkB x18
        (loadW H19 false 1 ⟨x, 1, none⟩ (pInt .i64) fun (x20 : Int) =>
          callW PP f_spec_lexer_add #[(.pointer (some ⟨x, 0, none⟩)), (.int .i64 6), (.int .i64 (IntKind.i64.wrap (x20 + 3))), (.string (bs []))] H19 ⟨Unit, fun _ => (.tuple #[])⟩ fun (_ : Unit) H22 =>
          retK (some []) H22 R)
        (callW PP f_spec_sign #[(.int .u8 (bt x1 x2))] H19 (pInt .i64) fun (x23 : Int) H24 =>
          forkB (decide (x23 > 0))
          (loadW H24 false 1 ⟨x, 1, none⟩ (pInt .i64) fun (x25 : Int) =>
            callW PP f_spec_sign #[(.int .u8 (bt x1 x2))] H24 (pInt .i64) fun (x26 : Int) H27 =>
            loadC H27 false 1 ⟨x, 1, none⟩ = some (.int .i64 x25) ∧
            callW PP f_spec_lexer_add #[(.pointer (some ⟨x, 0, none⟩)), (.int .i64 x26), (.int .i64 (IntKind.i64.wrap (x25 + 1))), (.string (bs []))] H27 ⟨Unit, fun _ => (.tuple #[])⟩ fun (_ : Unit) H29 =>
            retK (some []) H29 R)
          (callW PP f_spec_isBegin #[(.int .u8 (bt x1 x2))] H24 pBool fun (x30 : Bool) H31 =>
            forkB x30
            (loadW H31 false 1 ⟨x, 1, none⟩ (pInt .i64) fun (x32 : Int) =>
              loopK (Int × Unit) (x32, ()) H31 fun z33 H34 next35 =>
              joinK (Bool × Unit) (fun J36 =>
              callW PP f_spec_lexer_next #[(.pointer (some ⟨x, 0, none⟩)), (.int .i64 z33.1)] H34 (pInt .u8) fun (x39 : Int) H40 =>
                callW PP f_spec_isBegin #[(.int .u8 x39)] H40 pBool fun (x41 : Bool) H42 =>
                forkB x41
                (J36 (true, ()) H42)
                (callW PP f_spec_lexer_next #[(.pointer (some ⟨x, 0, none⟩)), (.int .i64 z33.1)] H42 (pInt .u8) fun (x43 : Int) H44 =>
                  callW PP f_spec_isDigit #[(.int .u8 x43)] H44 pBool fun (x45 : Bool) H46 =>
                  J36 (x45, ()) H46)) fun y37 H38 =>
              forkB y37.1
              (next35 ((IntKind.i64.wrap (z33.1 + 1)), ()) H38)
              (loadW H38 false 1 ⟨x, 0, none⟩ pStr fun (x47 : ByteArray) =>
                loadW H38 false 1 ⟨x, 1, none⟩ (pInt .i64) fun (x48 : Int) =>
                (((0 : Int) ≤ z33.1 ∧ z33.1 ≤ ((x47.size : Nat) : Int)) ∧ ((0 : Int) ≤ x48 ∧ x48 ≤ ((z33.1.toNat : Nat) : Int))) ∧
                callW PP f_spec_lexer_add #[(.pointer (some ⟨x, 0, none⟩)), (.int .i64 15), (.int .i64 z33.1), (.string (x47.extract x48.toNat z33.1.toNat))] H38 ⟨Unit, fun _ => (.tuple #[])⟩ fun (_ : Unit) H50 =>
                retK (some []) H50 R))
            (joinK (Bool × Unit) (fun J51 =>
              forkB ((bt x1 x2) == 45)
                (J51 (true, ()) H31)
                (callW PP f_spec_isDigit #[(.int .u8 (bt x1 x2))] H31 pBool fun (x54 : Bool) H55 =>
                  J51 (x54, ()) H55)) fun y52 H53 =>
              forkB y52.1
              (callW PP f_spec_lexer_number #[(.pointer (some ⟨x, 0, none⟩))] H53 ⟨Unit, fun _ => (.tuple #[])⟩ fun (_ : Unit) H57 =>
                retK (some []) H57 R)
              (loadW H53 false 1 ⟨x, 0, none⟩ pStr fun (x58 : ByteArray) =>
                loadW H53 false 1 ⟨x, 1, none⟩ (pInt .i64) fun (x59 : Int) =>
                callW PP f_spec_starts #[(.string x58), (.int .i64 x59), (.string (bs [34, 34, 34]))] H53 pBool fun (x60 : Bool) H61 =>
                forkB x60
                (callW PP f_spec_lexer_block #[(.pointer (some ⟨x, 0, none⟩))] H61 ⟨Unit, fun _ => (.tuple #[])⟩ fun (_ : Unit) H63 =>
                  retK (some []) H63 R)
                (forkB ((bt x1 x2) == 34)
                  (callW PP f_spec_lexer_text #[(.pointer (some ⟨x, 0, none⟩))] H61 ⟨Unit, fun _ => (.tuple #[])⟩ fun (_ : Unit) H65 =>
                    retK (some []) H65 R)
                  (callW PP f_spec_lexer_fail #[(.pointer (some ⟨x, 0, none⟩))] H61 ⟨Unit, fun _ => (.tuple #[])⟩ fun (_ : Unit) H67 =>
                    retK (some []) H67 R)))))))))
theorem lexToken.enter (x : Nat) (H : Heap) (R : Value → Heap → Prop) (h : lexToken.W x H R) : Fn PP f_spec_lexer_token #[(.pointer (some ⟨x, 0, none⟩))] H R :=
  fun_sound mixed Tryz.func194 ⟨patL [(7, pStr), (11, (pInt .i64)), (14, ⟨Unit, fun _ => (.tuple #[])⟩), (37, (pInt .i64)), (45, pStr), (49, (pInt .i64)), (50, pBool), (57, (pInt .i64)), (65, ⟨Unit, fun _ => (.tuple #[])⟩), (70, pStr), (74, (pInt .i64)), (75, pBool), (80, (pInt .i64)), (82, ⟨Unit, fun _ => (.tuple #[])⟩), (85, (pInt .i64)), (89, (pInt .i64)), (93, (pInt .i64)), (95, ⟨Unit, fun _ => (.tuple #[])⟩), (98, pBool), (102, (pInt .i64)), (105, (pInt .u8)), (106, pBool), (110, (pInt .u8)), (111, pBool), (120, pStr), (124, (pInt .i64)), (127, ⟨Unit, fun _ => (.tuple #[])⟩), (133, pBool), (136, ⟨Unit, fun _ => (.tuple #[])⟩), (141, pStr), (145, (pInt .i64)), (146, pBool), (148, ⟨Unit, fun _ => (.tuple #[])⟩), (153, ⟨Unit, fun _ => (.tuple #[])⟩)], loopL [(1, [Slot.int .i64 3])], joinL [], joinL [], joinRL [(2, [Slot.bool 15], true), (15, [Slot.bool 112], false), (18, [Slot.bool 128], false)]⟩ [(.pointer (some ⟨x, 0, none⟩))] H R (Eq.mp (by unfold lexToken.W; kernel_rfl) h)

/-- spec.lexed -/
def lexed.W (s : ByteArray) (H : Heap) (R : Value → Heap → Prop) : Prop :=
  newB H (.cells #[(.string s), (.int .i64 0), (.slice none 0 0), (.bool false), (.bool false)] t_spec_lexer) fun b1 H2 =>
  loopK (Unit) (()) H2 fun z3 H4 next5 =>
  loadW H4 false 1 ⟨b1, 3, none⟩ pBool fun (x6 : Bool) =>
  forkB (!x6)
  (loadW H4 false 1 ⟨b1, 1, none⟩ (pInt .i64) fun (x7 : Int) =>
    forkB (decide (x7 < ((s.size : Nat) : Int)))
    (callW PP f_spec_lexer_token #[(.pointer (some ⟨b1, 0, none⟩))] H4 ⟨Unit, fun _ => (.tuple #[])⟩ fun (_ : Unit) H9 =>
      next5 (()) H9)
    (loadW H4 false 1 ⟨b1, 2, none⟩ pSlc fun (x10 : (Option Addr × Nat × Nat)) =>
      loadW H4 false 1 ⟨b1, 3, none⟩ pBool fun (x11 : Bool) =>
      loadW H4 false 1 ⟨b1, 4, none⟩ pBool fun (x12 : Bool) =>
      retK (some [(.slice x10.1 x10.2.1 x10.2.2), (.bool (!x11)), (.bool (!x12))]) H4 R))
  (loadW H4 false 1 ⟨b1, 2, none⟩ pSlc fun (x13 : (Option Addr × Nat × Nat)) =>
    loadW H4 false 1 ⟨b1, 3, none⟩ pBool fun (x14 : Bool) =>
    loadW H4 false 1 ⟨b1, 4, none⟩ pBool fun (x15 : Bool) =>
    retK (some [(.slice x13.1 x13.2.1 x13.2.2), (.bool (!x14)), (.bool (!x15))]) H4 R)
theorem lexed.enter (s : ByteArray) (H : Heap) (R : Value → Heap → Prop) (h : lexed.W s H R) : Fn PP f_spec_lexed #[(.string s)] H R :=
  fun_sound mixed Tryz.func130 ⟨patL [(12, pBool), (18, (pInt .i64)), (24, ⟨Unit, fun _ => (.tuple #[])⟩), (28, pSlc), (32, pBool), (37, pBool)], loopL [(0, [])], joinL [], joinL [], joinRL []⟩ [(.string s)] H R (Eq.mp (by unfold lexed.W; kernel_rfl) h)

/-- spec.Lex -/
def Lex.W (s : ByteArray) (H : Heap) (R : Value → Heap → Prop) : Prop :=
  callW PP f_spec_lexed #[(.string s)] H ⟨(Option Addr × Nat × Nat) × Bool × Bool, fun x => (.tuple #[(.slice x.1.1 x.1.2.1 x.1.2.2), (.bool x.2.1), (.bool x.2.2)])⟩ fun (x1 : (Option Addr × Nat × Nat) × Bool × Bool) H2 =>
  forkB (!x1.2.1)
  (retK (some [(.slice none 0 0), (.bool false), (.bool x1.2.2)]) H2 R)
  (retK (some [(.slice x1.1.1 x1.1.2.1 x1.1.2.2), (.bool true), (.bool x1.2.2)]) H2 R)
theorem Lex.enter (s : ByteArray) (H : Heap) (R : Value → Heap → Prop) (h : Lex.W s H R) : Fn PP f_spec_Lex #[(.string s)] H R :=
  fun_sound mixed Tryz.func75 ⟨patL [(7, ⟨(Option Addr × Nat × Nat) × Bool × Bool, fun x => (.tuple #[(.slice x.1.1 x.1.2.1 x.1.2.2), (.bool x.2.1), (.bool x.2.2)])⟩)], loopL [], joinL [], joinL [], joinRL []⟩ [(.string s)] H R (Eq.mp (by unfold Lex.W; kernel_rfl) h)

/-- spec.IsNumber -/
def IsNumber.W (s : ByteArray) (kind : Int) (H : Heap) (R : Value → Heap → Prop) : Prop :=
  callW PP f_spec_Lex #[(.string s)] H ⟨(Option Addr × Nat × Nat) × Bool × Bool, fun x => (.tuple #[(.slice x.1.1 x.1.2.1 x.1.2.2), (.bool x.2.1), (.bool x.2.2)])⟩ fun (x1 : (Option Addr × Nat × Nat) × Bool × Bool) H2 =>
  forkB x1.2.1
  (forkB x1.2.2
    (forkB (((x1.1.2.1 : Nat) : Int) == 1)
      ((IxOk x1.1.1 0 x1.1.2.1) ∧
        loadW H2 false 1 ⟨(blkOf x1.1.1), (offOf x1.1.1 + (0 : Int).toNat * 4), none⟩ (pInt .i64) fun (x3 : Int) =>
        forkB (x3 == kind)
        ((IxOk x1.1.1 0 x1.1.2.1) ∧
          loadW H2 false 1 ⟨(blkOf x1.1.1), ((offOf x1.1.1 + (0 : Int).toNat * 4) + 1), none⟩ pStr fun (x4 : ByteArray) =>
          retK (some [(.bool (x4.toList == s.toList))]) H2 R)
        (retK (some [(.bool false)]) H2 R))
      (retK (some [(.bool false)]) H2 R))
    (retK (some [(.bool false)]) H2 R))
  (retK (some [(.bool false)]) H2 R)
theorem IsNumber.enter (s : ByteArray) (kind : Int) (H : Heap) (R : Value → Heap → Prop) (h : IsNumber.W s kind H R) : Fn PP f_spec_IsNumber #[(.string s), (.int .i64 kind)] H R :=
  fun_sound mixed Tryz.func47 ⟨patL [(10, ⟨(Option Addr × Nat × Nat) × Bool × Bool, fun x => (.tuple #[(.slice x.1.1 x.1.2.1 x.1.2.2), (.bool x.2.1), (.bool x.2.2)])⟩), (27, (pInt .i64)), (35, pStr)], loopL [], joinL [], joinL [], joinRL []⟩ [(.string s), (.int .i64 kind)] H R (Eq.mp (by unfold IsNumber.W; kernel_rfl) h)

end Go.Vx
namespace Go.Vx
open Go Go.Proofs
set_option maxRecDepth 100000
/-- spec.formed -/
def formed.W (n : Nd) (H : Heap) (R : Value → Heap → Prop) : Prop :=
  newB H (.cells #[(.int .i64 n.kind), (.string n.name), (.string n.alias), (.string n.text), (.int .i64 n.flag), (.int .i64 n.size)] t_impl_Node) fun b1 H2 =>
  joinK (Bool × Unit) (fun J3 =>
  loadW H2 false 1 ⟨b1, 2, none⟩ pStr fun (x6 : ByteArray) =>
    forkB (!(x6.toList == (bs []).toList))
    (loadW H2 false 1 ⟨b1, 0, none⟩ (pInt .i64) fun (x7 : Int) =>
      forkB (x7 != 6)
      (J3 (true, ()) H2)
      (loadW H2 false 1 ⟨b1, 2, none⟩ pStr fun (x8 : ByteArray) =>
        callW PP f_spec_IsName #[(.string x8)] H2 pBool fun (x9 : Bool) H10 =>
        J3 ((!x9), ()) H10))
    (J3 (false, ()) H2)) fun y4 H5 =>
  forkB y4.1
  (retK (some [(.bool false)]) H5 R)
  (loadW H5 false 1 ⟨b1, 0, none⟩ (pInt .i64) fun (x11 : Int) =>
    forkB (x11 == 1)
    (loadW H5 false 1 ⟨b1, 1, none⟩ pStr fun (x12 : ByteArray) =>
      forkB (x12.toList == (bs []).toList)
      (loadW H5 false 1 ⟨b1, 3, none⟩ pStr fun (x13 : ByteArray) =>
        forkB (x13.toList == (bs []).toList)
        (loadW H5 false 1 ⟨b1, 4, none⟩ (pInt .i64) fun (x14 : Int) =>
          retK (some [(.bool (x14 == 0))]) H5 R)
        (retK (some [(.bool false)]) H5 R))
      (retK (some [(.bool false)]) H5 R))
    (forkB (x11 == 5)
      (loadW H5 false 1 ⟨b1, 1, none⟩ pStr fun (x15 : ByteArray) =>
        forkB (x15.toList == (bs []).toList)
        (loadW H5 false 1 ⟨b1, 3, none⟩ pStr fun (x16 : ByteArray) =>
          forkB (x16.toList == (bs []).toList)
          (loadW H5 false 1 ⟨b1, 4, none⟩ (pInt .i64) fun (x17 : Int) =>
            retK (some [(.bool (x17 == 0))]) H5 R)
          (retK (some [(.bool false)]) H5 R))
        (retK (some [(.bool false)]) H5 R))
      (forkB (x11 == 17)
        (loadW H5 false 1 ⟨b1, 1, none⟩ pStr fun (x18 : ByteArray) =>
          forkB (x18.toList == (bs []).toList)
          (loadW H5 false 1 ⟨b1, 3, none⟩ pStr fun (x19 : ByteArray) =>
            forkB (x19.toList == (bs []).toList)
            (loadW H5 false 1 ⟨b1, 4, none⟩ (pInt .i64) fun (x20 : Int) =>
              retK (some [(.bool (x20 == 0))]) H5 R)
            (retK (some [(.bool false)]) H5 R))
          (retK (some [(.bool false)]) H5 R))
        (forkB (x11 == 18)
          (loadW H5 false 1 ⟨b1, 1, none⟩ pStr fun (x21 : ByteArray) =>
            forkB (x21.toList == (bs []).toList)
            (loadW H5 false 1 ⟨b1, 3, none⟩ pStr fun (x22 : ByteArray) =>
              forkB (x22.toList == (bs []).toList)
              (loadW H5 false 1 ⟨b1, 4, none⟩ (pInt .i64) fun (x23 : Int) =>
                retK (some [(.bool (x23 == 0))]) H5 R)
              (retK (some [(.bool false)]) H5 R))
            (retK (some [(.bool false)]) H5 R))
          (forkB (x11 == 21)
            (loadW H5 false 1 ⟨b1, 1, none⟩ pStr fun (x24 : ByteArray) =>
              forkB (x24.toList == (bs []).toList)
              (loadW H5 false 1 ⟨b1, 3, none⟩ pStr fun (x25 : ByteArray) =>
                forkB (x25.toList == (bs []).toList)
                (loadW H5 false 1 ⟨b1, 4, none⟩ (pInt .i64) fun (x26 : Int) =>
                  retK (some [(.bool (x26 == 0))]) H5 R)
                (retK (some [(.bool false)]) H5 R))
              (retK (some [(.bool false)]) H5 R))
            (forkB (x11 == 22)
              (loadW H5 false 1 ⟨b1, 1, none⟩ pStr fun (x27 : ByteArray) =>
                forkB (x27.toList == (bs []).toList)
                (loadW H5 false 1 ⟨b1, 3, none⟩ pStr fun (x28 : ByteArray) =>
                  forkB (x28.toList == (bs []).toList)
                  (loadW H5 false 1 ⟨b1, 4, none⟩ (pInt .i64) fun (x29 : Int) =>
                    retK (some [(.bool (x29 == 0))]) H5 R)
                  (retK (some [(.bool false)]) H5 R))
                (retK (some [(.bool false)]) H5 R))
              (forkB (x11 == 24)
                (loadW H5 false 1 ⟨b1, 1, none⟩ pStr fun (x30 : ByteArray) =>
                  forkB (x30.toList == (bs []).toList)
                  (loadW H5 false 1 ⟨b1, 3, none⟩ pStr fun (x31 : ByteArray) =>
                    forkB (x31.toList == (bs []).toList)
                    (loadW H5 false 1 ⟨b1, 4, none⟩ (pInt .i64) fun (x32 : Int) =>
                      retK (some [(.bool (x32 == 0))]) H5 R)
                    (retK (some [(.bool false)]) H5 R))
                  (retK (some [(.bool false)]) H5 R))
                (forkB (x11 == 39)
                  (loadW H5 false 1 ⟨b1, 1, none⟩ pStr fun (x33 : ByteArray) =>
                    forkB (x33.toList == (bs []).toList)
                    (loadW H5 false 1 ⟨b1, 3, none⟩ pStr fun (x34 : ByteArray) =>
                      forkB (x34.toList == (bs []).toList)
                      (loadW H5 false 1 ⟨b1, 4, none⟩ (pInt .i64) fun (x35 : Int) =>
                        retK (some [(.bool (x35 == 0))]) H5 R)
                      (retK (some [(.bool false)]) H5 R))
                    (retK (some [(.bool false)]) H5 R))
                  (forkB (x11 == 2)
                    (loadW H5 false 1 ⟨b1, 3, none⟩ pStr fun (x36 : ByteArray) =>
                      forkB (x36.toList == (bs [113, 117, 101, 114, 121]).toList)
                      (loadW H5 false 1 ⟨b1, 1, none⟩ pStr fun (x37 : ByteArray) =>
                        forkB (x37.toList == (bs []).toList)
                        (loadW H5 false 1 ⟨b1, 4, none⟩ (pInt .i64) fun (x38 : Int) =>
                          forkB (x38 == 0)
                          (retK (some [(.bool true)]) H5 R)
                          (loadW H5 false 1 ⟨b1, 4, none⟩ (pInt .i64) fun (x39 : Int) =>
                            forkB (x39 == 1)
                            (loadW H5 false 1 ⟨b1, 3, none⟩ pStr fun (x40 : ByteArray) =>
                              forkB (x40.toList == (bs [113, 117, 101, 114, 121]).toList)
                              (loadW H5 false 1 ⟨b1, 1, none⟩ pStr fun (x41 : ByteArray) =>
                                retK (some [(.bool (x41.toList == (bs []).toList))]) H5 R)
                              (retK (some [(.bool false)]) H5 R))
                            (retK (some [(.bool false)]) H5 R)))
                        (loadW H5 false 1 ⟨b1, 1, none⟩ pStr fun (x42 : ByteArray) =>
                          callW PP f_spec_IsName #[(.string x42)] H5 pBool fun (x43 : Bool) H44 =>
                          forkB x43
                          (loadW H44 false 1 ⟨b1, 4, none⟩ (pInt .i64) fun (x45 : Int) =>
                            forkB (x45 == 0)
                            (retK (some [(.bool true)]) H44 R)
                            (loadW H44 false 1 ⟨b1, 4, none⟩ (pInt .i64) fun (x46 : Int) =>
                              forkB (x46 == 1)
                              (loadW H44 false 1 ⟨b1, 3, none⟩ pStr fun (x47 : ByteArray) =>
                                forkB (x47.toList == (bs [113, 117, 101, 114, 121]).toList)
                                (loadW H44 false 1 ⟨b1, 1, none⟩ pStr fun (x48 : ByteArray) =>
                                  retK (some [(.bool (x48.toList == (bs []).toList))]) H44 R)
                                (retK (some [(.bool false)]) H44 R))
                              (retK (some [(.bool false)]) H44 R)))
                          (retK (some [(.bool false)]) H44 R)))
                      (loadW H5 false 1 ⟨b1, 3, none⟩ pStr fun (x49 : ByteArray) =>
                        forkB (x49.toList == (bs [109, 117, 116, 97, 116, 105, 111, 110]).toList)
                        (loadW H5 false 1 ⟨b1, 1, none⟩ pStr fun (x50 : ByteArray) =>
                          forkB (x50.toList == (bs []).toList)
                          (loadW H5 false 1 ⟨b1, 4, none⟩ (pInt .i64) fun (x51 : Int) =>
                            forkB (x51 == 0)
                            (retK (some [(.bool true)]) H5 R)
                            (loadW H5 false 1 ⟨b1, 4, none⟩ (pInt .i64) fun (x52 : Int) =>
                              forkB (x52 == 1)
                              (loadW H5 false 1 ⟨b1, 3, none⟩ pStr fun (x53 : ByteArray) =>
                                forkB (x53.toList == (bs [113, 117, 101, 114, 121]).toList)
                                (loadW H5 false 1 ⟨b1, 1, none⟩ pStr fun (x54 : ByteArray) =>
                                  retK (some [(.bool (x54.toList == (bs []).toList))]) H5 R)
                                (retK (some [(.bool false)]) H5 R))
                              (retK (some [(.bool false)]) H5 R)))
                          (loadW H5 false 1 ⟨b1, 1, none⟩ pStr fun (x55 : ByteArray) =>
                            callW PP f_spec_IsName #[(.string x55)] H5 pBool fun (x56 : Bool) H57 =>
                            forkB x56
                            (loadW H57 false 1 ⟨b1, 4, none⟩ (pInt .i64) fun (x58 : Int) =>
                              forkB (x58 == 0)
                              (retK (some [(.bool true)]) H57 R)
                              (loadW H57 false 1 ⟨b1, 4, none⟩ (pInt .i64) fun (x59 : Int) =>
                                forkB (x59 == 1)
                                (loadW H57 false 1 ⟨b1, 3, none⟩ pStr fun (x60 : ByteArray) =>
                                  forkB (x60.toList == (bs [113, 117, 101, 114, 121]).toList)
                                  (loadW H57 false 1 ⟨b1, 1, none⟩ pStr fun (x61 : ByteArray) =>
                                    retK (some [(.bool (x61.toList == (bs []).toList))]) H57 R)
                                  (retK (some [(.bool false)]) H57 R))
                                (retK (some [(.bool false)]) H57 R)))
                            (retK (some [(.bool false)]) H57 R)))
                        (loadW H5 false 1 ⟨b1, 3, none⟩ pStr fun (x62 : ByteArray) =>
                          forkB (x62.toList == (bs [115, 117, 98, 115, 99, 114, 105, 112, 116, 105, 111, 110]).toList)
                          (loadW H5 false 1 ⟨b1, 1, none⟩ pStr fun (x63 : ByteArray) =>
                            forkB (x63.toList == (bs []).toList)
                            (loadW H5 false 1 ⟨b1, 4, none⟩ (pInt .i64) fun (x64 : Int) =>
                              forkB (x64 == 0)
                              (retK (some [(.bool true)]) H5 R)
                              (loadW H5 false 1 ⟨b1, 4, none⟩ (pInt .i64) fun (x65 : Int) =>
                                forkB (x65 == 1)
                                (loadW H5 false 1 ⟨b1, 3, none⟩ pStr fun (x66 : ByteArray) =>
                                  forkB (x66.toList == (bs [113, 117, 101, 114, 121]).toList)
                                  (loadW H5 false 1 ⟨b1, 1, none⟩ pStr fun (x67 : ByteArray) =>
                                    retK (some [(.bool (x67.toList == (bs []).toList))]) H5 R)
                                  (retK (some [(.bool false)]) H5 R))
                                (retK (some [(.bool false)]) H5 R)))
                            (loadW H5 false 1 ⟨b1, 1, none⟩ pStr fun (x68 : ByteArray) =>
                              callW PP f_spec_IsName #[(.string x68)] H5 pBool fun (x69 : Bool) H70 =>
                              forkB x69
                              (loadW H70 false 1 ⟨b1, 4, none⟩ (pInt .i64) fun (x71 : Int) =>
                                forkB (x71 == 0)
                                (retK (some [(.bool true)]) H70 R)
                                (loadW H70 false 1 ⟨b1, 4, none⟩ (pInt .i64) fun (x72 : Int) =>
                                  forkB (x72 == 1)
                                  (loadW H70 false 1 ⟨b1, 3, none⟩ pStr fun (x73 : ByteArray) =>
                                    forkB (x73.toList == (bs [113, 117, 101, 114, 121]).toList)
                                    (loadW H70 false 1 ⟨b1, 1, none⟩ pStr fun (x74 : ByteArray) =>
                                      retK (some [(.bool (x74.toList == (bs []).toList))]) H70 R)
                                    (retK (some [(.bool false)]) H70 R))
                                  (retK (some [(.bool false)]) H70 R)))
                              (retK (some [(.bool false)]) H70 R)))
                          (retK (some [(.bool false)]) H5 R))))
                    (forkB (x11 == 3)
                      (loadW H5 false 1 ⟨b1, 1, none⟩ pStr fun (x75 : ByteArray) =>
                        callW PP f_spec_IsName #[(.string x75)] H5 pBool fun (x76 : Bool) H77 =>
                        forkB x76
                        (loadW H77 false 1 ⟨b1, 1, none⟩ pStr fun (x78 : ByteArray) =>
                          forkB (!(x78.toList == (bs [111, 110]).toList))
                          (loadW H77 false 1 ⟨b1, 3, none⟩ pStr fun (x79 : ByteArray) =>
                            callW PP f_spec_IsName #[(.string x79)] H77 pBool fun (x80 : Bool) H81 =>
                            forkB x80
                            (loadW H81 false 1 ⟨b1, 4, none⟩ (pInt .i64) fun (x82 : Int) =>
                              retK (some [(.bool (x82 == 0))]) H81 R)
                            (retK (some [(.bool false)]) H81 R))
                          (retK (some [(.bool false)]) H77 R))
                        (retK (some [(.bool false)]) H77 R))
                      (forkB (x11 == 7)
                        (loadW H5 false 1 ⟨b1, 1, none⟩ pStr fun (x83 : ByteArray) =>
                          callW PP f_spec_IsName #[(.string x83)] H5 pBool fun (x84 : Bool) H85 =>
                          forkB x84
                          (loadW H85 false 1 ⟨b1, 1, none⟩ pStr fun (x86 : ByteArray) =>
                            forkB (!(x86.toList == (bs [111, 110]).toList))
                            (loadW H85 false 1 ⟨b1, 3, none⟩ pStr fun (x87 : ByteArray) =>
                              forkB (x87.toList == (bs []).toList)
                              (loadW H85 false 1 ⟨b1, 4, none⟩ (pInt .i64) fun (x88 : Int) =>
                                retK (some [(.bool (x88 == 0))]) H85 R)
                              (retK (some [(.bool false)]) H85 R))
                            (retK (some [(.bool false)]) H85 R))
                          (retK (some [(.bool false)]) H85 R))
                        (forkB (x11 == 8)
                          (loadW H5 false 1 ⟨b1, 1, none⟩ pStr fun (x89 : ByteArray) =>
                            forkB (x89.toList == (bs []).toList)
                            (loadW H5 false 1 ⟨b1, 3, none⟩ pStr fun (x90 : ByteArray) =>
                              forkB (x90.toList == (bs []).toList)
                              (loadW H5 false 1 ⟨b1, 4, none⟩ (pInt .i64) fun (x91 : Int) =>
                                retK (some [(.bool (x91 == 0))]) H5 R)
                              (loadW H5 false 1 ⟨b1, 3, none⟩ pStr fun (x92 : ByteArray) =>
                                callW PP f_spec_IsName #[(.string x92)] H5 pBool fun (x93 : Bool) H94 =>
                                forkB x93
                                (loadW H94 false 1 ⟨b1, 4, none⟩ (pInt .i64) fun (x95 : Int) =>
                                  retK (some [(.bool (x95 == 0))]) H94 R)
                                (retK (some [(.bool false)]) H94 R)))
                            (retK (some [(.bool false)]) H5 R))
                          (forkB (x11 == 12)
                            (loadW H5 false 1 ⟨b1, 1, none⟩ pStr fun (x96 : ByteArray) =>
                              forkB (x96.toList == (bs []).toList)
                              (loadW H5 false 1 ⟨b1, 4, none⟩ (pInt .i64) fun (x97 : Int) =>
                                forkB (x97 == 0)
                                (loadW H5 false 1 ⟨b1, 3, none⟩ pStr fun (x98 : ByteArray) =>
                                  loadW H5 false 1 ⟨b1, 0, none⟩ (pInt .i64) fun (x99 : Int) =>
                                  callW PP f_spec_IsNumber #[(.string x98), (.int .i64 (IntKind.i64.wrap ((IntKind.i64.wrap (16 + x99)) - 12)))] H5 pBool fun (x100 : Bool) H101 =>
                                  retK (some [(.bool x100)]) H101 R)
                                (retK (some [(.bool false)]) H5 R))
                              (retK (some [(.bool false)]) H5 R))
                            (forkB (x11 == 13)
                              (loadW H5 false 1 ⟨b1, 1, none⟩ pStr fun (x102 : ByteArray) =>
                                forkB (x102.toList == (bs []).toList)
                                (loadW H5 false 1 ⟨b1, 4, none⟩ (pInt .i64) fun (x103 : Int) =>
                                  forkB (x103 == 0)
                                  (loadW H5 false 1 ⟨b1, 3, none⟩ pStr fun (x104 : ByteArray) =>
                                    loadW H5 false 1 ⟨b1, 0, none⟩ (pInt .i64) fun (x105 : Int) =>
                                    callW PP f_spec_IsNumber #[(.string x104), (.int .i64 (IntKind.i64.wrap ((IntKind.i64.wrap (16 + x105)) - 12)))] H5 pBool fun (x106 : Bool) H107 =>
                                    retK (some [(.bool x106)]) H107 R)
                                  (retK (some [(.bool false)]) H5 R))
                                (retK (some [(.bool false)]) H5 R))
                              (forkB (x11 == 14)
                                (loadW H5 false 1 ⟨b1, 1, none⟩ pStr fun (x108 : ByteArray) =>
                                  forkB (x108.toList == (bs []).toList)
                                  (loadW H5 false 1 ⟨b1, 4, none⟩ (pInt .i64) fun (x109 : Int) =>
                                    forkB (x109 == 0)
                                    (loadW H5 false 1 ⟨b1, 3, none⟩ pStr fun (x110 : ByteArray) =>
                                      callW PP f_spec_textable #[(.string x110)] H5 pBool fun (x111 : Bool) H112 =>
                                      forkB x111
                                      (retK (some [(.bool true)]) H112 R)
                                      (loadW H112 false 1 ⟨b1, 4, none⟩ (pInt .i64) fun (x113 : Int) =>
                                        forkB (x113 == 1)
                                        (loadW H112 false 1 ⟨b1, 3, none⟩ pStr fun (x114 : ByteArray) =>
                                          callW PP f_spec_blockable #[(.string x114)] H112 pBool fun (x115 : Bool) H116 =>
                                          retK (some [(.bool x115)]) H116 R)
                                        (retK (some [(.bool false)]) H112 R)))
                                    (loadW H5 false 1 ⟨b1, 4, none⟩ (pInt .i64) fun (x117 : Int) =>
                                      forkB (x117 == 1)
                                      (loadW H5 false 1 ⟨b1, 3, none⟩ pStr fun (x118 : ByteArray) =>
                                        callW PP f_spec_blockable #[(.string x118)] H5 pBool fun (x119 : Bool) H120 =>
                                        retK (some [(.bool x119)]) H120 R)
                                      (retK (some [(.bool false)]) H5 R)))
                                  (retK (some [(.bool false)]) H5 R))
                                (forkB (x11 == 23)
                                  (loadW H5 false 1 ⟨b1, 1, none⟩ pStr fun (x121 : ByteArray) =>
                                    forkB (x121.toList == (bs []).toList)
                                    (loadW H5 false 1 ⟨b1, 4, none⟩ (pInt .i64) fun (x122 : Int) =>
                                      forkB (x122 == 0)
                                      (loadW H5 false 1 ⟨b1, 3, none⟩ pStr fun (x123 : ByteArray) =>
                                        callW PP f_spec_textable #[(.string x123)] H5 pBool fun (x124 : Bool) H125 =>
                                        forkB x124
                                        (retK (some [(.bool true)]) H125 R)
                                        (loadW H125 false 1 ⟨b1, 4, none⟩ (pInt .i64) fun (x126 : Int) =>
                                          forkB (x126 == 1)
                                          (loadW H125 false 1 ⟨b1, 3, none⟩ pStr fun (x127 : ByteArray) =>
                                            callW PP f_spec_blockable #[(.string x127)] H125 pBool fun (x128 : Bool) H129 =>
                                            retK (some [(.bool x128)]) H129 R)
                                          (retK (some [(.bool false)]) H125 R)))
                                      (loadW H5 false 1 ⟨b1, 4, none⟩ (pInt .i64) fun (x130 : Int) =>
                                        forkB (x130 == 1)
                                        (loadW H5 false 1 ⟨b1, 3, none⟩ pStr fun (x131 : ByteArray) =>
                                          callW PP f_spec_blockable #[(.string x131)] H5 pBool fun (x132 : Bool) H133 =>
                                          retK (some [(.bool x132)]) H133 R)
                                        (retK (some [(.bool false)]) H5 R)))
                                    (retK (some [(.bool false)]) H5 R))
                                  (forkB (x11 == 15)
                                    (loadW H5 false 1 ⟨b1, 1, none⟩ pStr fun (x134 : ByteArray) =>
                                      forkB (x134.toList == (bs []).toList)
                                      (loadW H5 false 1 ⟨b1, 3, none⟩ pStr fun (x135 : ByteArray) =>
                                        forkB (x135.toList == (bs []).toList)
                                        (loadW H5 false 1 ⟨b1, 4, none⟩ (pInt .i64) fun (x136 : Int) =>
                                          forkB (x136 == 0)
                                          (retK (some [(.bool true)]) H5 R)
                                          (loadW H5 false 1 ⟨b1, 4, none⟩ (pInt .i64) fun (x137 : Int) =>
                                            retK (some [(.bool (x137 == 1))]) H5 R))
                                        (retK (some [(.bool false)]) H5 R))
                                      (retK (some [(.bool false)]) H5 R))
                                    (forkB (x11 == 16)
                                      (loadW H5 false 1 ⟨b1, 1, none⟩ pStr fun (x138 : ByteArray) =>
                                        callW PP f_spec_IsName #[(.string x138)] H5 pBool fun (x139 : Bool) H140 =>
                                        forkB x139
                                        (loadW H140 false 1 ⟨b1, 1, none⟩ pStr fun (x141 : ByteArray) =>
                                          forkB (!(x141.toList == (bs [116, 114, 117, 101]).toList))
                                          (loadW H140 false 1 ⟨b1, 1, none⟩ pStr fun (x142 : ByteArray) =>
                                            forkB (!(x142.toList == (bs [102, 97, 108, 115, 101]).toList))
                                            (loadW H140 false 1 ⟨b1, 1, none⟩ pStr fun (x143 : ByteArray) =>
                                              forkB (!(x143.toList == (bs [110, 117, 108, 108]).toList))
                                              (loadW H140 false 1 ⟨b1, 3, none⟩ pStr fun (x144 : ByteArray) =>
                                                forkB (x144.toList == (bs []).toList)
                                                (loadW H140 false 1 ⟨b1, 4, none⟩ (pInt .i64) fun (x145 : Int) =>
                                                  retK (some [(.bool (x145 == 0))]) H140 R)
                                                (retK (some [(.bool false)]) H140 R))
                                              (retK (some [(.bool false)]) H140 R))
                                            (retK (some [(.bool false)]) H140 R))
                                          (retK (some [(.bool false)]) H140 R))
                                        (retK (some [(.bool false)]) H140 R))
                                      (forkB (x11 == 35)
                                        (loadW H5 false 1 ⟨b1, 1, none⟩ pStr fun (x146 : ByteArray) =>
                                          callW PP f_spec_IsName #[(.string x146)] H5 pBool fun (x147 : Bool) H148 =>
                                          forkB x147
                                          (loadW H148 false 1 ⟨b1, 1, none⟩ pStr fun (x149 : ByteArray) =>
                                            forkB (!(x149.toList == (bs [116, 114, 117, 101]).toList))
                                            (loadW H148 false 1 ⟨b1, 1, none⟩ pStr fun (x150 : ByteArray) =>
                                              forkB (!(x150.toList == (bs [102, 97, 108, 115, 101]).toList))
                                              (loadW H148 false 1 ⟨b1, 1, none⟩ pStr fun (x151 : ByteArray) =>
                                                forkB (!(x151.toList == (bs [110, 117, 108, 108]).toList))
                                                (loadW H148 false 1 ⟨b1, 3, none⟩ pStr fun (x152 : ByteArray) =>
                                                  forkB (x152.toList == (bs []).toList)
                                                  (loadW H148 false 1 ⟨b1, 4, none⟩ (pInt .i64) fun (x153 : Int) =>
                                                    retK (some [(.bool (x153 == 0))]) H148 R)
                                                  (retK (some [(.bool false)]) H148 R))
                                                (retK (some [(.bool false)]) H148 R))
                                              (retK (some [(.bool false)]) H148 R))
                                            (retK (some [(.bool false)]) H148 R))
                                          (retK (some [(.bool false)]) H148 R))
                                        (forkB (x11 == 25)
                                          (loadW H5 false 1 ⟨b1, 3, none⟩ pStr fun (x154 : ByteArray) =>
                                            forkB (x154.toList == (bs [113, 117, 101, 114, 121]).toList)
                                            (loadW H5 false 1 ⟨b1, 1, none⟩ pStr fun (x155 : ByteArray) =>
                                              callW PP f_spec_IsName #[(.string x155)] H5 pBool fun (x156 : Bool) H157 =>
                                              forkB x156
                                              (loadW H157 false 1 ⟨b1, 4, none⟩ (pInt .i64) fun (x158 : Int) =>
                                                retK (some [(.bool (x158 == 0))]) H157 R)
                                              (retK (some [(.bool false)]) H157 R))
                                            (loadW H5 false 1 ⟨b1, 3, none⟩ pStr fun (x159 : ByteArray) =>
                                              forkB (x159.toList == (bs [109, 117, 116, 97, 116, 105, 111, 110]).toList)
                                              (loadW H5 false 1 ⟨b1, 1, none⟩ pStr fun (x160 : ByteArray) =>
                                                callW PP f_spec_IsName #[(.string x160)] H5 pBool fun (x161 : Bool) H162 =>
                                                forkB x161
                                                (loadW H162 false 1 ⟨b1, 4, none⟩ (pInt .i64) fun (x163 : Int) =>
                                                  retK (some [(.bool (x163 == 0))]) H162 R)
                                                (retK (some [(.bool false)]) H162 R))
                                              (loadW H5 false 1 ⟨b1, 3, none⟩ pStr fun (x164 : ByteArray) =>
                                                forkB (x164.toList == (bs [115, 117, 98, 115, 99, 114, 105, 112, 116, 105, 111, 110]).toList)
                                                (loadW H5 false 1 ⟨b1, 1, none⟩ pStr fun (x165 : ByteArray) =>
                                                  callW PP f_spec_IsName #[(.string x165)] H5 pBool fun (x166 : Bool) H167 =>
                                                  forkB x166
                                                  (loadW H167 false 1 ⟨b1, 4, none⟩ (pInt .i64) fun (x168 : Int) =>
                                                    retK (some [(.bool (x168 == 0))]) H167 R)
                                                  (retK (some [(.bool false)]) H167 R))
                                                (retK (some [(.bool false)]) H5 R))))
                                          (loadW H5 false 1 ⟨b1, 0, none⟩ (pInt .i64) fun (x169 : Int) =>
                                            forkB (decide (x169 ≥ 1))
                                            (loadW H5 false 1 ⟨b1, 0, none⟩ (pInt .i64) fun (x170 : Int) =>
                                              forkB (decide (x170 ≤ 39))
                                              (loadW H5 false 1 ⟨b1, 1, none⟩ pStr fun (x171 : ByteArray) =>
                                                callW PP f_spec_IsName #[(.string x171)] H5 pBool fun (x172 : Bool) H173 =>
                                                forkB x172
                                                (loadW H173 false 1 ⟨b1, 3, none⟩ pStr fun (x174 : ByteArray) =>
                                                  forkB (x174.toList == (bs []).toList)
                                                  (loadW H173 false 1 ⟨b1, 4, none⟩ (pInt .i64) fun (x175 : Int) =>
                                                    retK (some [(.bool (x175 == 0))]) H173 R)
                                                  (retK (some [(.bool false)]) H173 R))
                                                (retK (some [(.bool false)]) H173 R))
                                              (retK (some [(.bool false)]) H5 R))
                                            (retK (some [(.bool false)]) H5 R))))))))))))))))))))))
theorem formed.enter (n : Nd) (H : Heap) (R : Value → Heap → Prop) (h : formed.W n H R) : Fn PP f_spec_formed #[(.agg #[(.int .i64 n.kind), (.string n.name), (.string n.alias), (.string n.text), (.int .i64 n.flag), (.int .i64 n.size)])] H R :=
  fun_sound mixed Tryz.func31 ⟨patL [(5, pStr), (9, (pInt .i64)), (13, pStr), (14, pBool), (19, (pInt .i64)), (30, pStr), (34, pStr), (39, (pInt .i64)), (45, pStr), (49, pStr), (54, pStr), (60, pStr), (64, pStr), (65, pBool), (70, (pInt .i64)), (74, (pInt .i64)), (78, pStr), (83, pStr), (91, pStr), (92, pBool), (95, pStr), (100, pStr), (101, pBool), (105, (pInt .i64)), (111, pStr), (112, pBool), (115, pStr), (120, pStr), (125, (pInt .i64)), (131, pStr), (135, pStr), (139, pStr), (140, pBool), (145, (pInt .i64)), (152, pStr), (156, (pInt .i64)), (161, pStr), (163, (pInt .i64)), (166, pBool), (172, pStr), (176, (pInt .i64)), (180, pStr), (181, pBool), (185, (pInt .i64)), (189, pStr), (190, pBool), (197, pStr), (201, pStr), (206, (pInt .i64)), (210, (pInt .i64)), (218, pStr), (219, pBool), (222, pStr), (227, pStr), (232, pStr), (237, pStr), (242, (pInt .i64)), (248, pStr), (252, pStr), (257, pStr), (262, pStr), (263, pBool), (267, (pInt .i64)), (271, (pInt .i64)), (275, (pInt .i64)), (280, pStr), (281, pBool), (285, pStr), (290, (pInt .i64))], loopL [], joinL [], joinL [], joinRL [(1, [Slot.bool 17], false)]⟩ [(.agg #[(.int .i64 n.kind), (.string n.name), (.string n.alias), (.string n.text), (.int .i64 n.flag), (.int .i64 n.size)])] H R (Eq.mp (by unfold formed.W; kernel_rfl) h)

/-- spec.sized -/
def sized.W (d dO dN dC : Nat) (i : Int) (e : Int) (deep : Int) (H : Heap) (R : Value → Heap → Prop) : Prop :=
  (IxOk (some ⟨d, dO, none⟩) i dN) ∧
  loadW H false 1 ⟨d, ((dO + i.toNat * 6) + 5), none⟩ (pInt .i64) fun (x1 : Int) =>
  forkB (decide (x1 < 1))
  (retK (some [(.bool false)]) H R)
  (forkB (decide (x1 > (IntKind.i64.wrap (e - i))))
    (retK (some [(.bool false)]) H R)
    (forkB (decide (deep > 40))
      (retK (some [(.bool false)]) H R)
      (loopK (Int × Unit) ((IntKind.i64.wrap (i + 1)), ()) H fun z2 H3 next4 =>
        forkB (decide (z2.1 < (IntKind.i64.wrap (i + x1))))
        (callW PP f_spec_sized #[(.slice (some ⟨d, dO, none⟩) dN dC), (.int .i64 z2.1), (.int .i64 (IntKind.i64.wrap (i + x1))), (.int .i64 (IntKind.i64.wrap (deep + 1)))] H3 pBool fun (x5 : Bool) H6 =>
          forkB (!x5)
          (retK (some [(.bool false)]) H6 R)
          ((IxOk (some ⟨d, dO, none⟩) z2.1 dN) ∧
            loadW H6 false 1 ⟨d, ((dO + z2.1.toNat * 6) + 5), none⟩ (pInt .i64) fun (x7 : Int) =>
            next4 ((IntKind.i64.wrap (z2.1 + x7)), ()) H6))
        (retK (some [(.bool true)]) H3 R))))
theorem sized.enter (d dO dN dC : Nat) (i : Int) (e : Int) (deep : Int) (H : Heap) (R : Value → Heap → Prop) (h : sized.W d dO dN dC i e deep H R) : Fn PP f_spec_sized #[(.slice (some ⟨d, dO, none⟩) dN dC), (.int .i64 i), (.int .i64 e), (.int .i64 deep)] H R :=
  fun_sound mixed Tryz.func30 ⟨patL [(15, (pInt .i64)), (43, pBool), (50, (pInt .i64))], loopL [(0, [Slot.int .i64 10])], joinL [], joinL [], joinRL []⟩ [(.slice (some ⟨d, dO, none⟩) dN dC), (.int .i64 i), (.int .i64 e), (.int .i64 deep)] H R (Eq.mp (by unfold sized.W; kernel_rfl) h)

/-- spec.Kids -/
def Kids.W (d dO dN dC : Nat) (i : Int) (H : Heap) (R : Value → Heap → Prop) : Prop :=
  loopK ((Option Addr × Nat × Nat) × Int × Unit) ((none, 0, 0), (IntKind.i64.wrap (i + 1)), ()) H fun z1 H2 next3 =>
  (IxOk (some ⟨d, dO, none⟩) i dN) ∧
  loadW H2 false 1 ⟨d, ((dO + i.toNat * 6) + 5), none⟩ (pInt .i64) fun (x4 : Int) =>
  forkB (decide (z1.2.1 < (IntKind.i64.wrap (i + x4))))
  (newB H2 (.cells #[(.int .i64 z1.2.1)] t_int) fun b5 H6 =>
    appK H6 t_int 1 8 z1.1.1 z1.1.2.1 z1.1.2.2 (some ⟨b5, 0, none⟩) 1 fun a7 c8 H9 =>
    (IxOk (some ⟨d, dO, none⟩) z1.2.1 dN) ∧
    loadW H9 false 1 ⟨d, ((dO + z1.2.1.toNat * 6) + 5), none⟩ (pInt .i64) fun (x10 : Int) =>
    next3 ((a7, (z1.1.2.1 + 1), c8), (IntKind.i64.wrap (z1.2.1 + x10)), ()) H9)
  (retK (some [(.slice z1.1.1 z1.1.2.1 z1.1.2.2)]) H2 R)
theorem Kids.enter (d dO dN dC : Nat) (i : Int) (H : Heap) (R : Value → Heap → Prop) (h : Kids.W d dO dN dC i H R) : Fn PP f_spec_Kids #[(.slice (some ⟨d, dO, none⟩) dN dC), (.int .i64 i)] H R :=
  fun_sound mixed Tryz.func38 ⟨patL [(15, (pInt .i64)), (23, (pInt .i64))], loopL [(0, [Slot.slc 5, Slot.int .i64 6])], joinL [], joinL [], joinRL []⟩ [(.slice (some ⟨d, dO, none⟩) dN dC), (.int .i64 i)] H R (Eq.mp (by unfold Kids.W; kernel_rfl) h)

/-- spec.KidsOf -/
def KidsOf.W (d dO dN dC : Nat) (i : Int) (kind : Int) (H : Heap) (R : Value → Heap → Prop) : Prop :=
  callW PP f_spec_Kids #[(.slice (some ⟨d, dO, none⟩) dN dC), (.int .i64 i)] H pSlc fun (x1 : (Option Addr × Nat × Nat)) H2 =>
  loopK ((Option Addr × Nat × Nat) × Int × Unit) ((none, 0, 0), 0, ()) H2 fun z3 H4 next5 =>
  forkB (decide (z3.2.1 < ((x1.2.1 : Nat) : Int)))
  ((IxOk x1.1 z3.2.1 x1.2.1) ∧
    loadW H4 false 1 ⟨(blkOf x1.1), (offOf x1.1 + z3.2.1.toNat * 1), none⟩ (pInt .i64) fun (x6 : Int) =>
    (IxOk (some ⟨d, dO, none⟩) x6 dN) ∧
    loadW H4 false 1 ⟨d, (dO + x6.toNat * 6), none⟩ (pInt .i64) fun (x7 : Int) =>
    forkB (x7 == kind)
    ((IxOk x1.1 z3.2.1 x1.2.1) ∧
      loadW H4 false 1 ⟨(blkOf x1.1), (offOf x1.1 + z3.2.1.toNat * 1), none⟩ (pInt .i64) fun (x8 : Int) =>
      newB H4 (.cells #[(.int .i64 x8)] t_int) fun b9 H10 =>
      appK H10 t_int 1 8 z3.1.1 z3.1.2.1 z3.1.2.2 (some ⟨b9, 0, none⟩) 1 fun a11 c12 H13 =>
      next5 ((a11, (z3.1.2.1 + 1), c12), (IntKind.i64.wrap (z3.2.1 + 1)), ()) H13)
    (next5 ((z3.1.1, z3.1.2.1, z3.1.2.2), (IntKind.i64.wrap (z3.2.1 + 1)), ()) H4))
  (retK (some [(.slice z3.1.1 z3.1.2.1 z3.1.2.2)]) H4 R)
theorem KidsOf.enter (d dO dN dC : Nat) (i : Int) (kind : Int) (H : Heap) (R : Value → Heap → Prop) (h : KidsOf.W d dO dN dC i kind H R) : Fn PP f_spec_KidsOf #[(.slice (some ⟨d, dO, none⟩) dN dC), (.int .i64 i), (.int .i64 kind)] H R :=
  fun_sound mixed Tryz.func134 ⟨patL [(12, pSlc), (23, (pInt .i64)), (26, (pInt .i64)), (33, (pInt .i64))], loopL [(0, [Slot.slc 7, Slot.int .i64 9])], joinL [], joinL [], joinRL []⟩ [(.slice (some ⟨d, dO, none⟩) dN dC), (.int .i64 i), (.int .i64 kind)] H R (Eq.mp (by unfold KidsOf.W; kernel_rfl) h)

/-- spec.KidOf -/
def KidOf.W (d dO dN dC : Nat) (i : Int) (kind : Int) (H : Heap) (R : Value → Heap → Prop) : Prop :=
  callW PP f_spec_KidsOf #[(.slice (some ⟨d, dO, none⟩) dN dC), (.int .i64 i), (.int .i64 kind)] H pSlc fun (x1 : (Option Addr × Nat × Nat)) H2 =>
  forkB (((x1.2.1 : Nat) : Int) == 0)
  (retK (some [(.int .i64 (-1))]) H2 R)
  ((IxOk x1.1 0 x1.2.1) ∧
    loadW H2 false 1 ⟨(blkOf x1.1), (offOf x1.1 + (0 : Int).toNat * 1), none⟩ (pInt .i64) fun (x3 : Int) =>
    retK (some [(.int .i64 x3)]) H2 R)
theorem KidOf.enter (d dO dN dC : Nat) (i : Int) (kind : Int) (H : Heap) (R : Value → Heap → Prop) (h : KidOf.W d dO dN dC i kind H R) : Fn PP f_spec_KidOf #[(.slice (some ⟨d, dO, none⟩) dN dC), (.int .i64 i), (.int .i64 kind)] H R :=
  fun_sound mixed Tryz.func81 ⟨patL [(11, pSlc), (17, (pInt .i64))], loopL [], joinL [], joinL [], joinRL []⟩ [(.slice (some ⟨d, dO, none⟩) dN dC), (.int .i64 i), (.int .i64 kind)] H R (Eq.mp (by unfold KidOf.W; kernel_rfl) h)

/-- (*spec.row).all -/
def rowAll.W (r : Nat) (kinds kindsO kindsN kindsC : Nat) (H : Heap) (R : Value → Heap → Prop) : Prop :=
  storeW H ⟨r, 2, none⟩ [(.int .i64 0)] fun H1 =>
  loopK (Unit) (()) H1 fun z2 H3 next4 =>
  loadW H3 false 1 ⟨r, 1, none⟩ pSlc fun (x5 : (Option Addr × Nat × Nat)) =>
  forkB (decide (((x5.2.1 : Nat) : Int) > 0))
  (loopK (Bool × Int × Unit) (false, 0, ()) H3 fun z6 H7 next8 =>
    forkB (decide (z6.2.1 < ((kindsN : Nat) : Int)))
    (forkB z6.1
      (next8 (true, (IntKind.i64.wrap (z6.2.1 + 1)), ()) H7)
      (loadW H7 false 1 ⟨r, 0, none⟩ pSlc fun (x9 : (Option Addr × Nat × Nat)) =>
        loadW H7 false 1 ⟨r, 1, none⟩ pSlc fun (x10 : (Option Addr × Nat × Nat)) =>
        (IxOk x10.1 0 x10.2.1) ∧
        loadW H7 false 1 ⟨(blkOf x10.1), (offOf x10.1 + (0 : Int).toNat * 1), none⟩ (pInt .i64) fun (x11 : Int) =>
        (IxOk x9.1 x11 x9.2.1) ∧
        loadW H7 false 1 ⟨(blkOf x9.1), (offOf x9.1 + x11.toNat * 6), none⟩ (pInt .i64) fun (x12 : Int) =>
        (IxOk (some ⟨kinds, kindsO, none⟩) z6.2.1 kindsN) ∧
        loadW H7 false 1 ⟨kinds, (kindsO + z6.2.1.toNat * 1), none⟩ (pInt .i64) fun (x13 : Int) =>
        next8 ((x12 == x13), (IntKind.i64.wrap (z6.2.1 + 1)), ()) H7))
    (forkB (!z6.1)
      (retK (some [(.pointer (some ⟨r, 0, none⟩))]) H7 R)
      (loadW H7 false 1 ⟨r, 1, none⟩ pSlc fun (x14 : (Option Addr × Nat × Nat)) =>
        ((0 : Int) ≤ 1 ∧ 1 ≤ ((x14.2.1 : Nat) : Int)) ∧
        storeW H7 ⟨r, 1, none⟩ [(.slice (slcA x14.1 x14.2.2 (1 : Int).toNat 1) (x14.2.1 - (1 : Int).toNat) (x14.2.2 - (1 : Int).toNat))] fun H15 =>
        loadW H15 false 1 ⟨r, 2, none⟩ (pInt .i64) fun (x16 : Int) =>
        storeW H15 ⟨r, 2, none⟩ [(.int .i64 (IntKind.i64.wrap (x16 + 1)))] fun H17 =>
        next4 (()) H17)))
  (retK (some [(.pointer (some ⟨r, 0, none⟩))]) H3 R)
theorem rowAll.enter (r : Nat) (kinds kindsO kindsN kindsC : Nat) (H : Heap) (R : Value → Heap → Prop) (h : rowAll.W r kinds kindsO kindsN kindsC H R) : Fn PP f_spec_row_all #[(.pointer (some ⟨r, 0, none⟩)), (.slice (some ⟨kinds, kindsO, none⟩) kindsN kindsC)] H R :=
  fun_sound mixed Tryz.func50 ⟨patL [(13, pSlc), (27, pSlc), (31, pSlc), (33, (pInt .i64)), (36, (pInt .i64)), (40, (pInt .i64)), (50, pSlc), (57, (pInt .i64))], loopL [(0, []), (2, [Slot.bool 5, Slot.int .i64 6])], joinL [], joinL [], joinRL []⟩ [(.pointer (some ⟨r, 0, none⟩)), (.slice (some ⟨kinds, kindsO, none⟩) kindsN kindsC)] H R (Eq.mp (by unfold rowAll.W; kernel_rfl) h)

/-- (*spec.row).end -/
def rowEnd.W (r : Nat) (H : Heap) (R : Value → Heap → Prop) : Prop :=
  loadW H false 1 ⟨r, 1, none⟩ pSlc fun (x1 : (Option Addr × Nat × Nat)) =>
  retK (some [(.bool (((x1.2.1 : Nat) : Int) == 0))]) H R
theorem rowEnd.enter (r : Nat) (H : Heap) (R : Value → Heap → Prop) (h : rowEnd.W r H R) : Fn PP f_spec_row_end #[(.pointer (some ⟨r, 0, none⟩))] H R :=
  fun_sound mixed Tryz.func51 ⟨patL [(6, pSlc)], loopL [], joinL [], joinL [], joinRL []⟩ [(.pointer (some ⟨r, 0, none⟩))] H R (Eq.mp (by unfold rowEnd.W; kernel_rfl) h)

/-- (*spec.row).most -/
def rowMost.W (r : Nat) (H : Heap) (R : Value → Heap → Prop) : Prop :=
  loadW H false 1 ⟨r, 2, none⟩ (pInt .i64) fun (x1 : Int) =>
  retK (some [(.bool (decide (x1 ≤ 1)))]) H R
theorem rowMost.enter (r : Nat) (H : Heap) (R : Value → Heap → Prop) (h : rowMost.W r H R) : Fn PP f_spec_row_most #[(.pointer (some ⟨r, 0, none⟩))] H R :=
  fun_sound mixed Tryz.func55 ⟨patL [(6, (pInt .i64))], loopL [], joinL [], joinL [], joinRL []⟩ [(.pointer (some ⟨r, 0, none⟩))] H R (Eq.mp (by unfold rowMost.W; kernel_rfl) h)

/-- (*spec.row).one -/
def rowOneSelections.W (r : Nat) (H : Heap) (R : Value → Heap → Prop) : Prop :=
  loadW H false 1 ⟨r, 1, none⟩ pSlc fun (x1 : (Option Addr × Nat × Nat)) =>
  forkB (((x1.2.1 : Nat) : Int) == 0)
  (retK (some [(.bool false)]) H R)
  (loadW H false 1 ⟨r, 0, none⟩ pSlc fun (x2 : (Option Addr × Nat × Nat)) =>
    loadW H false 1 ⟨r, 1, none⟩ pSlc fun (x3 : (Option Addr × Nat × Nat)) =>
    (IxOk x3.1 0 x3.2.1) ∧
    loadW H false 1 ⟨(blkOf x3.1), (offOf x3.1 + (0 : Int).toNat * 1), none⟩ (pInt .i64) fun (x4 : Int) =>
    (IxOk x2.1 x4 x2.2.1) ∧
    loadW H true 6 ⟨(blkOf x2.1), (offOf x2.1 + x4.toNat * 6), none⟩ ⟨Int × ByteArray × ByteArray × ByteArray × Int × Int, fun x => (.agg #[(.int .i64 x.1), (.string x.2.1), (.string x.2.2.1), (.string x.2.2.2.1), (.int .i64 x.2.2.2.2.1), (.int .i64 x.2.2.2.2.2)])⟩ fun (x5 : Int × ByteArray × ByteArray × ByteArray × Int × Int) =>
    callW PP f_spec_isSelections #[(.agg #[(.int .i64 x5.1), (.string x5.2.1), (.string x5.2.2.1), (.string x5.2.2.2.1), (.int .i64 x5.2.2.2.2.1), (.int .i64 x5.2.2.2.2.2)])] H pBool fun (x6 : Bool) H7 =>
    loadC H7 false 1 ⟨r, 1, none⟩ = some (.slice x3.1 x3.2.1 x3.2.2) ∧
    forkB (!x6)
    (retK (some [(.bool false)]) H7 R)
    (loadW H7 false 1 ⟨r, 1, none⟩ pSlc fun (x8 : (Option Addr × Nat × Nat)) =>
      ((0 : Int) ≤ 1 ∧ 1 ≤ ((x8.2.1 : Nat) : Int)) ∧
      storeW H7 ⟨r, 1, none⟩ [(.slice (slcA x8.1 x8.2.2 (1 : Int).toNat 1) (x8.2.1 - (1 : Int).toNat) (x8.2.2 - (1 : Int).toNat))] fun H9 =>
      retK (some [(.bool true)]) H9 R))
theorem rowOneSelections.enter (r : Nat) (H : Heap) (R : Value → Heap → Prop) (h : rowOneSelections.W r H R) : Fn PP f_spec_row_one #[(.pointer (some ⟨r, 0, none⟩)), (.func (.func f_spec_isSelections) #[] #[])] H R :=
  fun_sound mixed Tryz.func52 ⟨patL [(8, pSlc), (16, pSlc), (20, pSlc), (22, (pInt .i64)), (24, ⟨Int × ByteArray × ByteArray × ByteArray × Int × Int, fun x => (.agg #[(.int .i64 x.1), (.string x.2.1), (.string x.2.2.1), (.string x.2.2.2.1), (.int .i64 x.2.2.2.2.1), (.int .i64 x.2.2.2.2.2)])⟩), (25, pBool), (32, pSlc)], loopL [], joinL [], joinL [], joinRL []⟩ [(.pointer (some ⟨r, 0, none⟩)), (.func (.func f_spec_isSelections) #[] #[])] H R (Eq.mp (by unfold rowOneSelections.W; kernel_rfl) h)

/-- (*spec.row).one -/
def rowOneObject.W (r : Nat) (H : Heap) (R : Value → Heap → Prop) : Prop :=
  loadW H false 1 ⟨r, 1, none⟩ pSlc fun (x1 : (Option Addr × Nat × Nat)) =>
  forkB (((x1.2.1 : Nat) : Int) == 0)
  (retK (some [(.bool false)]) H R)
  (loadW H false 1 ⟨r, 0, none⟩ pSlc fun (x2 : (Option Addr × Nat × Nat)) =>
    loadW H false 1 ⟨r, 1, none⟩ pSlc fun (x3 : (Option Addr × Nat × Nat)) =>
    (IxOk x3.1 0 x3.2.1) ∧
    loadW H false 1 ⟨(blkOf x3.1), (offOf x3.1 + (0 : Int).toNat * 1), none⟩ (pInt .i64) fun (x4 : Int) =>
    (IxOk x2.1 x4 x2.2.1) ∧
    loadW H true 6 ⟨(blkOf x2.1), (offOf x2.1 + x4.toNat * 6), none⟩ ⟨Int × ByteArray × ByteArray × ByteArray × Int × Int, fun x => (.agg #[(.int .i64 x.1), (.string x.2.1), (.string x.2.2.1), (.string x.2.2.2.1), (.int .i64 x.2.2.2.2.1), (.int .i64 x.2.2.2.2.2)])⟩ fun (x5 : Int × ByteArray × ByteArray × ByteArray × Int × Int) =>
    callW PP f_spec_isObject #[(.agg #[(.int .i64 x5.1), (.string x5.2.1), (.string x5.2.2.1), (.string x5.2.2.2.1), (.int .i64 x5.2.2.2.2.1), (.int .i64 x5.2.2.2.2.2)])] H pBool fun (x6 : Bool) H7 =>
    loadC H7 false 1 ⟨r, 1, none⟩ = some (.slice x3.1 x3.2.1 x3.2.2) ∧
    forkB (!x6)
    (retK (some [(.bool false)]) H7 R)
    (loadW H7 false 1 ⟨r, 1, none⟩ pSlc fun (x8 : (Option Addr × Nat × Nat)) =>
      ((0 : Int) ≤ 1 ∧ 1 ≤ ((x8.2.1 : Nat) : Int)) ∧
      storeW H7 ⟨r, 1, none⟩ [(.slice (slcA x8.1 x8.2.2 (1 : Int).toNat 1) (x8.2.1 - (1 : Int).toNat) (x8.2.2 - (1 : Int).toNat))] fun H9 =>
      retK (some [(.bool true)]) H9 R))
theorem rowOneObject.enter (r : Nat) (H : Heap) (R : Value → Heap → Prop) (h : rowOneObject.W r H R) : Fn PP f_spec_row_one #[(.pointer (some ⟨r, 0, none⟩)), (.func (.func f_spec_isObject) #[] #[])] H R :=
  fun_sound mixed Tryz.func52 ⟨patL [(8, pSlc), (16, pSlc), (20, pSlc), (22, (pInt .i64)), (24, ⟨Int × ByteArray × ByteArray × ByteArray × Int × Int, fun x => (.agg #[(.int .i64 x.1), (.string x.2.1), (.string x.2.2.1), (.string x.2.2.2.1), (.int .i64 x.2.2.2.2.1), (.int .i64 x.2.2.2.2.2)])⟩), (25, pBool), (32, pSlc)], loopL [], joinL [], joinL [], joinRL []⟩ [(.pointer (some ⟨r, 0, none⟩)), (.func (.func f_spec_isObject) #[] #[])] H R (Eq.mp (by unfold rowOneObject.W; kernel_rfl) h)

/-- (*spec.row).one -/
def rowOneNullable.W (r : Nat) (H : Heap) (R : Value → Heap → Prop) : Prop :=
  loadW H false 1 ⟨r, 1, none⟩ pSlc fun (x1 : (Option Addr × Nat × Nat)) =>
  forkB (((x1.2.1 : Nat) : Int) == 0)
  (retK (some [(.bool false)]) H R)
  (loadW H false 1 ⟨r, 0, none⟩ pSlc fun (x2 : (Option Addr × Nat × Nat)) =>
    loadW H false 1 ⟨r, 1, none⟩ pSlc fun (x3 : (Option Addr × Nat × Nat)) =>
    (IxOk x3.1 0 x3.2.1) ∧
    loadW H false 1 ⟨(blkOf x3.1), (offOf x3.1 + (0 : Int).toNat * 1), none⟩ (pInt .i64) fun (x4 : Int) =>
    (IxOk x2.1 x4 x2.2.1) ∧
    loadW H true 6 ⟨(blkOf x2.1), (offOf x2.1 + x4.toNat * 6), none⟩ ⟨Int × ByteArray × ByteArray × ByteArray × Int × Int, fun x => (.agg #[(.int .i64 x.1), (.string x.2.1), (.string x.2.2.1), (.string x.2.2.2.1), (.int .i64 x.2.2.2.2.1), (.int .i64 x.2.2.2.2.2)])⟩ fun (x5 : Int × ByteArray × ByteArray × ByteArray × Int × Int) =>
    callW PP f_spec_isNullable #[(.agg #[(.int .i64 x5.1), (.string x5.2.1), (.string x5.2.2.1), (.string x5.2.2.2.1), (.int .i64 x5.2.2.2.2.1), (.int .i64 x5.2.2.2.2.2)])] H pBool fun (x6 : Bool) H7 =>
    loadC H7 false 1 ⟨r, 1, none⟩ = some (.slice x3.1 x3.2.1 x3.2.2) ∧
    forkB (!x6)
    (retK (some [(.bool false)]) H7 R)
    (loadW H7 false 1 ⟨r, 1, none⟩ pSlc fun (x8 : (Option Addr × Nat × Nat)) =>
      ((0 : Int) ≤ 1 ∧ 1 ≤ ((x8.2.1 : Nat) : Int)) ∧
      storeW H7 ⟨r, 1, none⟩ [(.slice (slcA x8.1 x8.2.2 (1 : Int).toNat 1) (x8.2.1 - (1 : Int).toNat) (x8.2.2 - (1 : Int).toNat))] fun H9 =>
      retK (some [(.bool true)]) H9 R))
theorem rowOneNullable.enter (r : Nat) (H : Heap) (R : Value → Heap → Prop) (h : rowOneNullable.W r H R) : Fn PP f_spec_row_one #[(.pointer (some ⟨r, 0, none⟩)), (.func (.func f_spec_isNullable) #[] #[])] H R :=
  fun_sound mixed Tryz.func52 ⟨patL [(8, pSlc), (16, pSlc), (20, pSlc), (22, (pInt .i64)), (24, ⟨Int × ByteArray × ByteArray × ByteArray × Int × Int, fun x => (.agg #[(.int .i64 x.1), (.string x.2.1), (.string x.2.2.1), (.string x.2.2.2.1), (.int .i64 x.2.2.2.2.1), (.int .i64 x.2.2.2.2.2)])⟩), (25, pBool), (32, pSlc)], loopL [], joinL [], joinL [], joinRL []⟩ [(.pointer (some ⟨r, 0, none⟩)), (.func (.func f_spec_isNullable) #[] #[])] H R (Eq.mp (by unfold rowOneNullable.W; kernel_rfl) h)

/-- (*spec.row).one -/
def rowOneType.W (r : Nat) (H : Heap) (R : Value → Heap → Prop) : Prop :=
  loadW H false 1 ⟨r, 1, none⟩ pSlc fun (x1 : (Option Addr × Nat × Nat)) =>
  forkB (((x1.2.1 : Nat) : Int) == 0)
  (retK (some [(.bool false)]) H R)
  (loadW H false 1 ⟨r, 0, none⟩ pSlc fun (x2 : (Option Addr × Nat × Nat)) =>
    loadW H false 1 ⟨r, 1, none⟩ pSlc fun (x3 : (Option Addr × Nat × Nat)) =>
    (IxOk x3.1 0 x3.2.1) ∧
    loadW H false 1 ⟨(blkOf x3.1), (offOf x3.1 + (0 : Int).toNat * 1), none⟩ (pInt .i64) fun (x4 : Int) =>
    (IxOk x2.1 x4 x2.2.1) ∧
    loadW H true 6 ⟨(blkOf x2.1), (offOf x2.1 + x4.toNat * 6), none⟩ ⟨Int × ByteArray × ByteArray × ByteArray × Int × Int, fun x => (.agg #[(.int .i64 x.1), (.string x.2.1), (.string x.2.2.1), (.string x.2.2.2.1), (.int .i64 x.2.2.2.2.1), (.int .i64 x.2.2.2.2.2)])⟩ fun (x5 : Int × ByteArray × ByteArray × ByteArray × Int × Int) =>
    callW PP f_spec_isType #[(.agg #[(.int .i64 x5.1), (.string x5.2.1), (.string x5.2.2.1), (.string x5.2.2.2.1), (.int .i64 x5.2.2.2.2.1), (.int .i64 x5.2.2.2.2.2)])] H pBool fun (x6 : Bool) H7 =>
    loadC H7 false 1 ⟨r, 1, none⟩ = some (.slice x3.1 x3.2.1 x3.2.2) ∧
    forkB (!x6)
    (retK (some [(.bool false)]) H7 R)
    (loadW H7 false 1 ⟨r, 1, none⟩ pSlc fun (x8 : (Option Addr × Nat × Nat)) =>
      ((0 : Int) ≤ 1 ∧ 1 ≤ ((x8.2.1 : Nat) : Int)) ∧
      storeW H7 ⟨r, 1, none⟩ [(.slice (slcA x8.1 x8.2.2 (1 : Int).toNat 1) (x8.2.1 - (1 : Int).toNat) (x8.2.2 - (1 : Int).toNat))] fun H9 =>
      retK (some [(.bool true)]) H9 R))
theorem rowOneType.enter (r : Nat) (H : Heap) (R : Value → Heap → Prop) (h : rowOneType.W r H R) : Fn PP f_spec_row_one #[(.pointer (some ⟨r, 0, none⟩)), (.func (.func f_spec_isType) #[] #[])] H R :=
  fun_sound mixed Tryz.func52 ⟨patL [(8, pSlc), (16, pSlc), (20, pSlc), (22, (pInt .i64)), (24, ⟨Int × ByteArray × ByteArray × ByteArray × Int × Int, fun x => (.agg #[(.int .i64 x.1), (.string x.2.1), (.string x.2.2.1), (.string x.2.2.2.1), (.int .i64 x.2.2.2.2.1), (.int .i64 x.2.2.2.2.2)])⟩), (25, pBool), (32, pSlc)], loopL [], joinL [], joinL [], joinRL []⟩ [(.pointer (some ⟨r, 0, none⟩)), (.func (.func f_spec_isType) #[] #[])] H R (Eq.mp (by unfold rowOneType.W; kernel_rfl) h)

/-- (*spec.row).one -/
def rowOneValue.W (r : Nat) (H : Heap) (R : Value → Heap → Prop) : Prop :=
  loadW H false 1 ⟨r, 1, none⟩ pSlc fun (x1 : (Option Addr × Nat × Nat)) =>
  forkB (((x1.2.1 : Nat) : Int) == 0)
  (retK (some [(.bool false)]) H R)
  (loadW H false 1 ⟨r, 0, none⟩ pSlc fun (x2 : (Option Addr × Nat × Nat)) =>
    loadW H false 1 ⟨r, 1, none⟩ pSlc fun (x3 : (Option Addr × Nat × Nat)) =>
    (IxOk x3.1 0 x3.2.1) ∧
    loadW H false 1 ⟨(blkOf x3.1), (offOf x3.1 + (0 : Int).toNat * 1), none⟩ (pInt .i64) fun (x4 : Int) =>
    (IxOk x2.1 x4 x2.2.1) ∧
    loadW H true 6 ⟨(blkOf x2.1), (offOf x2.1 + x4.toNat * 6), none⟩ ⟨Int × ByteArray × ByteArray × ByteArray × Int × Int, fun x => (.agg #[(.int .i64 x.1), (.string x.2.1), (.string x.2.2.1), (.string x.2.2.2.1), (.int .i64 x.2.2.2.2.1), (.int .i64 x.2.2.2.2.2)])⟩ fun (x5 : Int × ByteArray × ByteArray × ByteArray × Int × Int) =>
    callW PP f_spec_isValue #[(.agg #[(.int .i64 x5.1), (.string x5.2.1), (.string x5.2.2.1), (.string x5.2.2.2.1), (.int .i64 x5.2.2.2.2.1), (.int .i64 x5.2.2.2.2.2)])] H pBool fun (x6 : Bool) H7 =>
    loadC H7 false 1 ⟨r, 1, none⟩ = some (.slice x3.1 x3.2.1 x3.2.2) ∧
    forkB (!x6)
    (retK (some [(.bool false)]) H7 R)
    (loadW H7 false 1 ⟨r, 1, none⟩ pSlc fun (x8 : (Option Addr × Nat × Nat)) =>
      ((0 : Int) ≤ 1 ∧ 1 ≤ ((x8.2.1 : Nat) : Int)) ∧
      storeW H7 ⟨r, 1, none⟩ [(.slice (slcA x8.1 x8.2.2 (1 : Int).toNat 1) (x8.2.1 - (1 : Int).toNat) (x8.2.2 - (1 : Int).toNat))] fun H9 =>
      retK (some [(.bool true)]) H9 R))
theorem rowOneValue.enter (r : Nat) (H : Heap) (R : Value → Heap → Prop) (h : rowOneValue.W r H R) : Fn PP f_spec_row_one #[(.pointer (some ⟨r, 0, none⟩)), (.func (.func f_spec_isValue) #[] #[])] H R :=
  fun_sound mixed Tryz.func52 ⟨patL [(8, pSlc), (16, pSlc), (20, pSlc), (22, (pInt .i64)), (24, ⟨Int × ByteArray × ByteArray × ByteArray × Int × Int, fun x => (.agg #[(.int .i64 x.1), (.string x.2.1), (.string x.2.2.1), (.string x.2.2.2.1), (.int .i64 x.2.2.2.2.1), (.int .i64 x.2.2.2.2.2)])⟩), (25, pBool), (32, pSlc)], loopL [], joinL [], joinL [], joinRL []⟩ [(.pointer (some ⟨r, 0, none⟩)), (.func (.func f_spec_isValue) #[] #[])] H R (Eq.mp (by unfold rowOneValue.W; kernel_rfl) h)

/-- spec.isSelections -/
def isSelections.W (n : Nd) (H : Heap) (R : Value → Heap → Prop) : Prop :=
  newB H (.cells #[(.int .i64 n.kind), (.string n.name), (.string n.alias), (.string n.text), (.int .i64 n.flag), (.int .i64 n.size)] t_impl_Node) fun b1 H2 =>
  loadW H2 false 1 ⟨b1, 0, none⟩ (pInt .i64) fun (x3 : Int) =>
  retK (some [(.bool (x3 == 5))]) H2 R
theorem isSelections.enter (n : Nd) (H : Heap) (R : Value → Heap → Prop) (h : isSelections.W n H R) : Fn PP f_spec_isSelections #[(.agg #[(.int .i64 n.kind), (.string n.name), (.string n.alias), (.string n.text), (.int .i64 n.flag), (.int .i64 n.size)])] H R :=
  fun_sound mixed Tryz.func53 ⟨patL [(4, (pInt .i64))], loopL [], joinL [], joinL [], joinRL []⟩ [(.agg #[(.int .i64 n.kind), (.string n.name), (.string n.alias), (.string n.text), (.int .i64 n.flag), (.int .i64 n.size)])] H R (Eq.mp (by unfold isSelections.W; kernel_rfl) h)

/-- spec.isObject -/
def isObject.W (n : Nd) (H : Heap) (R : Value → Heap → Prop) : Prop :=
  newB H (.cells #[(.int .i64 n.kind), (.string n.name), (.string n.alias), (.string n.text), (.int .i64 n.flag), (.int .i64 n.size)] t_impl_Node) fun b1 H2 =>
  loadW H2 false 1 ⟨b1, 0, none⟩ (pInt .i64) fun (x3 : Int) =>
  retK (some [(.bool (x3 == 27))]) H2 R
theorem isObject.enter (n : Nd) (H : Heap) (R : Value → Heap → Prop) (h : isObject.W n H R) : Fn PP f_spec_isObject #[(.agg #[(.int .i64 n.kind), (.string n.name), (.string n.alias), (.string n.text), (.int .i64 n.flag), (.int .i64 n.size)])] H R :=
  fun_sound mixed Tryz.func80 ⟨patL [(4, (pInt .i64))], loopL [], joinL [], joinL [], joinRL []⟩ [(.agg #[(.int .i64 n.kind), (.string n.name), (.string n.alias), (.string n.text), (.int .i64 n.flag), (.int .i64 n.size)])] H R (Eq.mp (by unfold isObject.W; kernel_rfl) h)

/-- spec.isNullable -/
def isNullable.W (n : Nd) (H : Heap) (R : Value → Heap → Prop) : Prop :=
  newB H (.cells #[(.int .i64 n.kind), (.string n.name), (.string n.alias), (.string n.text), (.int .i64 n.flag), (.int .i64 n.size)] t_impl_Node) fun b1 H2 =>
  loadW H2 true 6 ⟨b1, 0, none⟩ ⟨Int × ByteArray × ByteArray × ByteArray × Int × Int, fun x => (.agg #[(.int .i64 x.1), (.string x.2.1), (.string x.2.2.1), (.string x.2.2.2.1), (.int .i64 x.2.2.2.2.1), (.int .i64 x.2.2.2.2.2)])⟩ fun (x3 : Int × ByteArray × ByteArray × ByteArray × Int × Int) =>
  callW PP f_spec_isType #[(.agg #[(.int .i64 x3.1), (.string x3.2.1), (.string x3.2.2.1), (.string x3.2.2.2.1), (.int .i64 x3.2.2.2.2.1), (.int .i64 x3.2.2.2.2.2)])] H2 pBool fun (x4 : Bool) H5 =>
  forkB x4
  (loadW H5 false 1 ⟨b1, 0, none⟩ (pInt .i64) fun (x6 : Int) =>
    retK (some [(.bool (x6 != 22))]) H5 R)
  (retK (some [(.bool false)]) H5 R)
theorem isNullable.enter (n : Nd) (H : Heap) (R : Value → Heap → Prop) (h : isNullable.W n H R) : Fn PP f_spec_isNullable #[(.agg #[(.int .i64 n.kind), (.string n.name), (.string n.alias), (.string n.text), (.int .i64 n.flag), (.int .i64 n.size)])] H R :=
  fun_sound mixed Tryz.func56 ⟨patL [(3, ⟨Int × ByteArray × ByteArray × ByteArray × Int × Int, fun x => (.agg #[(.int .i64 x.1), (.string x.2.1), (.string x.2.2.1), (.string x.2.2.2.1), (.int .i64 x.2.2.2.2.1), (.int .i64 x.2.2.2.2.2)])⟩), (4, pBool), (7, (pInt .i64))], loopL [], joinL [], joinL [], joinRL []⟩ [(.agg #[(.int .i64 n.kind), (.string n.name), (.string n.alias), (.string n.text), (.int .i64 n.flag), (.int .i64 n.size)])] H R (Eq.mp (by unfold isNullable.W; kernel_rfl) h)

/-- spec.isType -/
def isType.W (n : Nd) (H : Heap) (R : Value → Heap → Prop) : Prop :=
  newB H (.cells #[(.int .i64 n.kind), (.string n.name), (.string n.alias), (.string n.text), (.int .i64 n.flag), (.int .i64 n.size)] t_impl_Node) fun b1 H2 =>
  loadW H2 false 1 ⟨b1, 0, none⟩ (pInt .i64) fun (x3 : Int) =>
  forkB (decide (x3 ≥ 20))
  (loadW H2 false 1 ⟨b1, 0, none⟩ (pInt .i64) fun (x4 : Int) =>
    retK (some [(.bool (decide (x4 ≤ 22)))]) H2 R)
  (retK (some [(.bool false)]) H2 R)
theorem isType.enter (n : Nd) (H : Heap) (R : Value → Heap → Prop) (h : isType.W n H R) : Fn PP f_spec_isType #[(.agg #[(.int .i64 n.kind), (.string n.name), (.string n.alias), (.string n.text), (.int .i64 n.flag), (.int .i64 n.size)])] H R :=
  fun_sound mixed Tryz.func43 ⟨patL [(4, (pInt .i64)), (8, (pInt .i64))], loopL [], joinL [], joinL [], joinRL []⟩ [(.agg #[(.int .i64 n.kind), (.string n.name), (.string n.alias), (.string n.text), (.int .i64 n.flag), (.int .i64 n.size)])] H R (Eq.mp (by unfold isType.W; kernel_rfl) h)

/-- spec.isValue -/
def isValue.W (n : Nd) (H : Heap) (R : Value → Heap → Prop) : Prop :=
  newB H (.cells #[(.int .i64 n.kind), (.string n.name), (.string n.alias), (.string n.text), (.int .i64 n.flag), (.int .i64 n.size)] t_impl_Node) fun b1 H2 =>
  loadW H2 false 1 ⟨b1, 0, none⟩ (pInt .i64) fun (x3 : Int) =>
  forkB (decide (x3 ≥ 11))
  (loadW H2 false 1 ⟨b1, 0, none⟩ (pInt .i64) fun (x4 : Int) =>
    retK (some [(.bool (decide (x4 ≤ 18)))]) H2 R)
  (retK (some [(.bool false)]) H2 R)
theorem isValue.enter (n : Nd) (H : Heap) (R : Value → Heap → Prop) (h : isValue.W n H R) : Fn PP f_spec_isValue #[(.agg #[(.int .i64 n.kind), (.string n.name), (.string n.alias), (.string n.text), (.int .i64 n.flag), (.int .i64 n.size)])] H R :=
  fun_sound mixed Tryz.func44 ⟨patL [(4, (pInt .i64)), (8, (pInt .i64))], loopL [], joinL [], joinL [], joinRL []⟩ [(.agg #[(.int .i64 n.kind), (.string n.name), (.string n.alias), (.string n.text), (.int .i64 n.flag), (.int .i64 n.size)])] H R (Eq.mp (by unfold isValue.W; kernel_rfl) h)

/-- spec.fixedAt -/
def fixedAt.W (d dO dN dC : Nat) (i : Int) (H : Heap) (R : Value → Heap → Prop) : Prop :=
  loopK (Int × Unit) (i, ()) H fun z1 H2 next3 =>
  (IxOk (some ⟨d, dO, none⟩) i dN) ∧
  loadW H2 false 1 ⟨d, ((dO + i.toNat * 6) + 5), none⟩ (pInt .i64) fun (x4 : Int) =>
  forkB (decide (z1.1 < (IntKind.i64.wrap (i + x4))))
  ((IxOk (some ⟨d, dO, none⟩) z1.1 dN) ∧
    loadW H2 false 1 ⟨d, (dO + z1.1.toNat * 6), none⟩ (pInt .i64) fun (x5 : Int) =>
    forkB (x5 == 11)
    (retK (some [(.bool false)]) H2 R)
    (next3 ((IntKind.i64.wrap (z1.1 + 1)), ()) H2))
  (retK (some [(.bool true)]) H2 R)
theorem fixedAt.enter (d dO dN dC : Nat) (i : Int) (H : Heap) (R : Value → Heap → Prop) (h : fixedAt.W d dO dN dC i H R) : Fn PP f_spec_fixedAt #[(.slice (some ⟨d, dO, none⟩) dN dC), (.int .i64 i)] H R :=
  fun_sound mixed Tryz.func54 ⟨patL [(13, (pInt .i64)), (22, (pInt .i64))], loopL [(0, [Slot.int .i64 5])], joinL [], joinL [], joinRL []⟩ [(.slice (some ⟨d, dO, none⟩) dN dC), (.int .i64 i)] H R (Eq.mp (by unfold fixedAt.W; kernel_rfl) h)

/-- spec.fixedHere -/
def fixedHere.W (d dO dN dC : Nat) (i : Int) (H : Heap) (R : Value → Heap → Prop) : Prop :=
  callW PP f_spec_KidsOf #[(.slice (some ⟨d, dO, none⟩) dN dC), (.int .i64 i), (.int .i64 10)] H pSlc fun (x1 : (Option Addr × Nat × Nat)) H2 =>
  loopK (Int × Unit) (0, ()) H2 fun z3 H4 next5 =>
  forkB (decide (z3.1 < ((x1.2.1 : Nat) : Int)))
  ((IxOk x1.1 z3.1 x1.2.1) ∧
    loadW H4 false 1 ⟨(blkOf x1.1), (offOf x1.1 + z3.1.toNat * 1), none⟩ (pInt .i64) fun (x6 : Int) =>
    callW PP f_spec_fixedAt #[(.slice (some ⟨d, dO, none⟩) dN dC), (.int .i64 x6)] H4 pBool fun (x7 : Bool) H8 =>
    forkB (!x7)
    (retK (some [(.bool false)]) H8 R)
    (next5 ((IntKind.i64.wrap (z3.1 + 1)), ()) H8))
  (retK (some [(.bool true)]) H4 R)
theorem fixedHere.enter (d dO dN dC : Nat) (i : Int) (H : Heap) (R : Value → Heap → Prop) (h : fixedHere.W d dO dN dC i H R) : Fn PP f_spec_fixedHere #[(.slice (some ⟨d, dO, none⟩) dN dC), (.int .i64 i)] H R :=
  fun_sound mixed Tryz.func82 ⟨patL [(9, pSlc), (20, (pInt .i64)), (21, pBool)], loopL [(0, [Slot.int .i64 6])], joinL [], joinL [], joinRL []⟩ [(.slice (some ⟨d, dO, none⟩) dN dC), (.int .i64 i)] H R (Eq.mp (by unfold fixedHere.W; kernel_rfl) h)

/-- spec.shaped -/
def shaped.W (d dO dN dC : Nat) (i : Int) (H : Heap) (R : Value → Heap → Prop) : Prop :=
  callW PP f_spec_Kids #[(.slice (some ⟨d, dO, none⟩) dN dC), (.int .i64 i)] H pSlc fun (x1 : (Option Addr × Nat × Nat)) H2 =>
  newB H2 (.cells #[(.slice (some ⟨d, dO, none⟩) dN dC), (.slice x1.1 x1.2.1 x1.2.2), (.int .i64 0)] t_spec_row) fun b3 H4 =>
  (IxOk (some ⟨d, dO, none⟩) i dN) ∧
  loadW H4 true 6 ⟨d, (dO + i.toNat * 6), none⟩ ⟨Int × ByteArray × ByteArray × ByteArray × Int × Int, fun x => (.agg #[(.int .i64 x.1), (.string x.2.1), (.string x.2.2.1), (.string x.2.2.2.1), (.int .i64 x.2.2.2.2.1), (.int .i64 x.2.2.2.2.2)])⟩ fun (x5 : Int × ByteArray × ByteArray × ByteArray × Int × Int) =>
  newB H4 (.cells #[(.int .i64 0), (.string (bs [])), (.string (bs [])), (.string (bs [])), (.int .i64 0), (.int .i64 0)] t_impl_Node) fun b6 H7 =>
  storeW H7 ⟨b6, 0, none⟩ [(.int .i64 x5.1), (.string x5.2.1), (.string x5.2.2.1), (.string x5.2.2.2.1), (.int .i64 x5.2.2.2.2.1), (.int .i64 x5.2.2.2.2.2)] fun H8 =>
  loadW H8 false 1 ⟨b6, 0, none⟩ (pInt .i64) fun (x9 : Int) =>
  forkB (x9 == 1)
  (newB H8 (.cells #[(.int .i64 2), (.int .i64 3), (.int .i64 24), (.int .i64 26), (.int .i64 27), (.int .i64 31), (.int .i64 32), (.int .i64 34), (.int .i64 36), (.int .i64 37), (.int .i64 39)] t_int) fun b10 H11 =>
    callW PP f_spec_row_all #[(.pointer (some ⟨b3, 0, none⟩)), (.slice (some ⟨b10, 0, none⟩) 11 11)] H11 pBlk fun (x12 : Nat) H13 =>
    callW PP f_spec_row_end #[(.pointer (some ⟨x12, 0, none⟩))] H13 pBool fun (x14 : Bool) H15 =>
    forkB x14
    (loadW H15 false 1 ⟨b3, 2, none⟩ (pInt .i64) fun (x16 : Int) =>
      retK (some [(.bool (decide (x16 > 0)))]) H15 R)
    (retK (some [(.bool false)]) H15 R))
  (forkB (x9 == 2)
    (loadW H8 false 1 ⟨b6, 4, none⟩ (pInt .i64) fun (x17 : Int) =>
      forkB (x17 == 1)
      (callW PP f_spec_row_one #[(.pointer (some ⟨b3, 0, none⟩)), (.func (.func f_spec_isSelections) #[] #[])] H8 pBool fun (x18 : Bool) H19 =>
        forkB x18
        (callW PP f_spec_row_end #[(.pointer (some ⟨b3, 0, none⟩))] H19 pBool fun (x20 : Bool) H21 =>
          retK (some [(.bool x20)]) H21 R)
        (retK (some [(.bool false)]) H19 R))
      (newB H8 (.cells #[(.int .i64 4)] t_int) fun b22 H23 =>
        callW PP f_spec_row_all #[(.pointer (some ⟨b3, 0, none⟩)), (.slice (some ⟨b22, 0, none⟩) 1 1)] H23 pBlk fun (x24 : Nat) H25 =>
        newB H25 (.cells #[(.int .i64 10)] t_int) fun b26 H27 =>
        callW PP f_spec_row_all #[(.pointer (some ⟨x24, 0, none⟩)), (.slice (some ⟨b26, 0, none⟩) 1 1)] H27 pBlk fun (x28 : Nat) H29 =>
        callW PP f_spec_row_one #[(.pointer (some ⟨b3, 0, none⟩)), (.func (.func f_spec_isSelections) #[] #[])] H29 pBool fun (x30 : Bool) H31 =>
        forkB x30
        (callW PP f_spec_row_end #[(.pointer (some ⟨b3, 0, none⟩))] H31 pBool fun (x32 : Bool) H33 =>
          retK (some [(.bool x32)]) H33 R)
        (retK (some [(.bool false)]) H31 R)))
    (forkB (x9 == 3)
      (newB H8 (.cells #[(.int .i64 10)] t_int) fun b34 H35 =>
        callW PP f_spec_row_all #[(.pointer (some ⟨b3, 0, none⟩)), (.slice (some ⟨b34, 0, none⟩) 1 1)] H35 pBlk fun (x36 : Nat) H37 =>
        callW PP f_spec_row_one #[(.pointer (some ⟨b3, 0, none⟩)), (.func (.func f_spec_isSelections) #[] #[])] H37 pBool fun (x38 : Bool) H39 =>
        forkB x38
        (callW PP f_spec_row_end #[(.pointer (some ⟨b3, 0, none⟩))] H39 pBool fun (x40 : Bool) H41 =>
          retK (some [(.bool x40)]) H41 R)
        (retK (some [(.bool false)]) H39 R))
      (forkB (x9 == 8)
        (newB H8 (.cells #[(.int .i64 10)] t_int) fun b42 H43 =>
          callW PP f_spec_row_all #[(.pointer (some ⟨b3, 0, none⟩)), (.slice (some ⟨b42, 0, none⟩) 1 1)] H43 pBlk fun (x44 : Nat) H45 =>
          callW PP f_spec_row_one #[(.pointer (some ⟨b3, 0, none⟩)), (.func (.func f_spec_isSelections) #[] #[])] H45 pBool fun (x46 : Bool) H47 =>
          forkB x46
          (callW PP f_spec_row_end #[(.pointer (some ⟨b3, 0, none⟩))] H47 pBool fun (x48 : Bool) H49 =>
            retK (some [(.bool x48)]) H49 R)
          (retK (some [(.bool false)]) H47 R))
        (forkB (x9 == 4)
          (callW PP f_spec_row_one #[(.pointer (some ⟨b3, 0, none⟩)), (.func (.func f_spec_isType) #[] #[])] H8 pBool fun (x50 : Bool) H51 =>
            forkB x50
            (callW PP f_spec_row_end #[(.pointer (some ⟨b3, 0, none⟩))] H51 pBool fun (x52 : Bool) H53 =>
              forkB x52
              (retK (some [(.bool true)]) H53 R)
              (callW PP f_spec_row_one #[(.pointer (some ⟨b3, 0, none⟩)), (.func (.func f_spec_isValue) #[] #[])] H53 pBool fun (x54 : Bool) H55 =>
                forkB x54
                (callW PP f_spec_row_end #[(.pointer (some ⟨b3, 0, none⟩))] H55 pBool fun (x56 : Bool) H57 =>
                  forkB x56
                  (callW PP f_spec_fixedAt #[(.slice (some ⟨d, dO, none⟩) dN dC), (.int .i64 i)] H57 pBool fun (x58 : Bool) H59 =>
                    retK (some [(.bool x58)]) H59 R)
                  (retK (some [(.bool false)]) H57 R))
                (retK (some [(.bool false)]) H55 R)))
            (retK (some [(.bool false)]) H51 R))
          (forkB (x9 == 5)
            (newB H8 (.cells #[(.int .i64 6), (.int .i64 7), (.int .i64 8)] t_int) fun b60 H61 =>
              callW PP f_spec_row_all #[(.pointer (some ⟨b3, 0, none⟩)), (.slice (some ⟨b60, 0, none⟩) 3 3)] H61 pBlk fun (x62 : Nat) H63 =>
              callW PP f_spec_row_end #[(.pointer (some ⟨x62, 0, none⟩))] H63 pBool fun (x64 : Bool) H65 =>
              forkB x64
              (loadW H65 false 1 ⟨b3, 2, none⟩ (pInt .i64) fun (x66 : Int) =>
                retK (some [(.bool (decide (x66 > 0)))]) H65 R)
              (retK (some [(.bool false)]) H65 R))
            (forkB (x9 == 6)
              (newB H8 (.cells #[(.int .i64 9)] t_int) fun b67 H68 =>
                callW PP f_spec_row_all #[(.pointer (some ⟨b3, 0, none⟩)), (.slice (some ⟨b67, 0, none⟩) 1 1)] H68 pBlk fun (x69 : Nat) H70 =>
                newB H70 (.cells #[(.int .i64 10)] t_int) fun b71 H72 =>
                callW PP f_spec_row_all #[(.pointer (some ⟨x69, 0, none⟩)), (.slice (some ⟨b71, 0, none⟩) 1 1)] H72 pBlk fun (x73 : Nat) H74 =>
                newB H74 (.cells #[(.int .i64 5)] t_int) fun b75 H76 =>
                callW PP f_spec_row_all #[(.pointer (some ⟨x73, 0, none⟩)), (.slice (some ⟨b75, 0, none⟩) 1 1)] H76 pBlk fun (x77 : Nat) H78 =>
                callW PP f_spec_row_end #[(.pointer (some ⟨x77, 0, none⟩))] H78 pBool fun (x79 : Bool) H80 =>
                forkB x79
                (callW PP f_spec_row_most #[(.pointer (some ⟨b3, 0, none⟩))] H80 pBool fun (x81 : Bool) H82 =>
                  retK (some [(.bool x81)]) H82 R)
                (retK (some [(.bool false)]) H80 R))
              (forkB (x9 == 7)
                (newB H8 (.cells #[(.int .i64 10)] t_int) fun b83 H84 =>
                  callW PP f_spec_row_all #[(.pointer (some ⟨b3, 0, none⟩)), (.slice (some ⟨b83, 0, none⟩) 1 1)] H84 pBlk fun (x85 : Nat) H86 =>
                  callW PP f_spec_row_end #[(.pointer (some ⟨x85, 0, none⟩))] H86 pBool fun (x87 : Bool) H88 =>
                  retK (some [(.bool x87)]) H88 R)
                (forkB (x9 == 9)
                  (callW PP f_spec_row_one #[(.pointer (some ⟨b3, 0, none⟩)), (.func (.func f_spec_isValue) #[] #[])] H8 pBool fun (x89 : Bool) H90 =>
                    forkB x89
                    (callW PP f_spec_row_end #[(.pointer (some ⟨b3, 0, none⟩))] H90 pBool fun (x91 : Bool) H92 =>
                      retK (some [(.bool x91)]) H92 R)
                    (retK (some [(.bool false)]) H90 R))
                  (forkB (x9 == 19)
                    (callW PP f_spec_row_one #[(.pointer (some ⟨b3, 0, none⟩)), (.func (.func f_spec_isValue) #[] #[])] H8 pBool fun (x93 : Bool) H94 =>
                      forkB x93
                      (callW PP f_spec_row_end #[(.pointer (some ⟨b3, 0, none⟩))] H94 pBool fun (x95 : Bool) H96 =>
                        retK (some [(.bool x95)]) H96 R)
                      (retK (some [(.bool false)]) H94 R))
                    (forkB (x9 == 10)
                      (newB H8 (.cells #[(.int .i64 9)] t_int) fun b97 H98 =>
                        callW PP f_spec_row_all #[(.pointer (some ⟨b3, 0, none⟩)), (.slice (some ⟨b97, 0, none⟩) 1 1)] H98 pBlk fun (x99 : Nat) H100 =>
                        callW PP f_spec_row_end #[(.pointer (some ⟨x99, 0, none⟩))] H100 pBool fun (x101 : Bool) H102 =>
                        retK (some [(.bool x101)]) H102 R)
                      (forkB (x9 == 17)
                        (loopK (Unit) (()) H8 fun z103 H104 next105 =>
                          callW PP f_spec_row_one #[(.pointer (some ⟨b3, 0, none⟩)), (.func (.func f_spec_isValue) #[] #[])] H104 pBool fun (x106 : Bool) H107 =>
                          forkB x106
                          (next105 (()) H107)
                          (callW PP f_spec_row_end #[(.pointer (some ⟨b3, 0, none⟩))] H107 pBool fun (x108 : Bool) H109 =>
                            retK (some [(.bool x108)]) H109 R))
                        (forkB (x9 == 18)
                          (newB H8 (.cells #[(.int .i64 19)] t_int) fun b110 H111 =>
                            callW PP f_spec_row_all #[(.pointer (some ⟨b3, 0, none⟩)), (.slice (some ⟨b110, 0, none⟩) 1 1)] H111 pBlk fun (x112 : Nat) H113 =>
                            callW PP f_spec_row_end #[(.pointer (some ⟨x112, 0, none⟩))] H113 pBool fun (x114 : Bool) H115 =>
                            retK (some [(.bool x114)]) H115 R)
                          (forkB (x9 == 21)
                            (callW PP f_spec_row_one #[(.pointer (some ⟨b3, 0, none⟩)), (.func (.func f_spec_isType) #[] #[])] H8 pBool fun (x116 : Bool) H117 =>
                              forkB x116
                              (callW PP f_spec_row_end #[(.pointer (some ⟨b3, 0, none⟩))] H117 pBool fun (x118 : Bool) H119 =>
                                retK (some [(.bool x118)]) H119 R)
                              (retK (some [(.bool false)]) H117 R))
                            (forkB (x9 == 22)
                              (callW PP f_spec_row_one #[(.pointer (some ⟨b3, 0, none⟩)), (.func (.func f_spec_isNullable) #[] #[])] H8 pBool fun (x120 : Bool) H121 =>
                                forkB x120
                                (callW PP f_spec_row_end #[(.pointer (some ⟨b3, 0, none⟩))] H121 pBool fun (x122 : Bool) H123 =>
                                  retK (some [(.bool x122)]) H123 R)
                                (retK (some [(.bool false)]) H121 R))
                              ((IxOk (some ⟨d, dO, none⟩) i dN) ∧
                                loadW H8 false 1 ⟨d, (dO + i.toNat * 6), none⟩ (pInt .i64) fun (x124 : Int) =>
                                callW PP f_spec_shapedType #[(.pointer (some ⟨b3, 0, none⟩)), (.int .i64 x124), (.slice (some ⟨d, dO, none⟩) dN dC), (.int .i64 i)] H8 pBool fun (x125 : Bool) H126 =>
                                retK (some [(.bool x125)]) H126 R)))))))))))))))
theorem shaped.enter (d dO dN dC : Nat) (i : Int) (H : Heap) (R : Value → Heap → Prop) (h : shaped.W d dO dN dC i H R) : Fn PP f_spec_shaped #[(.slice (some ⟨d, dO, none⟩) dN dC), (.int .i64 i)] H R :=
  fun_sound mixed Tryz.func32 ⟨patL [(10, pSlc), (16, ⟨Int × ByteArray × ByteArray × ByteArray × Int × Int, fun x => (.agg #[(.int .i64 x.1), (.string x.2.1), (.string x.2.2.1), (.string x.2.2.2.1), (.int .i64 x.2.2.2.2.1), (.int .i64 x.2.2.2.2.2)])⟩), (18, (pInt .i64)), (23, pBlk), (24, pBool), (29, (pInt .i64)), (35, (pInt .i64)), (38, pBool), (41, pBool), (45, pBlk), (47, pBlk), (49, pBool), (52, pBool), (59, pBlk), (61, pBool), (64, pBool), (69, pBool), (72, pBool), (75, pBool), (78, pBool), (83, pBool), (91, pBlk), (92, pBool), (97, (pInt .i64)), (104, pBlk), (106, pBlk), (108, pBlk), (109, pBool), (112, pBool), (118, pBlk), (119, pBool), (124, pBool), (127, pBool), (133, pBlk), (134, pBool), (138, pBool), (140, pBool), (145, pBlk), (146, pBool), (150, pBool), (153, pBool), (158, pBool), (161, pBool), (168, (pInt .i64)), (171, pBool)], loopL [(1, [])], joinL [], joinL [], joinRL []⟩ [(.slice (some ⟨d, dO, none⟩) dN dC), (.int .i64 i)] H R (Eq.mp (by unfold shaped.W; kernel_rfl) h)

/-- spec.shapedType -/
def shapedType.W (r : Nat) (kind : Int) (d dO dN dC : Nat) (i : Int) (H : Heap) (R : Value → Heap → Prop) : Prop :=
  joinK (Unit) (fun J1 =>
  forkB (kind == 24)
    (joinK (Bool × Unit) (fun J4 =>
      newB H (.cells #[(.int .i64 10)] t_int) fun b7 H8 =>
        callW PP f_spec_row_all #[(.pointer (some ⟨r, 0, none⟩)), (.slice (some ⟨b7, 0, none⟩) 1 1)] H8 pBlk fun (x9 : Nat) H10 =>
        newB H10 (.cells #[(.int .i64 25)] t_int) fun b11 H12 =>
        callW PP f_spec_row_all #[(.pointer (some ⟨x9, 0, none⟩)), (.slice (some ⟨b11, 0, none⟩) 1 1)] H12 pBlk fun (x13 : Nat) H14 =>
        callW PP f_spec_row_end #[(.pointer (some ⟨x13, 0, none⟩))] H14 pBool fun (x15 : Bool) H16 =>
        forkB x15
        (loadW H16 false 1 ⟨r, 2, none⟩ (pInt .i64) fun (x17 : Int) =>
          J4 ((decide (x17 > 0)), ()) H16)
        (J4 (false, ()) H16)) fun y5 H6 =>
      retK (some [(.bool y5.1)]) H6 R)
    (forkB (kind == 39)
      (joinK (Bool × Unit) (fun J18 =>
        callW PP f_spec_row_one #[(.pointer (some ⟨r, 0, none⟩)), (.func (.func f_spec_isObject) #[] #[])] H pBool fun (x21 : Bool) H22 =>
          forkB x21
          (callW PP f_spec_row_end #[(.pointer (some ⟨r, 0, none⟩))] H22 pBool fun (x23 : Bool) H24 =>
            forkB x23
            (callW PP f_spec_KidOf #[(.slice (some ⟨d, dO, none⟩) dN dC), (.int .i64 (IntKind.i64.wrap (i + 1))), (.int .i64 23)] H24 (pInt .i64) fun (x25 : Int) H26 =>
              J18 ((decide (x25 < 0)), ()) H26)
            (J18 (false, ()) H24))
          (J18 (false, ()) H22)) fun y19 H20 =>
        retK (some [(.bool y19.1)]) H20 R)
      (forkB (kind == 26)
        (newB H (.cells #[(.int .i64 23)] t_int) fun b27 H28 =>
          callW PP f_spec_row_all #[(.pointer (some ⟨r, 0, none⟩)), (.slice (some ⟨b27, 0, none⟩) 1 1)] H28 pBlk fun (x29 : Nat) H30 =>
          callW PP f_spec_row_most #[(.pointer (some ⟨x29, 0, none⟩))] H30 pBool fun (x31 : Bool) H32 =>
          forkB (!x31)
          (retK (some [(.bool false)]) H32 R)
          (J1 (()) H32))
        (forkB (kind == 35)
          (newB H (.cells #[(.int .i64 23)] t_int) fun b33 H34 =>
            callW PP f_spec_row_all #[(.pointer (some ⟨r, 0, none⟩)), (.slice (some ⟨b33, 0, none⟩) 1 1)] H34 pBlk fun (x35 : Nat) H36 =>
            callW PP f_spec_row_most #[(.pointer (some ⟨x35, 0, none⟩))] H36 pBool fun (x37 : Bool) H38 =>
            forkB (!x37)
            (retK (some [(.bool false)]) H38 R)
            (J1 (()) H38))
          (forkB (kind == 27)
            (newB H (.cells #[(.int .i64 23)] t_int) fun b39 H40 =>
              callW PP f_spec_row_all #[(.pointer (some ⟨r, 0, none⟩)), (.slice (some ⟨b39, 0, none⟩) 1 1)] H40 pBlk fun (x41 : Nat) H42 =>
              callW PP f_spec_row_most #[(.pointer (some ⟨x41, 0, none⟩))] H42 pBool fun (x43 : Bool) H44 =>
              forkB (!x43)
              (retK (some [(.bool false)]) H44 R)
              (J1 (()) H44))
            (forkB (kind == 31)
              (newB H (.cells #[(.int .i64 23)] t_int) fun b45 H46 =>
                callW PP f_spec_row_all #[(.pointer (some ⟨r, 0, none⟩)), (.slice (some ⟨b45, 0, none⟩) 1 1)] H46 pBlk fun (x47 : Nat) H48 =>
                callW PP f_spec_row_most #[(.pointer (some ⟨x47, 0, none⟩))] H48 pBool fun (x49 : Bool) H50 =>
                forkB (!x49)
                (retK (some [(.bool false)]) H50 R)
                (J1 (()) H50))
              (forkB (kind == 32)
                (newB H (.cells #[(.int .i64 23)] t_int) fun b51 H52 =>
                  callW PP f_spec_row_all #[(.pointer (some ⟨r, 0, none⟩)), (.slice (some ⟨b51, 0, none⟩) 1 1)] H52 pBlk fun (x53 : Nat) H54 =>
                  callW PP f_spec_row_most #[(.pointer (some ⟨x53, 0, none⟩))] H54 pBool fun (x55 : Bool) H56 =>
                  forkB (!x55)
                  (retK (some [(.bool false)]) H56 R)
                  (J1 (()) H56))
                (forkB (kind == 34)
                  (newB H (.cells #[(.int .i64 23)] t_int) fun b57 H58 =>
                    callW PP f_spec_row_all #[(.pointer (some ⟨r, 0, none⟩)), (.slice (some ⟨b57, 0, none⟩) 1 1)] H58 pBlk fun (x59 : Nat) H60 =>
                    callW PP f_spec_row_most #[(.pointer (some ⟨x59, 0, none⟩))] H60 pBool fun (x61 : Bool) H62 =>
                    forkB (!x61)
                    (retK (some [(.bool false)]) H62 R)
                    (J1 (()) H62))
                  (forkB (kind == 36)
                    (newB H (.cells #[(.int .i64 23)] t_int) fun b63 H64 =>
                      callW PP f_spec_row_all #[(.pointer (some ⟨r, 0, none⟩)), (.slice (some ⟨b63, 0, none⟩) 1 1)] H64 pBlk fun (x65 : Nat) H66 =>
                      callW PP f_spec_row_most #[(.pointer (some ⟨x65, 0, none⟩))] H66 pBool fun (x67 : Bool) H68 =>
                      forkB (!x67)
                      (retK (some [(.bool false)]) H68 R)
                      (J1 (()) H68))
                    (forkB (kind == 29)
                      (newB H (.cells #[(.int .i64 23)] t_int) fun b69 H70 =>
                        callW PP f_spec_row_all #[(.pointer (some ⟨r, 0, none⟩)), (.slice (some ⟨b69, 0, none⟩) 1 1)] H70 pBlk fun (x71 : Nat) H72 =>
                        callW PP f_spec_row_most #[(.pointer (some ⟨x71, 0, none⟩))] H72 pBool fun (x73 : Bool) H74 =>
                        forkB (!x73)
                        (retK (some [(.bool false)]) H74 R)
                        (J1 (()) H74))
                      (forkB (kind == 30)
                        (newB H (.cells #[(.int .i64 23)] t_int) fun b75 H76 =>
                          callW PP f_spec_row_all #[(.pointer (some ⟨r, 0, none⟩)), (.slice (some ⟨b75, 0, none⟩) 1 1)] H76 pBlk fun (x77 : Nat) H78 =>
                          callW PP f_spec_row_most #[(.pointer (some ⟨x77, 0, none⟩))] H78 pBool fun (x79 : Bool) H80 =>
                          forkB (!x79)
                          (retK (some [(.bool false)]) H80 R)
                          (J1 (()) H80))
                        (forkB (kind == 37)
                          (newB H (.cells #[(.int .i64 23)] t_int) fun b81 H82 =>
                            callW PP f_spec_row_all #[(.pointer (some ⟨r, 0, none⟩)), (.slice (some ⟨b81, 0, none⟩) 1 1)] H82 pBlk fun (x83 : Nat) H84 =>
                            callW PP f_spec_row_most #[(.pointer (some ⟨x83, 0, none⟩))] H84 pBool fun (x85 : Bool) H86 =>
                            forkB (!x85)
                            (retK (some [(.bool false)]) H86 R)
                            (J1 (()) H86))
                          (J1 (()) H))))))))))))) fun y2 H3 =>
  forkB (kind == 26)
  (joinK (Bool × Unit) (fun J87 =>
    callW PP f_spec_fixedAt #[(.slice (some ⟨d, dO, none⟩) dN dC), (.int .i64 i)] H3 pBool fun (x90 : Bool) H91 =>
      forkB x90
      (newB H91 (.cells #[(.int .i64 10)] t_int) fun b92 H93 =>
        callW PP f_spec_row_all #[(.pointer (some ⟨r, 0, none⟩)), (.slice (some ⟨b92, 0, none⟩) 1 1)] H93 pBlk fun (x94 : Nat) H95 =>
        callW PP f_spec_row_end #[(.pointer (some ⟨x94, 0, none⟩))] H95 pBool fun (x96 : Bool) H97 =>
        J87 (x96, ()) H97)
      (J87 (false, ()) H91)) fun y88 H89 =>
    retK (some [(.bool y88.1)]) H89 R)
  (forkB (kind == 35)
    (joinK (Bool × Unit) (fun J98 =>
      callW PP f_spec_fixedAt #[(.slice (some ⟨d, dO, none⟩) dN dC), (.int .i64 i)] H3 pBool fun (x101 : Bool) H102 =>
        forkB x101
        (newB H102 (.cells #[(.int .i64 10)] t_int) fun b103 H104 =>
          callW PP f_spec_row_all #[(.pointer (some ⟨r, 0, none⟩)), (.slice (some ⟨b103, 0, none⟩) 1 1)] H104 pBlk fun (x105 : Nat) H106 =>
          callW PP f_spec_row_end #[(.pointer (some ⟨x105, 0, none⟩))] H106 pBool fun (x107 : Bool) H108 =>
          J98 (x107, ()) H108)
        (J98 (false, ()) H102)) fun y99 H100 =>
      retK (some [(.bool y99.1)]) H100 R)
    (forkB (kind == 27)
      (joinK (Bool × Unit) (fun J109 =>
        callW PP f_spec_fixedHere #[(.slice (some ⟨d, dO, none⟩) dN dC), (.int .i64 i)] H3 pBool fun (x112 : Bool) H113 =>
          forkB x112
          (newB H113 (.cells #[(.int .i64 28)] t_int) fun b114 H115 =>
            callW PP f_spec_row_all #[(.pointer (some ⟨r, 0, none⟩)), (.slice (some ⟨b114, 0, none⟩) 1 1)] H115 pBlk fun (x116 : Nat) H117 =>
            newB H117 (.cells #[(.int .i64 10)] t_int) fun b118 H119 =>
            callW PP f_spec_row_all #[(.pointer (some ⟨x116, 0, none⟩)), (.slice (some ⟨b118, 0, none⟩) 1 1)] H119 pBlk fun (x120 : Nat) H121 =>
            newB H121 (.cells #[(.int .i64 29)] t_int) fun b122 H123 =>
            callW PP f_spec_row_all #[(.pointer (some ⟨x120, 0, none⟩)), (.slice (some ⟨b122, 0, none⟩) 1 1)] H123 pBlk fun (x124 : Nat) H125 =>
            callW PP f_spec_row_end #[(.pointer (some ⟨x124, 0, none⟩))] H125 pBool fun (x126 : Bool) H127 =>
            forkB x126
            (loadW H127 false 1 ⟨r, 2, none⟩ (pInt .i64) fun (x128 : Int) =>
              J109 ((decide (x128 > 0)), ()) H127)
            (J109 (false, ()) H127))
          (J109 (false, ()) H113)) fun y110 H111 =>
        retK (some [(.bool y110.1)]) H111 R)
      (forkB (kind == 31)
        (joinK (Bool × Unit) (fun J129 =>
          callW PP f_spec_fixedHere #[(.slice (some ⟨d, dO, none⟩) dN dC), (.int .i64 i)] H3 pBool fun (x132 : Bool) H133 =>
            forkB x132
            (newB H133 (.cells #[(.int .i64 10)] t_int) fun b134 H135 =>
              callW PP f_spec_row_all #[(.pointer (some ⟨r, 0, none⟩)), (.slice (some ⟨b134, 0, none⟩) 1 1)] H135 pBlk fun (x136 : Nat) H137 =>
              newB H137 (.cells #[(.int .i64 29)] t_int) fun b138 H139 =>
              callW PP f_spec_row_all #[(.pointer (some ⟨x136, 0, none⟩)), (.slice (some ⟨b138, 0, none⟩) 1 1)] H139 pBlk fun (x140 : Nat) H141 =>
              callW PP f_spec_row_end #[(.pointer (some ⟨x140, 0, none⟩))] H141 pBool fun (x142 : Bool) H143 =>
              forkB x142
              (loadW H143 false 1 ⟨r, 2, none⟩ (pInt .i64) fun (x144 : Int) =>
                J129 ((decide (x144 > 0)), ()) H143)
              (J129 (false, ()) H143))
            (J129 (false, ()) H133)) fun y130 H131 =>
          retK (some [(.bool y130.1)]) H131 R)
        (forkB (kind == 32)
          (joinK (Bool × Unit) (fun J145 =>
            callW PP f_spec_fixedAt #[(.slice (some ⟨d, dO, none⟩) dN dC), (.int .i64 i)] H3 pBool fun (x148 : Bool) H149 =>
              forkB x148
              (newB H149 (.cells #[(.int .i64 10)] t_int) fun b150 H151 =>
                callW PP f_spec_row_all #[(.pointer (some ⟨r, 0, none⟩)), (.slice (some ⟨b150, 0, none⟩) 1 1)] H151 pBlk fun (x152 : Nat) H153 =>
                newB H153 (.cells #[(.int .i64 33)] t_int) fun b154 H155 =>
                callW PP f_spec_row_all #[(.pointer (some ⟨x152, 0, none⟩)), (.slice (some ⟨b154, 0, none⟩) 1 1)] H155 pBlk fun (x156 : Nat) H157 =>
                callW PP f_spec_row_end #[(.pointer (some ⟨x156, 0, none⟩))] H157 pBool fun (x158 : Bool) H159 =>
                forkB x158
                (loadW H159 false 1 ⟨r, 2, none⟩ (pInt .i64) fun (x160 : Int) =>
                  J145 ((decide (x160 > 0)), ()) H159)
                (J145 (false, ()) H159))
              (J145 (false, ()) H149)) fun y146 H147 =>
            retK (some [(.bool y146.1)]) H147 R)
          (forkB (kind == 34)
            (joinK (Bool × Unit) (fun J161 =>
              callW PP f_spec_fixedHere #[(.slice (some ⟨d, dO, none⟩) dN dC), (.int .i64 i)] H3 pBool fun (x164 : Bool) H165 =>
                forkB x164
                (newB H165 (.cells #[(.int .i64 10)] t_int) fun b166 H167 =>
                  callW PP f_spec_row_all #[(.pointer (some ⟨r, 0, none⟩)), (.slice (some ⟨b166, 0, none⟩) 1 1)] H167 pBlk fun (x168 : Nat) H169 =>
                  newB H169 (.cells #[(.int .i64 35)] t_int) fun b170 H171 =>
                  callW PP f_spec_row_all #[(.pointer (some ⟨x168, 0, none⟩)), (.slice (some ⟨b170, 0, none⟩) 1 1)] H171 pBlk fun (x172 : Nat) H173 =>
                  callW PP f_spec_row_end #[(.pointer (some ⟨x172, 0, none⟩))] H173 pBool fun (x174 : Bool) H175 =>
                  forkB x174
                  (loadW H175 false 1 ⟨r, 2, none⟩ (pInt .i64) fun (x176 : Int) =>
                    J161 ((decide (x176 > 0)), ()) H175)
                  (J161 (false, ()) H175))
                (J161 (false, ()) H165)) fun y162 H163 =>
              retK (some [(.bool y162.1)]) H163 R)
            (forkB (kind == 36)
              (joinK (Bool × Unit) (fun J177 =>
                callW PP f_spec_fixedHere #[(.slice (some ⟨d, dO, none⟩) dN dC), (.int .i64 i)] H3 pBool fun (x180 : Bool) H181 =>
                  forkB x180
                  (newB H181 (.cells #[(.int .i64 10)] t_int) fun b182 H183 =>
                    callW PP f_spec_row_all #[(.pointer (some ⟨r, 0, none⟩)), (.slice (some ⟨b182, 0, none⟩) 1 1)] H183 pBlk fun (x184 : Nat) H185 =>
                    newB H185 (.cells #[(.int .i64 30)] t_int) fun b186 H187 =>
                    callW PP f_spec_row_all #[(.pointer (some ⟨x184, 0, none⟩)), (.slice (some ⟨b186, 0, none⟩) 1 1)] H187 pBlk fun (x188 : Nat) H189 =>
                    callW PP f_spec_row_end #[(.pointer (some ⟨x188, 0, none⟩))] H189 pBool fun (x190 : Bool) H191 =>
                    forkB x190
                    (loadW H191 false 1 ⟨r, 2, none⟩ (pInt .i64) fun (x192 : Int) =>
                      J177 ((decide (x192 > 0)), ()) H191)
                    (J177 (false, ()) H191))
                  (J177 (false, ()) H181)) fun y178 H179 =>
                retK (some [(.bool y178.1)]) H179 R)
              (forkB (kind == 29)
                (newB H3 (.cells #[(.int .i64 30)] t_int) fun b193 H194 =>
                  callW PP f_spec_row_all #[(.pointer (some ⟨r, 0, none⟩)), (.slice (some ⟨b193, 0, none⟩) 1 1)] H194 pBlk fun (x195 : Nat) H196 =>
                  joinK (Bool × Unit) (fun J197 =>
                  callW PP f_spec_fixedAt #[(.slice (some ⟨d, dO, none⟩) dN dC), (.int .i64 i)] H196 pBool fun (x200 : Bool) H201 =>
                    forkB x200
                    (callW PP f_spec_row_one #[(.pointer (some ⟨r, 0, none⟩)), (.func (.func f_spec_isType) #[] #[])] H201 pBool fun (x202 : Bool) H203 =>
                      forkB x202
                      (newB H203 (.cells #[(.int .i64 10)] t_int) fun b204 H205 =>
                        callW PP f_spec_row_all #[(.pointer (some ⟨r, 0, none⟩)), (.slice (some ⟨b204, 0, none⟩) 1 1)] H205 pBlk fun (x206 : Nat) H207 =>
                        callW PP f_spec_row_end #[(.pointer (some ⟨x206, 0, none⟩))] H207 pBool fun (x208 : Bool) H209 =>
                        J197 (x208, ()) H209)
                      (J197 (false, ()) H203))
                    (J197 (false, ()) H201)) fun y198 H199 =>
                  retK (some [(.bool y198.1)]) H199 R)
                (forkB (kind == 30)
                  (joinK (Bool × Unit) (fun J210 =>
                    callW PP f_spec_fixedAt #[(.slice (some ⟨d, dO, none⟩) dN dC), (.int .i64 i)] H3 pBool fun (x213 : Bool) H214 =>
                      forkB (!x213)
                      (J210 (true, ()) H214)
                      (callW PP f_spec_row_one #[(.pointer (some ⟨r, 0, none⟩)), (.func (.func f_spec_isType) #[] #[])] H214 pBool fun (x215 : Bool) H216 =>
                        J210 ((!x215), ()) H216)) fun y211 H212 =>
                    forkB y211.1
                    (retK (some [(.bool false)]) H212 R)
                    (callW PP f_spec_row_one #[(.pointer (some ⟨r, 0, none⟩)), (.func (.func f_spec_isValue) #[] #[])] H212 pBool fun (x217 : Bool) H218 =>
                      newB H218 (.cells #[(.int .i64 10)] t_int) fun b219 H220 =>
                      callW PP f_spec_row_all #[(.pointer (some ⟨r, 0, none⟩)), (.slice (some ⟨b219, 0, none⟩) 1 1)] H220 pBlk fun (x221 : Nat) H222 =>
                      callW PP f_spec_row_end #[(.pointer (some ⟨x221, 0, none⟩))] H222 pBool fun (x223 : Bool) H224 =>
                      retK (some [(.bool x223)]) H224 R))
                  (forkB (kind == 37)
                    (joinK (Bool × Unit) (fun J225 =>
                      newB H3 (.cells #[(.int .i64 30)] t_int) fun b228 H229 =>
                        callW PP f_spec_row_all #[(.pointer (some ⟨r, 0, none⟩)), (.slice (some ⟨b228, 0, none⟩) 1 1)] H229 pBlk fun (x230 : Nat) H231 =>
                        newB H231 (.cells #[(.int .i64 38)] t_int) fun b232 H233 =>
                        callW PP f_spec_row_all #[(.pointer (some ⟨x230, 0, none⟩)), (.slice (some ⟨b232, 0, none⟩) 1 1)] H233 pBlk fun (x234 : Nat) H235 =>
                        callW PP f_spec_row_end #[(.pointer (some ⟨x234, 0, none⟩))] H235 pBool fun (x236 : Bool) H237 =>
                        forkB x236
                        (loadW H237 false 1 ⟨r, 2, none⟩ (pInt .i64) fun (x238 : Int) =>
                          J225 ((decide (x238 > 0)), ()) H237)
                        (J225 (false, ()) H237)) fun y226 H227 =>
                      retK (some [(.bool y226.1)]) H227 R)
                    (callW PP f_spec_row_end #[(.pointer (some ⟨r, 0, none⟩))] H3 pBool fun (x239 : Bool) H240 =>
                      retK (some [(.bool x239)]) H240 R))))))))))
theorem shapedType.enter (r : Nat) (kind : Int) (d dO dN dC : Nat) (i : Int) (H : Heap) (R : Value → Heap → Prop) (h : shapedType.W r kind d dO dN dC i H R) : Fn PP f_spec_shapedType #[(.pointer (some ⟨r, 0, none⟩)), (.int .i64 kind), (.slice (some ⟨d, dO, none⟩) dN dC), (.int .i64 i)] H R :=
  fun_sound mixed Tryz.func57 ⟨patL [(14, pBlk), (16, pBlk), (17, pBool), (22, (pInt .i64)), (28, pBool), (31, pBool), (37, (pInt .i64)), (53, pBlk), (54, pBool), (62, pBool), (66, pBlk), (67, pBool), (73, pBool), (77, pBlk), (79, pBlk), (81, pBlk), (82, pBool), (88, (pInt .i64)), (95, pBool), (99, pBlk), (101, pBlk), (102, pBool), (108, (pInt .i64)), (115, pBool), (119, pBlk), (121, pBlk), (122, pBool), (128, (pInt .i64)), (135, pBool), (139, pBlk), (141, pBlk), (142, pBool), (148, (pInt .i64)), (155, pBool), (159, pBlk), (161, pBlk), (162, pBool), (168, (pInt .i64)), (175, pBlk), (178, pBool), (181, pBool), (186, pBlk), (187, pBool), (193, pBool), (197, pBool), (201, pBool), (204, pBlk), (205, pBool), (210, pBlk), (212, pBlk), (213, pBool), (218, (pInt .i64)), (222, pBool)], loopL [], joinL [], joinL [(0, [])], joinRL [(3, [Slot.bool 8], false), (5, [Slot.bool 8], false), (21, [Slot.bool 8], false), (23, [Slot.bool 8], false), (25, [Slot.bool 8], false), (27, [Slot.bool 8], false), (29, [Slot.bool 8], false), (31, [Slot.bool 8], false), (34, [Slot.bool 8], false), (36, [Slot.bool 199], false), (41, [Slot.bool 8], false)]⟩ [(.pointer (some ⟨r, 0, none⟩)), (.int .i64 kind), (.slice (some ⟨d, dO, none⟩) dN dC), (.int .i64 i)] H R (Eq.mp (by unfold shapedType.W; kernel_rfl) h)

/-- spec.rightFrom -/
def rightFrom.W (d dO dN dC : Nat) (H : Heap) (R : Value → Heap → Prop) : Prop :=
  forkB (((dN : Nat) : Int) == 0)
  (retK (some [(.bool false)]) H R)
  (forkB (decide (((dN : Nat) : Int) > 400))
    (retK (some [(.bool false)]) H R)
    ((IxOk (some ⟨d, dO, none⟩) 0 dN) ∧
      loadW H false 1 ⟨d, ((dO + (0 : Int).toNat * 6) + 5), none⟩ (pInt .i64) fun (x1 : Int) =>
      forkB (x1 != ((dN : Nat) : Int))
      (retK (some [(.bool false)]) H R)
      (callW PP f_spec_sized #[(.slice (some ⟨d, dO, none⟩) dN dC), (.int .i64 0), (.int .i64 ((dN : Nat) : Int)), (.int .i64 0)] H pBool fun (x2 : Bool) H3 =>
        forkB (!x2)
        (retK (some [(.bool false)]) H3 R)
        (loopK (Int × Int × Unit) (0, 0, ()) H3 fun z4 H5 next6 =>
          forkB (decide (z4.2.1 < ((dN : Nat) : Int)))
          ((IxOk (some ⟨d, dO, none⟩) z4.2.1 dN) ∧
            loadW H5 false 1 ⟨d, ((dO + z4.2.1.toNat * 6) + 3), none⟩ pStr fun (x7 : ByteArray) =>
            (IxOk (some ⟨d, dO, none⟩) z4.2.1 dN) ∧
            loadW H5 false 1 ⟨d, ((dO + z4.2.1.toNat * 6) + 1), none⟩ pStr fun (x8 : ByteArray) =>
            (IxOk (some ⟨d, dO, none⟩) z4.2.1 dN) ∧
            loadW H5 false 1 ⟨d, ((dO + z4.2.1.toNat * 6) + 2), none⟩ pStr fun (x9 : ByteArray) =>
            forkB (decide ((IntKind.i64.wrap (z4.1 + (if 4001 < (IntKind.i64.wrap ((IntKind.i64.wrap (((x7.size : Nat) : Int) + ((x8.size : Nat) : Int))) + ((x9.size : Nat) : Int))) then 4001 else (IntKind.i64.wrap ((IntKind.i64.wrap (((x7.size : Nat) : Int) + ((x8.size : Nat) : Int))) + ((x9.size : Nat) : Int)))))) > 4000))
            (retK (some [(.bool false)]) H5 R)
            ((IxOk (some ⟨d, dO, none⟩) z4.2.1 dN) ∧
              loadW H5 true 6 ⟨d, (dO + z4.2.1.toNat * 6), none⟩ ⟨Int × ByteArray × ByteArray × ByteArray × Int × Int, fun x => (.agg #[(.int .i64 x.1), (.string x.2.1), (.string x.2.2.1), (.string x.2.2.2.1), (.int .i64 x.2.2.2.2.1), (.int .i64 x.2.2.2.2.2)])⟩ fun (x10 : Int × ByteArray × ByteArray × ByteArray × Int × Int) =>
              callW PP f_spec_formed #[(.agg #[(.int .i64 x10.1), (.string x10.2.1), (.string x10.2.2.1), (.string x10.2.2.2.1), (.int .i64 x10.2.2.2.2.1), (.int .i64 x10.2.2.2.2.2)])] H5 pBool fun (x11 : Bool) H12 =>
              forkB (!x11)
              (retK (some [(.bool false)]) H12 R)
              (callW PP f_spec_shaped #[(.slice (some ⟨d, dO, none⟩) dN dC), (.int .i64 z4.2.1)] H12 pBool fun (x13 : Bool) H14 =>
                forkB (!x13)
                (retK (some [(.bool false)]) H14 R)
                (next6 ((IntKind.i64.wrap (z4.1 + (if 4001 < (IntKind.i64.wrap ((IntKind.i64.wrap (((x7.size : Nat) : Int) + ((x8.size : Nat) : Int))) + ((x9.size : Nat) : Int))) then 4001 else (IntKind.i64.wrap ((IntKind.i64.wrap (((x7.size : Nat) : Int) + ((x8.size : Nat) : Int))) + ((x9.size : Nat) : Int)))))), (IntKind.i64.wrap (z4.2.1 + 1)), ()) H14))))
          (retK (some [(.bool true)]) H5 R)))))
theorem rightFrom.enter (d dO dN dC : Nat) (H : Heap) (R : Value → Heap → Prop) (h : rightFrom.W d dO dN dC H R) : Fn PP f_spec_rightFrom #[(.slice (some ⟨d, dO, none⟩) dN dC)] H R :=
  fun_sound mixed Tryz.func25 ⟨patL [(17, (pInt .i64)), (26, pBool), (40, pStr), (46, pStr), (53, pStr), (64, ⟨Int × ByteArray × ByteArray × ByteArray × Int × Int, fun x => (.agg #[(.int .i64 x.1), (.string x.2.1), (.string x.2.2.1), (.string x.2.2.2.1), (.int .i64 x.2.2.2.2.1), (.int .i64 x.2.2.2.2.2)])⟩), (65, pBool), (71, pBool)], loopL [(0, [Slot.int .i64 3, Slot.int .i64 4])], joinL [], joinL [], joinRL []⟩ [(.slice (some ⟨d, dO, none⟩) dN dC)] H R (Eq.mp (by unfold rightFrom.W; kernel_rfl) h)

/-- spec.AnyDocument -/
def AnyDocument.W (d dO dN dC : Nat) (H : Heap) (R : Value → Heap → Prop) : Prop :=
  callW PP f_spec_rightFrom #[(.slice (some ⟨d, dO, none⟩) dN dC)] H pBool fun (x1 : Bool) H2 =>
  forkB x1
  ((IxOk (some ⟨d, dO, none⟩) 0 dN) ∧
    loadW H2 false 1 ⟨d, (dO + (0 : Int).toNat * 6), none⟩ (pInt .i64) fun (x3 : Int) =>
    retK (some [(.bool (x3 == 1))]) H2 R)
  (retK (some [(.bool false)]) H2 R)
theorem AnyDocument.enter (d dO dN dC : Nat) (H : Heap) (R : Value → Heap → Prop) (h : AnyDocument.W d dO dN dC H R) : Fn PP f_spec_AnyDocument #[(.slice (some ⟨d, dO, none⟩) dN dC)] H R :=
  fun_sound mixed Tryz.func18 ⟨patL [(4, pBool), (9, (pInt .i64))], loopL [], joinL [], joinL [], joinRL []⟩ [(.slice (some ⟨d, dO, none⟩) dN dC)] H R (Eq.mp (by unfold AnyDocument.W; kernel_rfl) h)

/-- laws.zzFits3 -/
def zzFits3.W (x xO xN xC : Nat) (H : Heap) (R : Value → Heap → Prop) : Prop :=
  forkB (decide (((xN : Nat) : Int) > 2147483647))
  (retK (some [(.bool false)]) H R)
  (loopK (Int × Unit) (0, ()) H fun z1 H2 next3 =>
    forkB (decide (z1.1 < ((xN : Nat) : Int)))
    ((IxOk (some ⟨x, xO, none⟩) z1.1 xN) ∧
      loadW H2 true 6 ⟨x, (xO + z1.1.toNat * 6), none⟩ ⟨Int × ByteArray × ByteArray × ByteArray × Int × Int, fun x => (.agg #[(.int .i64 x.1), (.string x.2.1), (.string x.2.2.1), (.string x.2.2.2.1), (.int .i64 x.2.2.2.2.1), (.int .i64 x.2.2.2.2.2)])⟩ fun (x4 : Int × ByteArray × ByteArray × ByteArray × Int × Int) =>
      newB H2 (.cells #[(.int .i64 0), (.string (bs [])), (.string (bs [])), (.string (bs [])), (.int .i64 0), (.int .i64 0)] t_impl_Node) fun b5 H6 =>
      storeW H6 ⟨b5, 0, none⟩ [(.int .i64 x4.1), (.string x4.2.1), (.string x4.2.2.1), (.string x4.2.2.2.1), (.int .i64 x4.2.2.2.2.1), (.int .i64 x4.2.2.2.2.2)] fun H7 =>
      loadW H7 true 6 ⟨b5, 0, none⟩ ⟨Int × ByteArray × ByteArray × ByteArray × Int × Int, fun x => (.agg #[(.int .i64 x.1), (.string x.2.1), (.string x.2.2.1), (.string x.2.2.2.1), (.int .i64 x.2.2.2.2.1), (.int .i64 x.2.2.2.2.2)])⟩ fun (x8 : Int × ByteArray × ByteArray × ByteArray × Int × Int) =>
      callW PP f_laws_zzFits4 #[(.agg #[(.int .i64 x8.1), (.string x8.2.1), (.string x8.2.2.1), (.string x8.2.2.2.1), (.int .i64 x8.2.2.2.2.1), (.int .i64 x8.2.2.2.2.2)])] H7 pBool fun (x9 : Bool) H10 =>
      forkB (!x9)
      (retK (some [(.bool false)]) H10 R)
      (next3 ((IntKind.i64.wrap (z1.1 + 1)), ()) H10))
    (retK (some [(.bool true)]) H2 R))
theorem zzFits3.enter (x xO xN xC : Nat) (H : Heap) (R : Value → Heap → Prop) (h : zzFits3.W x xO xN xC H R) : Fn PP f_laws_zzFits3 #[(.slice (some ⟨x, xO, none⟩) xN xC)] H R :=
  fun_sound mixed Tryz.func15 ⟨patL [(13, ⟨Int × ByteArray × ByteArray × ByteArray × Int × Int, fun x => (.agg #[(.int .i64 x.1), (.string x.2.1), (.string x.2.2.1), (.string x.2.2.2.1), (.int .i64 x.2.2.2.2.1), (.int .i64 x.2.2.2.2.2)])⟩), (14, ⟨Int × ByteArray × ByteArray × ByteArray × Int × Int, fun x => (.agg #[(.int .i64 x.1), (.string x.2.1), (.string x.2.2.1), (.string x.2.2.2.1), (.int .i64 x.2.2.2.2.1), (.int .i64 x.2.2.2.2.2)])⟩), (15, pBool)], loopL [(0, [Slot.int .i64 10])], joinL [], joinL [], joinRL []⟩ [(.slice (some ⟨x, xO, none⟩) xN xC)] H R (Eq.mp (by unfold zzFits3.W; kernel_rfl) h)

/-- laws.zzFits4 -/
def zzFits4.W (x : Nd) (H : Heap) (R : Value → Heap → Prop) : Prop :=
  newB H (.cells #[(.int .i64 x.kind), (.string x.name), (.string x.alias), (.string x.text), (.int .i64 x.flag), (.int .i64 x.size)] t_impl_Node) fun b1 H2 =>
  loadW H2 false 1 ⟨b1, 1, none⟩ pStr fun (x3 : ByteArray) =>
  forkB (decide (((x3.size : Nat) : Int) > 2147483647))
  (retK (some [(.bool false)]) H2 R)
  (loadW H2 false 1 ⟨b1, 2, none⟩ pStr fun (x4 : ByteArray) =>
    forkB (decide (((x4.size : Nat) : Int) > 2147483647))
    (retK (some [(.bool false)]) H2 R)
    (loadW H2 false 1 ⟨b1, 3, none⟩ pStr fun (x5 : ByteArray) =>
      forkB (decide (((x5.size : Nat) : Int) > 2147483647))
      (retK (some [(.bool false)]) H2 R)
      (retK (some [(.bool true)]) H2 R)))
theorem zzFits4.enter (x : Nd) (H : Heap) (R : Value → Heap → Prop) (h : zzFits4.W x H R) : Fn PP f_laws_zzFits4 #[(.agg #[(.int .i64 x.kind), (.string x.name), (.string x.alias), (.string x.text), (.int .i64 x.flag), (.int .i64 x.size)])] H R :=
  fun_sound mixed Tryz.func17 ⟨patL [(4, pStr), (8, pStr), (12, pStr)], loopL [], joinL [], joinL [], joinRL []⟩ [(.agg #[(.int .i64 x.kind), (.string x.name), (.string x.alias), (.string x.text), (.int .i64 x.flag), (.int .i64 x.size)])] H R (Eq.mp (by unfold zzFits4.W; kernel_rfl) h)

/-- laws.beneath9 -/
def beneath9.W (d dO dN dC : Nat) (kind : Int) (which : Int) (H : Heap) (R : Value → Heap → Prop) : Prop :=
  loopK ((Option Addr × Nat × Nat) × Int × Unit) ((none, 0, 0), 0, ()) H fun z1 H2 next3 =>
  forkB (decide (z1.2.1 < ((dN : Nat) : Int)))
  ((IxOk (some ⟨d, dO, none⟩) z1.2.1 dN) ∧
    loadW H2 false 1 ⟨d, (dO + z1.2.1.toNat * 6), none⟩ (pInt .i64) fun (x4 : Int) =>
    forkB (x4 == kind)
    (newB H2 (.cells #[(.int .i64 z1.2.1)] t_int) fun b5 H6 =>
      appK H6 t_int 1 8 z1.1.1 z1.1.2.1 z1.1.2.2 (some ⟨b5, 0, none⟩) 1 fun a7 c8 H9 =>
      next3 ((a7, (z1.1.2.1 + 1), c8), (IntKind.i64.wrap (z1.2.1 + 1)), ()) H9)
    (next3 ((z1.1.1, z1.1.2.1, z1.1.2.2), (IntKind.i64.wrap (z1.2.1 + 1)), ()) H2))
  (forkB (((z1.1.2.1 : Nat) : Int) == 0)
    (retK (some [(.int .i64 0), (.bool false)]) H2 R)
    (((((z1.1.2.1 : Nat) : Int) : Int) ≠ 0) ∧
      (IxOk z1.1.1 (Int.tmod (IntKind.i64.wrap which) ((z1.1.2.1 : Nat) : Int)) z1.1.2.1) ∧
      loadW H2 false 1 ⟨(blkOf z1.1.1), (offOf z1.1.1 + (Int.tmod (IntKind.i64.wrap which) ((z1.1.2.1 : Nat) : Int)).toNat * 1), none⟩ (pInt .i64) fun (x10 : Int) =>
      retK (some [(.int .i64 x10), (.bool true)]) H2 R))
theorem beneath9.enter (d dO dN dC : Nat) (kind : Int) (which : Int) (H : Heap) (R : Value → Heap → Prop) (h : beneath9.W d dO dN dC kind which H R) : Fn PP f_laws_beneath9 #[(.slice (some ⟨d, dO, none⟩) dN dC), (.int .i64 kind), (.int .u8 which)] H R :=
  fun_sound mixed Tryz.func19 ⟨patL [(19, (pInt .i64)), (37, (pInt .i64))], loopL [(0, [Slot.slc 8, Slot.int .i64 12])], joinL [], joinL [], joinRL []⟩ [(.slice (some ⟨d, dO, none⟩) dN dC), (.int .i64 kind), (.int .u8 which)] H R (Eq.mp (by unfold beneath9.W; kernel_rfl) h)

end Go.Vx
