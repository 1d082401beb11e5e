/- A part of the proof of what the last text of this claim says: WB2. Conditions: none. -/
import Derived.Test.YtndpjeldpdppmaaGreatDoorXAc
namespace Go.Vx
open Go Go.Proofs
set_option maxRecDepth 100000
/-- parser.advance -/
def advance.W (p : Nat) (H : Heap) (R : Value → Heap → Prop) : Prop :=
  loadW H false 1 ⟨p, 7, none⟩ (pInt .i64) fun (x1 : Int) =>
  storeW H ⟨p, 4, none⟩ [(.int .i64 x1)] fun H2 =>
  loadW H2 false 1 ⟨p, 0, none⟩ ⟨Nat × Nat, fun x => (.func (.func f_lexer_Lex_1) #[] #[(.pointer (some ⟨x.1, 0, none⟩)), (.pointer (some ⟨x.2, 0, none⟩))])⟩ fun (x3 : Nat × Nat) =>
  loadW H2 false 1 ⟨p, 4, none⟩ (pInt .i64) fun (x4 : Int) =>
  (callW PP f_lexer_Lex_1 #[(.int .i64 x4), (.pointer (some ⟨x3.1, 0, none⟩)), (.pointer (some ⟨x3.2, 0, none⟩))] H2 ⟨Int × Int × Int × ByteArray, fun x => (.tuple #[(.agg #[(.int .i64 x.1), (.int .i64 x.2.1), (.int .i64 x.2.2.1), (.string x.2.2.2)]), .nilIface])⟩ fun (x5 : Int × Int × Int × ByteArray) H6 =>
    newB H6 (.cells #[(.int .i64 0), (.int .i64 0), (.int .i64 0), (.string (bs []))] t_lexer_Token) fun b7 H8 =>
    loadC H8 false 1 ⟨p, 4, none⟩ = some (.int .i64 x4) ∧
    loadC H8 false 1 ⟨p, 0, none⟩ = some (.func (.func f_lexer_Lex_1) #[] #[(.pointer (some ⟨x3.1, 0, none⟩)), (.pointer (some ⟨x3.2, 0, none⟩))]) ∧
    storeW H8 ⟨b7, 0, none⟩ [(.int .i64 x5.1), (.int .i64 x5.2.1), (.int .i64 x5.2.2.1), (.string x5.2.2.2)] fun H9 =>
    loadW H9 true 4 ⟨b7, 0, none⟩ ⟨Int × Int × Int × ByteArray, fun x => (.agg #[(.int .i64 x.1), (.int .i64 x.2.1), (.int .i64 x.2.2.1), (.string x.2.2.2)])⟩ fun (x10 : Int × Int × Int × ByteArray) =>
    storeW H9 ⟨p, 5, none⟩ [(.int .i64 x10.1), (.int .i64 x10.2.1), (.int .i64 x10.2.2.1), (.string x10.2.2.2)] fun H11 =>
    retK (some [.nilIface]) H11 R) ∧
  (newB H2 (.cells #[(.int .i64 0), (.int .i64 0), (.int .i64 0), (.string (bs []))] t_lexer_Token) fun b12 H13 =>
    loadC H13 false 1 ⟨p, 4, none⟩ = some (.int .i64 x4) ∧
    loadC H13 false 1 ⟨p, 0, none⟩ = some (.func (.func f_lexer_Lex_1) #[] #[(.pointer (some ⟨x3.1, 0, none⟩)), (.pointer (some ⟨x3.2, 0, none⟩))]) ∧
    callW PP f_lexer_Lex_1 #[(.int .i64 x4), (.pointer (some ⟨x3.1, 0, none⟩)), (.pointer (some ⟨x3.2, 0, none⟩))] H13 ⟨Int × Int × Int × ByteArray, fun x => (.tuple #[(.agg #[(.int .i64 x.1), (.int .i64 x.2.1), (.int .i64 x.2.2.1), (.string x.2.2.2)]), .nilIface])⟩ fun (x14 : Int × Int × Int × ByteArray) H15 =>
    storeW H15 ⟨b12, 0, none⟩ [(.int .i64 x14.1), (.int .i64 x14.2.1), (.int .i64 x14.2.2.1), (.string x14.2.2.2)] fun H16 =>
    loadW H16 true 4 ⟨b12, 0, none⟩ ⟨Int × Int × Int × ByteArray, fun x => (.agg #[(.int .i64 x.1), (.int .i64 x.2.1), (.int .i64 x.2.2.1), (.string x.2.2.2)])⟩ fun (x17 : Int × Int × Int × ByteArray) =>
    storeW H16 ⟨p, 5, none⟩ [(.int .i64 x17.1), (.int .i64 x17.2.1), (.int .i64 x17.2.2.1), (.string x17.2.2.2)] fun H18 =>
    retK (some [.nilIface]) H18 R)
theorem advance.enter (p : Nat) (H : Heap) (R : Value → Heap → Prop) (h : advance.W p H R) : Fn PP f_parser_advance #[(.pointer (some ⟨p, 0, none⟩))] H R :=
  fun_sound mixed Tryz.func148 ⟨patL [(10, (pInt .i64)), (17, ⟨Nat × Nat, fun x => (.func (.func f_lexer_Lex_1) #[] #[(.pointer (some ⟨x.1, 0, none⟩)), (.pointer (some ⟨x.2, 0, none⟩))])⟩), (21, (pInt .i64)), (22, ⟨Int × Int × Int × ByteArray, fun x => (.tuple #[(.agg #[(.int .i64 x.1), (.int .i64 x.2.1), (.int .i64 x.2.2.1), (.string x.2.2.2)]), .nilIface])⟩), (29, ⟨Int × Int × Int × ByteArray, fun x => (.agg #[(.int .i64 x.1), (.int .i64 x.2.1), (.int .i64 x.2.2.1), (.string x.2.2.2)])⟩)], loopL [], joinL [], joinL [], joinRL []⟩ [(.pointer (some ⟨p, 0, none⟩))] H R (Eq.mp (by unfold advance.W; kernel_rfl) h)

/-- parser.peek -/
def peek.W (p : Nat) (k : Int) (H : Heap) (R : Value → Heap → Prop) : Prop :=
  loadW H false 1 ⟨p, 5, none⟩ (pInt .i64) fun (x1 : Int) =>
  retK (some [(.bool (x1 == k))]) H R
theorem peek.enter (p : Nat) (k : Int) (H : Heap) (R : Value → Heap → Prop) (h : peek.W p k H R) : Fn PP f_parser_peek #[(.pointer (some ⟨p, 0, none⟩)), (.int .i64 k)] H R :=
  fun_sound mixed Tryz.func152 ⟨patL [(9, (pInt .i64))], loopL [], joinL [], joinL [], joinRL []⟩ [(.pointer (some ⟨p, 0, none⟩)), (.int .i64 k)] H R (Eq.mp (by unfold peek.W; kernel_rfl) h)

/-- parser.peekDescription -/
def peekDescription.W (p : Nat) (H : Heap) (R : Value → Heap → Prop) : Prop :=
  joinK (Bool × Unit) (fun J1 =>
  callW PP f_parser_peek #[(.pointer (some ⟨p, 0, none⟩)), (.int .i64 18)] H pBool fun (x4 : Bool) H5 =>
    forkB x4
    (J1 (true, ()) H5)
    (callW PP f_parser_peek #[(.pointer (some ⟨p, 0, none⟩)), (.int .i64 19)] H5 pBool fun (x6 : Bool) H7 =>
      J1 (x6, ()) H7)) fun y2 H3 =>
  retK (some [(.bool y2.1)]) H3 R
theorem peekDescription.enter (p : Nat) (H : Heap) (R : Value → Heap → Prop) (h : peekDescription.W p H R) : Fn PP f_parser_peekDescription #[(.pointer (some ⟨p, 0, none⟩))] H R :=
  fun_sound mixed Tryz.func162 ⟨patL [(4, pBool), (7, pBool)], loopL [], joinL [], joinL [], joinRL [(1, [Slot.bool 2], false)]⟩ [(.pointer (some ⟨p, 0, none⟩))] H R (Eq.mp (by unfold peekDescription.W; kernel_rfl) h)

/-- parser.skip -/
def skip.W (p : Nat) (k : Int) (H : Heap) (R : Value → Heap → Prop) : Prop :=
  loadW H false 1 ⟨p, 5, none⟩ (pInt .i64) fun (x1 : Int) =>
  forkB (x1 == k)
  (callW PP f_parser_advance #[(.pointer (some ⟨p, 0, none⟩))] H ⟨Unit, fun _ => .nilIface⟩ fun (_ : Unit) H3 =>
    retK (some [(.bool true), .nilIface]) H3 R)
  (retK (some [(.bool false), .nilIface]) H R)
theorem skip.enter (p : Nat) (k : Int) (H : Heap) (R : Value → Heap → Prop) (h : skip.W p k H R) : Fn PP f_parser_skip #[(.pointer (some ⟨p, 0, none⟩)), (.int .i64 k)] H R :=
  fun_sound mixed Tryz.func149 ⟨patL [(10, (pInt .i64)), (14, ⟨Unit, fun _ => .nilIface⟩)], loopL [], joinL [], joinL [], joinRL []⟩ [(.pointer (some ⟨p, 0, none⟩)), (.int .i64 k)] H R (Eq.mp (by unfold skip.W; kernel_rfl) h)

/-- parser.expect -/
def expect.W (p : Nat) (k : Int) (H : Heap) (R : Value → Heap → Prop) : Prop :=
  newB H (.cells #[(.int .i64 0), (.int .i64 0), (.int .i64 0), (.string (bs []))] t_lexer_Token) fun b1 H2 =>
  loadW H2 true 4 ⟨p, 5, none⟩ ⟨Int × Int × Int × ByteArray, fun x => (.agg #[(.int .i64 x.1), (.int .i64 x.2.1), (.int .i64 x.2.2.1), (.string x.2.2.2)])⟩ fun (x3 : Int × Int × Int × ByteArray) =>
  newB H2 (.cells #[(.int .i64 0), (.int .i64 0), (.int .i64 0), (.string (bs []))] t_lexer_Token) fun b4 H5 =>
  storeW H5 ⟨b4, 0, none⟩ [(.int .i64 x3.1), (.int .i64 x3.2.1), (.int .i64 x3.2.2.1), (.string x3.2.2.2)] fun H6 =>
  loadW H6 false 1 ⟨b4, 0, none⟩ (pInt .i64) fun (x7 : Int) =>
  forkB (x7 == k)
  (loadW H6 true 4 ⟨b4, 0, none⟩ ⟨Int × Int × Int × ByteArray, fun x => (.agg #[(.int .i64 x.1), (.int .i64 x.2.1), (.int .i64 x.2.2.1), (.string x.2.2.2)])⟩ fun (x8 : Int × Int × Int × ByteArray) =>
    callW PP f_parser_advance #[(.pointer (some ⟨p, 0, none⟩))] H6 ⟨Unit, fun _ => .nilIface⟩ fun (_ : Unit) H10 =>
    loadC H10 true 4 ⟨b4, 0, none⟩ = some (.agg #[(.int .i64 x8.1), (.int .i64 x8.2.1), (.int .i64 x8.2.2.1), (.string x8.2.2.2)]) ∧
    storeW H10 ⟨b1, 0, none⟩ [(.int .i64 x8.1), (.int .i64 x8.2.1), (.int .i64 x8.2.2.1), (.string x8.2.2.2)] fun H11 =>
    retK (consO (loadC H11 true 4 ⟨b1, 0, none⟩) ((consO (some .nilIface) (some [])))) H11 R)
  (loadW H6 true 4 ⟨b4, 0, none⟩ ⟨Int × Int × Int × ByteArray, fun x => (.agg #[(.int .i64 x.1), (.int .i64 x.2.1), (.int .i64 x.2.2.1), (.string x.2.2.2)])⟩ fun (x12 : Int × Int × Int × ByteArray) =>
    loadW H6 false 1 ⟨p, 1, none⟩ pBlk fun (x13 : Nat) =>
    loadW H6 false 1 ⟨b4, 1, none⟩ (pInt .i64) fun (x14 : Int) =>
    callW PP f_gqlerrors_NewSyntaxError #[(.pointer (some ⟨x13, 0, none⟩)), (.int .i64 x14), (.string (bs [69, 120, 112, 101, 99, 116, 101, 100, 32, 37, 115, 44, 32, 102, 111, 117, 110, 100, 32, 37, 115]))] H6 pBlk fun (x15 : Nat) H16 =>
    loadC H16 true 4 ⟨b4, 0, none⟩ = some (.agg #[(.int .i64 x12.1), (.int .i64 x12.2.1), (.int .i64 x12.2.2.1), (.string x12.2.2.2)]) ∧
    storeW H16 ⟨b1, 0, none⟩ [(.int .i64 x12.1), (.int .i64 x12.2.1), (.int .i64 x12.2.2.1), (.string x12.2.2.2)] fun H17 =>
    retK (consO (loadC H17 true 4 ⟨b1, 0, none⟩) ((consO (some (.iface t_p_gqlerrors_Error (.pointer (some ⟨x15, 0, none⟩)))) (some [])))) H17 R)
theorem expect.enter (p : Nat) (k : Int) (H : Heap) (R : Value → Heap → Prop) (h : expect.W p k H R) : Fn PP f_parser_expect #[(.pointer (some ⟨p, 0, none⟩)), (.int .i64 k)] H R :=
  fun_sound mixed Tryz.func142 ⟨patL [(11, ⟨Int × Int × Int × ByteArray, fun x => (.agg #[(.int .i64 x.1), (.int .i64 x.2.1), (.int .i64 x.2.2.1), (.string x.2.2.2)])⟩), (13, (pInt .i64)), (16, ⟨Int × Int × Int × ByteArray, fun x => (.agg #[(.int .i64 x.1), (.int .i64 x.2.1), (.int .i64 x.2.2.1), (.string x.2.2.2)])⟩), (18, ⟨Unit, fun _ => .nilIface⟩), (19, ⟨Int × Int × Int × ByteArray, fun x => (.agg #[(.int .i64 x.1), (.int .i64 x.2.1), (.int .i64 x.2.2.1), (.string x.2.2.2)])⟩), (23, pBlk), (25, (pInt .i64)), (27, pBlk)], loopL [], joinL [], joinL [], joinRL []⟩ [(.pointer (some ⟨p, 0, none⟩)), (.int .i64 k)] H R (Eq.mp (by unfold expect.W; kernel_rfl) h)

/-- parser.expectKeyWord -/
def expectKeyWord.W (p : Nat) (v : ByteArray) (H : Heap) (R : Value → Heap → Prop) : Prop :=
  newB H (.cells #[(.int .i64 0), (.int .i64 0), (.int .i64 0), (.string (bs []))] t_lexer_Token) fun b1 H2 =>
  loadW H2 true 4 ⟨p, 5, none⟩ ⟨Int × Int × Int × ByteArray, fun x => (.agg #[(.int .i64 x.1), (.int .i64 x.2.1), (.int .i64 x.2.2.1), (.string x.2.2.2)])⟩ fun (x3 : Int × Int × Int × ByteArray) =>
  newB H2 (.cells #[(.int .i64 0), (.int .i64 0), (.int .i64 0), (.string (bs []))] t_lexer_Token) fun b4 H5 =>
  storeW H5 ⟨b4, 0, none⟩ [(.int .i64 x3.1), (.int .i64 x3.2.1), (.int .i64 x3.2.2.1), (.string x3.2.2.2)] fun H6 =>
  joinPK (Bool × Unit) H6 (fun J7 =>
  loadW H6 false 1 ⟨b4, 0, none⟩ (pInt .i64) fun (x9 : Int) =>
    forkB (x9 == 15)
    (loadW H6 false 1 ⟨b4, 3, none⟩ pStr fun (x10 : ByteArray) =>
      J7 ((x10.toList == v.toList), ()) H6)
    (J7 (false, ()) H6)) fun y8 =>
  forkB y8.1
  (loadW H6 true 4 ⟨b4, 0, none⟩ ⟨Int × Int × Int × ByteArray, fun x => (.agg #[(.int .i64 x.1), (.int .i64 x.2.1), (.int .i64 x.2.2.1), (.string x.2.2.2)])⟩ fun (x11 : Int × Int × Int × ByteArray) =>
    callW PP f_parser_advance #[(.pointer (some ⟨p, 0, none⟩))] H6 ⟨Unit, fun _ => .nilIface⟩ fun (_ : Unit) H13 =>
    loadC H13 true 4 ⟨b4, 0, none⟩ = some (.agg #[(.int .i64 x11.1), (.int .i64 x11.2.1), (.int .i64 x11.2.2.1), (.string x11.2.2.2)]) ∧
    storeW H13 ⟨b1, 0, none⟩ [(.int .i64 x11.1), (.int .i64 x11.2.1), (.int .i64 x11.2.2.1), (.string x11.2.2.2)] fun H14 =>
    retK (consO (loadC H14 true 4 ⟨b1, 0, none⟩) ((consO (some .nilIface) (some [])))) H14 R)
  (loadW H6 true 4 ⟨b4, 0, none⟩ ⟨Int × Int × Int × ByteArray, fun x => (.agg #[(.int .i64 x.1), (.int .i64 x.2.1), (.int .i64 x.2.2.1), (.string x.2.2.2)])⟩ fun (x15 : Int × Int × Int × ByteArray) =>
    loadW H6 false 1 ⟨p, 1, none⟩ pBlk fun (x16 : Nat) =>
    loadW H6 false 1 ⟨b4, 1, none⟩ (pInt .i64) fun (x17 : Int) =>
    callW PP f_gqlerrors_NewSyntaxError #[(.pointer (some ⟨x16, 0, none⟩)), (.int .i64 x17), (.string (bs [69, 120, 112, 101, 99, 116, 101, 100, 32, 34, 37, 115, 34, 44, 32, 102, 111, 117, 110, 100, 32, 37, 115]))] H6 pBlk fun (x18 : Nat) H19 =>
    loadC H19 true 4 ⟨b4, 0, none⟩ = some (.agg #[(.int .i64 x15.1), (.int .i64 x15.2.1), (.int .i64 x15.2.2.1), (.string x15.2.2.2)]) ∧
    storeW H19 ⟨b1, 0, none⟩ [(.int .i64 x15.1), (.int .i64 x15.2.1), (.int .i64 x15.2.2.1), (.string x15.2.2.2)] fun H20 =>
    retK (consO (loadC H20 true 4 ⟨b1, 0, none⟩) ((consO (some (.iface t_p_gqlerrors_Error (.pointer (some ⟨x18, 0, none⟩)))) (some [])))) H20 R)
theorem expectKeyWord.enter (p : Nat) (v : ByteArray) (H : Heap) (R : Value → Heap → Prop) (h : expectKeyWord.W p v H R) : Fn PP f_parser_expectKeyWord #[(.pointer (some ⟨p, 0, none⟩)), (.string v)] H R :=
  fun_sound mixed Tryz.func136 ⟨patL [(11, ⟨Int × Int × Int × ByteArray, fun x => (.agg #[(.int .i64 x.1), (.int .i64 x.2.1), (.int .i64 x.2.2.1), (.string x.2.2.2)])⟩), (13, (pInt .i64)), (17, pStr), (21, ⟨Int × Int × Int × ByteArray, fun x => (.agg #[(.int .i64 x.1), (.int .i64 x.2.1), (.int .i64 x.2.2.1), (.string x.2.2.2)])⟩), (23, ⟨Unit, fun _ => .nilIface⟩), (24, ⟨Int × Int × Int × ByteArray, fun x => (.agg #[(.int .i64 x.1), (.int .i64 x.2.1), (.int .i64 x.2.2.1), (.string x.2.2.2)])⟩), (28, pBlk), (30, (pInt .i64)), (32, pBlk)], loopL [], joinL [], joinL [], joinRL [(2, [Slot.bool 20], true)]⟩ [(.pointer (some ⟨p, 0, none⟩)), (.string v)] H R (Eq.mp (by unfold expectKeyWord.W; kernel_rfl) h)

/-- parser.loc -/
def loc.W (p : Nat) (st : Int) (H : Heap) (R : Value → Heap → Prop) : Prop :=
  loadW H false 1 ⟨p, 2, none⟩ pBool fun (x1 : Bool) =>
  forkB x1
  (retK (some [(.pointer none)]) H R)
  (loadW H false 1 ⟨p, 3, none⟩ pBool fun (x2 : Bool) =>
    forkB x2
    (loadW H false 1 ⟨p, 4, none⟩ (pInt .i64) fun (x3 : Int) =>
      newB H (.cells #[(.int .i64 st), (.int .i64 x3), (.pointer none)] t_ast_Location) fun b4 H5 =>
      callW PP f_ast_NewLocation #[(.pointer (some ⟨b4, 0, none⟩))] H5 pBlk fun (x6 : Nat) H7 =>
      retK (some [(.pointer (some ⟨x6, 0, none⟩))]) H7 R)
    (loadW H false 1 ⟨p, 4, none⟩ (pInt .i64) fun (x8 : Int) =>
      loadW H false 1 ⟨p, 1, none⟩ pBlk fun (x9 : Nat) =>
      newB H (.cells #[(.int .i64 st), (.int .i64 x8), (.pointer (some ⟨x9, 0, none⟩))] t_ast_Location) fun b10 H11 =>
      callW PP f_ast_NewLocation #[(.pointer (some ⟨b10, 0, none⟩))] H11 pBlk fun (x12 : Nat) H13 =>
      retK (some [(.pointer (some ⟨x12, 0, none⟩))]) H13 R))
theorem loc.enter (p : Nat) (st : Int) (H : Heap) (R : Value → Heap → Prop) (h : loc.W p st H R) : Fn PP f_parser_loc #[(.pointer (some ⟨p, 0, none⟩)), (.int .i64 st)] H R :=
  fun_sound mixed Tryz.func140 ⟨patL [(9, pBool), (14, pBool), (19, (pInt .i64)), (22, pBlk), (27, (pInt .i64)), (31, pBlk), (34, pBlk)], loopL [], joinL [], joinL [], joinRL []⟩ [(.pointer (some ⟨p, 0, none⟩)), (.int .i64 st)] H R (Eq.mp (by unfold loc.W; kernel_rfl) h)

/-- source.NewSource -/
def NewSource.W (s : Nat) (H : Heap) (R : Value → Heap → Prop) : Prop :=
  loadW H false 1 ⟨s, 1, none⟩ pStr fun (x1 : ByteArray) =>
  forkB (x1.toList == (bs []).toList)
  (storeW H ⟨s, 1, none⟩ [(.string (bs [71, 114, 97, 112, 104, 81, 76]))] fun H2 =>
    retK (some [(.pointer (some ⟨s, 0, none⟩))]) H2 R)
  (retK (some [(.pointer (some ⟨s, 0, none⟩))]) H R)
theorem NewSource.enter (s : Nat) (H : Heap) (R : Value → Heap → Prop) (h : NewSource.W s H R) : Fn PP f_source_NewSource #[(.pointer (some ⟨s, 0, none⟩))] H R :=
  fun_sound mixed Tryz.func84 ⟨patL [(10, pStr)], loopL [], joinL [], joinL [], joinRL []⟩ [(.pointer (some ⟨s, 0, none⟩))] H R (Eq.mp (by unfold NewSource.W; kernel_rfl) h)

/-- parser.makeParser -/
def makeParser.W (s : Nat) (H : Heap) (R : Value → Heap → Prop) : Prop :=
  newB H (.cells #[(.bool false), (.bool false)] t_parser_ParseOptions) fun b1 H2 =>
  callW PP f_lexer_Lex #[(.pointer (some ⟨s, 0, none⟩))] H2 ⟨Nat × Nat, fun x => (.func (.func f_lexer_Lex_1) #[] #[(.pointer (some ⟨x.1, 0, none⟩)), (.pointer (some ⟨x.2, 0, none⟩))])⟩ fun (x3 : Nat × Nat) H4 =>
  callW PP f_lexer_Lex_1 #[(.int .i64 0), (.pointer (some ⟨x3.1, 0, none⟩)), (.pointer (some ⟨x3.2, 0, none⟩))] H4 ⟨Int × Int × Int × ByteArray, fun x => (.tuple #[(.agg #[(.int .i64 x.1), (.int .i64 x.2.1), (.int .i64 x.2.2.1), (.string x.2.2.2)]), .nilIface])⟩ fun (x5 : Int × Int × Int × ByteArray) H6 =>
  newB H6 (.cells #[(.int .i64 0), (.int .i64 0), (.int .i64 0), (.string (bs []))] t_lexer_Token) fun b7 H8 =>
  storeW H8 ⟨b7, 0, none⟩ [(.int .i64 x5.1), (.int .i64 x5.2.1), (.int .i64 x5.2.2.1), (.string x5.2.2.2)] fun H9 =>
  loadW H9 true 2 ⟨b1, 0, none⟩ ⟨Bool × Bool, fun x => (.agg #[(.bool x.1), (.bool x.2)])⟩ fun (x10 : Bool × Bool) =>
  loadW H9 true 4 ⟨b7, 0, none⟩ ⟨Int × Int × Int × ByteArray, fun x => (.agg #[(.int .i64 x.1), (.int .i64 x.2.1), (.int .i64 x.2.2.1), (.string x.2.2.2)])⟩ fun (x11 : Int × Int × Int × ByteArray) =>
  newB H9 (.cells #[(.func (.func f_lexer_Lex_1) #[] #[(.pointer (some ⟨x3.1, 0, none⟩)), (.pointer (some ⟨x3.2, 0, none⟩))]), (.pointer (some ⟨s, 0, none⟩)), (.bool x10.1), (.bool x10.2), (.int .i64 0), (.int .i64 x11.1), (.int .i64 x11.2.1), (.int .i64 x11.2.2.1), (.string x11.2.2.2)] t_parser_Parser) fun b12 H13 =>
  retK (some [(.pointer (some ⟨b12, 0, none⟩)), .nilIface]) H13 R
theorem makeParser.enter (s : Nat) (H : Heap) (R : Value → Heap → Prop) (h : makeParser.W s H R) : Fn PP f_parser_makeParser #[(.pointer (some ⟨s, 0, none⟩)), (.agg #[(.bool false), (.bool false)])] H R :=
  fun_sound mixed Tryz.func83 ⟨patL [(10, ⟨Nat × Nat, fun x => (.func (.func f_lexer_Lex_1) #[] #[(.pointer (some ⟨x.1, 0, none⟩)), (.pointer (some ⟨x.2, 0, none⟩))])⟩), (13, ⟨Int × Int × Int × ByteArray, fun x => (.tuple #[(.agg #[(.int .i64 x.1), (.int .i64 x.2.1), (.int .i64 x.2.2.1), (.string x.2.2.2)]), .nilIface])⟩), (23, ⟨Bool × Bool, fun x => (.agg #[(.bool x.1), (.bool x.2)])⟩), (24, ⟨Int × Int × Int × ByteArray, fun x => (.agg #[(.int .i64 x.1), (.int .i64 x.2.1), (.int .i64 x.2.2.1), (.string x.2.2.2)])⟩)], loopL [], joinL [], joinL [], joinRL []⟩ [(.pointer (some ⟨s, 0, none⟩)), (.agg #[(.bool false), (.bool false)])] H R (Eq.mp (by unfold makeParser.W; kernel_rfl) h)

/-- parser.alone -/
def alone_.W (xT x : Nat) (H : Heap) (R : Value → Heap → Prop) : Prop :=
  newB H (.cells #[(.iface xT (.pointer (some ⟨x, 0, none⟩)))] t_any) fun b1 H2 =>
  retK (some [(.slice (some ⟨b1, 0, none⟩) 1 1), .nilIface]) H2 R
theorem alone_.enter (xT x : Nat) (H : Heap) (R : Value → Heap → Prop) (h : alone_.W xT x H R) : Fn PP f_parser_alone #[(.iface xT (.pointer (some ⟨x, 0, none⟩))), .nilIface] H R :=
  fun_sound mixed Tryz.func85 ⟨patL [], loopL [], joinL [], joinL [], joinRL []⟩ [(.iface xT (.pointer (some ⟨x, 0, none⟩))), .nilIface] H R (Eq.mp (by unfold alone_.W; kernel_rfl) h)

/-- parser.parseName -/
def parseName.W (p : Nat) (H : Heap) (R : Value → Heap → Prop) : Prop :=
  callW PP f_parser_expect #[(.pointer (some ⟨p, 0, none⟩)), (.int .i64 15)] H ⟨Int × Int × Int × ByteArray, fun x => (.tuple #[(.agg #[(.int .i64 x.1), (.int .i64 x.2.1), (.int .i64 x.2.2.1), (.string x.2.2.2)]), .nilIface])⟩ fun (x1 : Int × Int × Int × ByteArray) H2 =>
  newB H2 (.cells #[(.int .i64 0), (.int .i64 0), (.int .i64 0), (.string (bs []))] t_lexer_Token) fun b3 H4 =>
  storeW H4 ⟨b3, 0, none⟩ [(.int .i64 x1.1), (.int .i64 x1.2.1), (.int .i64 x1.2.2.1), (.string x1.2.2.2)] fun H5 =>
  loadW H5 false 1 ⟨b3, 3, none⟩ pStr fun (x6 : ByteArray) =>
  loadW H5 false 1 ⟨b3, 1, none⟩ (pInt .i64) fun (x7 : Int) =>
  callW PP f_parser_loc #[(.pointer (some ⟨p, 0, none⟩)), (.int .i64 x7)] H5 pBlk fun (x8 : Nat) H9 =>
  loadC H9 false 1 ⟨b3, 3, none⟩ = some (.string x6) ∧
  newB H9 (.cells #[(.string (bs [])), (.pointer (some ⟨x8, 0, none⟩)), (.string x6)] t_ast_Name) fun b10 H11 =>
  callW PP f_ast_NewName #[(.pointer (some ⟨b10, 0, none⟩))] H11 pBlk fun (x12 : Nat) H13 =>
  retK (some [(.pointer (some ⟨x12, 0, none⟩)), .nilIface]) H13 R
theorem parseName.enter (p : Nat) (H : Heap) (R : Value → Heap → Prop) (h : parseName.W p H R) : Fn PP f_parser_parseName #[(.pointer (some ⟨p, 0, none⟩))] H R :=
  fun_sound mixed Tryz.func145 ⟨patL [(8, ⟨Int × Int × Int × ByteArray, fun x => (.tuple #[(.agg #[(.int .i64 x.1), (.int .i64 x.2.1), (.int .i64 x.2.2.1), (.string x.2.2.2)]), .nilIface])⟩), (15, pStr), (18, (pInt .i64)), (19, pBlk), (22, pBlk)], loopL [], joinL [], joinL [], joinRL []⟩ [(.pointer (some ⟨p, 0, none⟩))] H R (Eq.mp (by unfold parseName.W; kernel_rfl) h)

/-- parser.parseNamed -/
def parseNamed.W (p : Nat) (H : Heap) (R : Value → Heap → Prop) : Prop :=
  loadW H false 1 ⟨p, 6, none⟩ (pInt .i64) fun (x1 : Int) =>
  callW PP f_parser_parseName #[(.pointer (some ⟨p, 0, none⟩))] H ⟨Nat, fun x => (.tuple #[(.pointer (some ⟨x, 0, none⟩)), .nilIface])⟩ fun (x2 : Nat) H3 =>
  callW PP f_parser_loc #[(.pointer (some ⟨p, 0, none⟩)), (.int .i64 x1)] H3 pBlk fun (x4 : Nat) H5 =>
  newB H5 (.cells #[(.string (bs [])), (.pointer (some ⟨x4, 0, none⟩)), (.pointer (some ⟨x2, 0, none⟩))] t_ast_Named) fun b6 H7 =>
  callW PP f_ast_NewNamed #[(.pointer (some ⟨b6, 0, none⟩))] H7 pBlk fun (x8 : Nat) H9 =>
  retK (some [(.pointer (some ⟨x8, 0, none⟩)), .nilIface]) H9 R
theorem parseNamed.enter (p : Nat) (H : Heap) (R : Value → Heap → Prop) (h : parseNamed.W p H R) : Fn PP f_parser_parseNamed #[(.pointer (some ⟨p, 0, none⟩))] H R :=
  fun_sound mixed Tryz.func143 ⟨patL [(11, (pInt .i64)), (14, ⟨Nat, fun x => (.tuple #[(.pointer (some ⟨x, 0, none⟩)), .nilIface])⟩), (23, pBlk), (26, pBlk)], loopL [], joinL [], joinL [], joinRL []⟩ [(.pointer (some ⟨p, 0, none⟩))] H R (Eq.mp (by unfold parseNamed.W; kernel_rfl) h)

/-- parser.parseOperationType -/
def parseOperationType.W (p : Nat) (H : Heap) (R : Value → Heap → Prop) : Prop :=
  callW PP f_parser_expect #[(.pointer (some ⟨p, 0, none⟩)), (.int .i64 15)] H ⟨Int × Int × Int × ByteArray, fun x => (.tuple #[(.agg #[(.int .i64 x.1), (.int .i64 x.2.1), (.int .i64 x.2.2.1), (.string x.2.2.2)]), .nilIface])⟩ fun (x1 : Int × Int × Int × ByteArray) H2 =>
  newB H2 (.cells #[(.int .i64 0), (.int .i64 0), (.int .i64 0), (.string (bs []))] t_lexer_Token) fun b3 H4 =>
  storeW H4 ⟨b3, 0, none⟩ [(.int .i64 x1.1), (.int .i64 x1.2.1), (.int .i64 x1.2.2.1), (.string x1.2.2.2)] fun H5 =>
  loadW H5 false 1 ⟨b3, 3, none⟩ pStr fun (x6 : ByteArray) =>
  forkB (x6.toList == (bs [113, 117, 101, 114, 121]).toList)
  (loadW H5 false 1 ⟨b3, 3, none⟩ pStr fun (x7 : ByteArray) =>
    retK (some [(.string x7), .nilIface]) H5 R)
  (forkB (x6.toList == (bs [109, 117, 116, 97, 116, 105, 111, 110]).toList)
    (loadW H5 false 1 ⟨b3, 3, none⟩ pStr fun (x8 : ByteArray) =>
      retK (some [(.string x8), .nilIface]) H5 R)
    (forkB (x6.toList == (bs [115, 117, 98, 115, 99, 114, 105, 112, 116, 105, 111, 110]).toList)
      (loadW H5 false 1 ⟨b3, 3, none⟩ pStr fun (x9 : ByteArray) =>
        retK (some [(.string x9), .nilIface]) H5 R)
      (loadW H5 true 4 ⟨b3, 0, none⟩ ⟨Int × Int × Int × ByteArray, fun x => (.agg #[(.int .i64 x.1), (.int .i64 x.2.1), (.int .i64 x.2.2.1), (.string x.2.2.2)])⟩ fun (x10 : Int × Int × Int × ByteArray) =>
        callW PP f_parser_unexpected #[(.pointer (some ⟨p, 0, none⟩)), (.agg #[(.int .i64 x10.1), (.int .i64 x10.2.1), (.int .i64 x10.2.2.1), (.string x10.2.2.2)])] H5 ⟨Unit, fun _ => .nilIface⟩ fun (_ : Unit) H12 =>
        retK (some [(.string (bs [])), .nilIface]) H12 R)))
theorem parseOperationType.enter (p : Nat) (H : Heap) (R : Value → Heap → Prop) (h : parseOperationType.W p H R) : Fn PP f_parser_parseOperationType #[(.pointer (some ⟨p, 0, none⟩))] H R :=
  fun_sound mixed Tryz.func141 ⟨patL [(8, ⟨Int × Int × Int × ByteArray, fun x => (.tuple #[(.agg #[(.int .i64 x.1), (.int .i64 x.2.1), (.int .i64 x.2.2.1), (.string x.2.2.2)]), .nilIface])⟩), (15, pStr), (17, ⟨Int × Int × Int × ByteArray, fun x => (.agg #[(.int .i64 x.1), (.int .i64 x.2.1), (.int .i64 x.2.2.1), (.string x.2.2.2)])⟩), (18, ⟨Unit, fun _ => .nilIface⟩), (22, pStr), (26, pStr), (30, pStr)], loopL [], joinL [], joinL [], joinRL []⟩ [(.pointer (some ⟨p, 0, none⟩))] H R (Eq.mp (by unfold parseOperationType.W; kernel_rfl) h)

/-- parser.parseDescription -/
def parseDescription.W (p : Nat) (H : Heap) (R : Value → Heap → Prop) : Prop :=
  callW PP f_parser_peekDescription #[(.pointer (some ⟨p, 0, none⟩))] H pBool fun (x1 : Bool) H2 =>
  forkB x1
  (callW PP f_parser_parseStringLiteral #[(.pointer (some ⟨p, 0, none⟩))] H2 ⟨Nat, fun x => (.tuple #[(.pointer (some ⟨x, 0, none⟩)), .nilIface])⟩ fun (x3 : Nat) H4 =>
    retK (some [(.pointer (some ⟨x3, 0, none⟩)), .nilIface]) H4 R)
  (retK (some [(.pointer none), .nilIface]) H2 R)
theorem parseDescription.enter (p : Nat) (H : Heap) (R : Value → Heap → Prop) (h : parseDescription.W p H R) : Fn PP f_parser_parseDescription #[(.pointer (some ⟨p, 0, none⟩))] H R :=
  fun_sound mixed Tryz.func106 ⟨patL [(5, pBool), (7, ⟨Nat, fun x => (.tuple #[(.pointer (some ⟨x, 0, none⟩)), .nilIface])⟩)], loopL [], joinL [], joinL [], joinRL []⟩ [(.pointer (some ⟨p, 0, none⟩))] H R (Eq.mp (by unfold parseDescription.W; kernel_rfl) h)

/-- parser.parseDirectives -/
def parseDirectives.W (p : Nat) (H : Heap) (R : Value → Heap → Prop) : Prop :=
  newB H (.cells #[] t_p_ast_Directive) fun b1 H2 =>
  loopK ((Option Addr × Nat × Nat) × Unit) (((some ⟨b1, 0, none⟩), 0, 0), ()) H2 fun z3 H4 next5 =>
  callW PP f_parser_peek #[(.pointer (some ⟨p, 0, none⟩)), (.int .i64 9)] H4 pBool fun (x6 : Bool) H7 =>
  forkB x6
  (callW PP f_parser_parseDirective #[(.pointer (some ⟨p, 0, none⟩))] H7 ⟨Nat, fun x => (.tuple #[(.pointer (some ⟨x, 0, none⟩)), .nilIface])⟩ fun (x8 : Nat) H9 =>
    newB H9 (.cells #[(.pointer (some ⟨x8, 0, none⟩))] t_p_ast_Directive) fun b10 H11 =>
    appK H11 t_p_ast_Directive 1 8 z3.1.1 z3.1.2.1 z3.1.2.2 (some ⟨b10, 0, none⟩) 1 fun a12 c13 H14 =>
    next5 ((a12, (z3.1.2.1 + 1), c13), ()) H14)
  (retK (some [(.slice z3.1.1 z3.1.2.1 z3.1.2.2), .nilIface]) H7 R)
theorem parseDirectives.enter (p : Nat) (H : Heap) (R : Value → Heap → Prop) (h : parseDirectives.W p H R) : Fn PP f_parser_parseDirectives #[(.pointer (some ⟨p, 0, none⟩))] H R :=
  fun_sound mixed Tryz.func137 ⟨patL [(9, pBool), (12, ⟨Nat, fun x => (.tuple #[(.pointer (some ⟨x, 0, none⟩)), .nilIface])⟩)], loopL [(0, [Slot.slc 4])], joinL [], joinL [], joinRL []⟩ [(.pointer (some ⟨p, 0, none⟩))] H R (Eq.mp (by unfold parseDirectives.W; kernel_rfl) h)

/-- parser.parseOperationTypeDefinition -/
def parseOperationTypeDefinition.W (p : Nat) (H : Heap) (R : Value → Heap → Prop) : Prop :=
  loadW H false 1 ⟨p, 6, none⟩ (pInt .i64) fun (x1 : Int) =>
  callW PP f_parser_parseOperationType #[(.pointer (some ⟨p, 0, none⟩))] H ⟨ByteArray, fun x => (.tuple #[(.string x), .nilIface])⟩ fun (x2 : ByteArray) H3 =>
  callW PP f_parser_expect #[(.pointer (some ⟨p, 0, none⟩)), (.int .i64 7)] H3 ⟨Int × Int × Int × ByteArray, fun x => (.tuple #[(.agg #[(.int .i64 x.1), (.int .i64 x.2.1), (.int .i64 x.2.2.1), (.string x.2.2.2)]), .nilIface])⟩ fun (x4 : Int × Int × Int × ByteArray) H5 =>
  callW PP f_parser_parseNamed #[(.pointer (some ⟨p, 0, none⟩))] H5 ⟨Nat, fun x => (.tuple #[(.pointer (some ⟨x, 0, none⟩)), .nilIface])⟩ fun (x6 : Nat) H7 =>
  callW PP f_parser_loc #[(.pointer (some ⟨p, 0, none⟩)), (.int .i64 x1)] H7 pBlk fun (x8 : Nat) H9 =>
  newB H9 (.cells #[(.string (bs [])), (.pointer (some ⟨x8, 0, none⟩)), (.string x2), (.pointer (some ⟨x6, 0, none⟩))] t_ast_OperationTypeDefinition) fun b10 H11 =>
  callW PP f_ast_NewOperationTypeDefinition #[(.pointer (some ⟨b10, 0, none⟩))] H11 pBlk fun (x12 : Nat) H13 =>
  retK (some [(.iface t_p_ast_OperationTypeDefinition (.pointer (some ⟨x12, 0, none⟩))), .nilIface]) H13 R
theorem parseOperationTypeDefinition.enter (p : Nat) (H : Heap) (R : Value → Heap → Prop) (h : parseOperationTypeDefinition.W p H R) : Fn PP f_parser_parseOperationTypeDefinition #[(.pointer (some ⟨p, 0, none⟩))] H R :=
  fun_sound mixed Tryz.func87 ⟨patL [(12, (pInt .i64)), (15, ⟨ByteArray, fun x => (.tuple #[(.string x), .nilIface])⟩), (23, ⟨Int × Int × Int × ByteArray, fun x => (.tuple #[(.agg #[(.int .i64 x.1), (.int .i64 x.2.1), (.int .i64 x.2.2.1), (.string x.2.2.2)]), .nilIface])⟩), (31, ⟨Nat, fun x => (.tuple #[(.pointer (some ⟨x, 0, none⟩)), .nilIface])⟩), (41, pBlk), (44, pBlk)], loopL [], joinL [], joinL [], joinRL []⟩ [(.pointer (some ⟨p, 0, none⟩))] H R (Eq.mp (by unfold parseOperationTypeDefinition.W; kernel_rfl) h)

/-- parser.parseScalarTypeDefinition -/
def parseScalarTypeDefinition.W (p : Nat) (H : Heap) (R : Value → Heap → Prop) : Prop :=
  loadW H false 1 ⟨p, 6, none⟩ (pInt .i64) fun (x1 : Int) =>
  callW PP f_parser_parseDescription #[(.pointer (some ⟨p, 0, none⟩))] H ⟨Option Addr, fun x => (.tuple #[(.pointer x), .nilIface])⟩ fun (x2 : Option Addr) H3 =>
  callW PP f_parser_expectKeyWord #[(.pointer (some ⟨p, 0, none⟩)), (.string (bs [115, 99, 97, 108, 97, 114]))] H3 ⟨Int × Int × Int × ByteArray, fun x => (.tuple #[(.agg #[(.int .i64 x.1), (.int .i64 x.2.1), (.int .i64 x.2.2.1), (.string x.2.2.2)]), .nilIface])⟩ fun (x4 : Int × Int × Int × ByteArray) H5 =>
  callW PP f_parser_parseName #[(.pointer (some ⟨p, 0, none⟩))] H5 ⟨Nat, fun x => (.tuple #[(.pointer (some ⟨x, 0, none⟩)), .nilIface])⟩ fun (x6 : Nat) H7 =>
  callW PP f_parser_parseDirectives #[(.pointer (some ⟨p, 0, none⟩))] H7 ⟨(Option Addr × Nat × Nat), fun x => (.tuple #[(.slice x.1 x.2.1 x.2.2), .nilIface])⟩ fun (x8 : (Option Addr × Nat × Nat)) H9 =>
  callW PP f_parser_loc #[(.pointer (some ⟨p, 0, none⟩)), (.int .i64 x1)] H9 pBlk fun (x10 : Nat) H11 =>
  newB H11 (.cells #[(.string (bs [])), (.pointer (some ⟨x10, 0, none⟩)), (.pointer x2), (.pointer (some ⟨x6, 0, none⟩)), (.slice x8.1 x8.2.1 x8.2.2)] t_ast_ScalarDefinition) fun b12 H13 =>
  callW PP f_ast_NewScalarDefinition #[(.pointer (some ⟨b12, 0, none⟩))] H13 pBlk fun (x14 : Nat) H15 =>
  retK (some [(.iface t_p_ast_ScalarDefinition (.pointer (some ⟨x14, 0, none⟩))), .nilIface]) H15 R
theorem parseScalarTypeDefinition.enter (p : Nat) (H : Heap) (R : Value → Heap → Prop) (h : parseScalarTypeDefinition.W p H R) : Fn PP f_parser_parseScalarTypeDefinition #[(.pointer (some ⟨p, 0, none⟩))] H R :=
  fun_sound mixed Tryz.func88 ⟨patL [(14, (pInt .i64)), (17, ⟨Option Addr, fun x => (.tuple #[(.pointer x), .nilIface])⟩), (25, ⟨Int × Int × Int × ByteArray, fun x => (.tuple #[(.agg #[(.int .i64 x.1), (.int .i64 x.2.1), (.int .i64 x.2.2.1), (.string x.2.2.2)]), .nilIface])⟩), (33, ⟨Nat, fun x => (.tuple #[(.pointer (some ⟨x, 0, none⟩)), .nilIface])⟩), (41, ⟨(Option Addr × Nat × Nat), fun x => (.tuple #[(.slice x.1 x.2.1 x.2.2), .nilIface])⟩), (52, pBlk), (55, pBlk)], loopL [], joinL [], joinL [], joinRL []⟩ [(.pointer (some ⟨p, 0, none⟩))] H R (Eq.mp (by unfold parseScalarTypeDefinition.W; kernel_rfl) h)

end Go.Vx
