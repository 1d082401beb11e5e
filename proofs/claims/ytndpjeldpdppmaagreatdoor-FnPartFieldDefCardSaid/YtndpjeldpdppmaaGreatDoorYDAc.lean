/- A part of the proof of what the last text of this claim says: WN. Conditions: none. -/
import Derived.Test.YtndpjeldpdppmaaGreatDoorZAc
namespace Go.Vx
open Go Go.Proofs
set_option maxRecDepth 100000
def MkOk (f : FuncId) (c c' : Array Value) (t : TypeId) : Prop := ∀ (H : Heap) (b : Nat), H[b]? = some (.cells c t) → Fn PP f #[.pointer (some ⟨b, 0, none⟩)] H fun v H' =>
  ∃ b' : Nat, v = .pointer (some ⟨b', 0, none⟩) ∧ Ext [b] H H' ∧ (b' = b ∨ H.size ≤ b') ∧ H'[b']? = some (.cells c' t)

def NewLocation.W (n : Nat) (H : Heap) (R : RR) : Prop :=
  lw H n 0 (pInt .i64) fun (x1 : Int) =>
  lw H n 1 (pInt .i64) fun (x2 : Int) =>
  lw H n 2 pBlk fun (x3 : Nat) =>
  newB H (.cells #[(.int .i64 x1), (.int .i64 x2), (pq x3)] t_ast_Location) fun b4 H5 =>
  retK (some [(pq b4)]) H5 R
theorem NewLocation.enter (n : Nat) (H : Heap) (R : RR) (h : NewLocation.W n H R) : Fn PP f_ast_NewLocation #[(pq n)] H R :=
  fun_sound mixed Tryz.func199 ⟨patL [(10, (pInt .i64)), (14, (pInt .i64)), (18, pBlk)], loopL [], joinL [], joinL [], joinRL []⟩ _ H R (Eq.mp (by unfold NewLocation.W; kernel_rfl) h)

def NewName.W (n : Nat) (H : Heap) (R : RR) : Prop :=
  storeW H ⟨n, 0, none⟩ [(.string (bs [78, 97, 109, 101]))] fun H1 =>
  retK (some [(pq n)]) H1 R
theorem NewName.enter (n : Nat) (H : Heap) (R : RR) (h : NewName.W n H R) : Fn PP f_ast_NewName #[(pq n)] H R :=
  fun_sound mixed Tryz.func202 ⟨patL [], loopL [], joinL [], joinL [], joinRL []⟩ _ H R (Eq.mp (by unfold NewName.W; kernel_rfl) h)

abbrev kName : ByteArray := bs [78, 97, 109, 101]
theorem NewName_mk (a1 : Option Addr) (a2 : ByteArray) : MkOk f_ast_NewName #[.string (bs []), .pointer a1, .string a2] #[.string kName, .pointer a1, .string a2] t_ast_Name := by
  intro H b hb
  refine NewName.enter _ H _ ?_
  unfold NewName.W
  exact storeW_intro hb (by simp) rfl rfl fun H1 e1 hb1 x1 s1 => retK_intro ⟨b, rfl, x1, .inl rfl, hb1⟩

def NewNamed.W (n : Nat) (H : Heap) (R : RR) : Prop :=
  storeW H ⟨n, 0, none⟩ [(.string (bs [78, 97, 109, 101, 100]))] fun H1 =>
  retK (some [(pq n)]) H1 R
theorem NewNamed.enter (n : Nat) (H : Heap) (R : RR) (h : NewNamed.W n H R) : Fn PP f_ast_NewNamed #[(pq n)] H R :=
  fun_sound mixed Tryz.func201 ⟨patL [], loopL [], joinL [], joinL [], joinRL []⟩ _ H R (Eq.mp (by unfold NewNamed.W; kernel_rfl) h)

abbrev kNamed : ByteArray := bs [78, 97, 109, 101, 100]
theorem NewNamed_mk (a1 : Option Addr) (a2 : Option Addr) : MkOk f_ast_NewNamed #[.string (bs []), .pointer a1, .pointer a2] #[.string kNamed, .pointer a1, .pointer a2] t_ast_Named := by
  intro H b hb
  refine NewNamed.enter _ H _ ?_
  unfold NewNamed.W
  exact storeW_intro hb (by simp) rfl rfl fun H1 e1 hb1 x1 s1 => retK_intro ⟨b, rfl, x1, .inl rfl, hb1⟩

def NewScalarDefinition.W (n : Nat) (H : Heap) (R : RR) : Prop :=
  lw H n 1 pPtr fun (x1 : Option Addr) =>
  lw H n 2 pPtr fun (x2 : Option Addr) =>
  lw H n 3 pPtr fun (x3 : Option Addr) =>
  lw H n 4 pSlc fun (x4 : Sl) =>
  newB H (.cells #[(.string (bs [83, 99, 97, 108, 97, 114, 68, 101, 102, 105, 110, 105, 116, 105, 111, 110])), (.pointer x1), (.pointer x2), (.pointer x3), (.slice x4.1 x4.2.1 x4.2.2)] t_ast_ScalarDefinition) fun b5 H6 =>
  retK (some [(pq b5)]) H6 R
theorem NewScalarDefinition.enter (n : Nat) (H : Heap) (R : RR) (h : NewScalarDefinition.W n H R) : Fn PP f_ast_NewScalarDefinition #[(pq n)] H R :=
  fun_sound mixed Tryz.func146 ⟨patL [(10, pPtr), (14, pPtr), (18, pPtr), (22, pSlc)], loopL [], joinL [], joinL [], joinRL []⟩ _ H R (Eq.mp (by unfold NewScalarDefinition.W; kernel_rfl) h)

abbrev kScalarDefinition : ByteArray := bs [83, 99, 97, 108, 97, 114, 68, 101, 102, 105, 110, 105, 116, 105, 111, 110]
theorem NewScalarDefinition_mk (a1 : Option Addr) (a2 : Option Addr) (a3 : Option Addr) (a4 : Option Addr) (a4n a4c : Nat) : MkOk f_ast_NewScalarDefinition #[.string (bs []), .pointer a1, .pointer a2, .pointer a3, .slice a4 a4n a4c] #[.string kScalarDefinition, .pointer a1, .pointer a2, .pointer a3, .slice a4 a4n a4c] t_ast_ScalarDefinition := by
  intro H b hb
  refine NewScalarDefinition.enter _ H _ ?_
  unfold NewScalarDefinition.W
  refine ⟨a1, loadC_of hb rfl, a2, loadC_of hb rfl, a3, loadC_of hb rfl, (a4, a4n, a4c), loadC_of hb rfl, ?_⟩
  exact newB_intro fun H1 e1 hb1 x1 s1 => retK_intro ⟨_, rfl, x1.of_nil, .inr (Nat.le_refl _), hb1⟩

def NewFieldDefinition.W (n : Nat) (H : Heap) (R : RR) : Prop :=
  lw H n 1 pPtr fun (x1 : Option Addr) =>
  lw H n 2 pPtr fun (x2 : Option Addr) =>
  lw H n 3 pPtr fun (x3 : Option Addr) =>
  lw H n 4 pSlc fun (x4 : Sl) =>
  lw H n 5 pIf fun (x5 : (Nat × Nat)) =>
  lw H n 6 pSlc fun (x6 : Sl) =>
  newB H (.cells #[(.string (bs [70, 105, 101, 108, 100, 68, 101, 102, 105, 110, 105, 116, 105, 111, 110])), (.pointer x1), (.pointer x2), (.pointer x3), (.slice x4.1 x4.2.1 x4.2.2), (.iface x5.1 (pq x5.2)), (.slice x6.1 x6.2.1 x6.2.2)] t_ast_FieldDefinition) fun b7 H8 =>
  retK (some [(pq b7)]) H8 R
theorem NewFieldDefinition.enter (n : Nat) (H : Heap) (R : RR) (h : NewFieldDefinition.W n H R) : Fn PP f_ast_NewFieldDefinition #[(pq n)] H R :=
  fun_sound mixed Tryz.func151 ⟨patL [(10, pPtr), (14, pPtr), (18, pPtr), (22, pSlc), (26, pIf), (30, pSlc)], loopL [], joinL [], joinL [], joinRL []⟩ _ H R (Eq.mp (by unfold NewFieldDefinition.W; kernel_rfl) h)

abbrev kFieldDefinition : ByteArray := bs [70, 105, 101, 108, 100, 68, 101, 102, 105, 110, 105, 116, 105, 111, 110]
theorem NewFieldDefinition_mk (a1 : Option Addr) (a2 : Option Addr) (a3 : Option Addr) (a4 : Option Addr) (a4n a4c : Nat) (a5T a5 : Nat) (a6 : Option Addr) (a6n a6c : Nat) : MkOk f_ast_NewFieldDefinition #[.string (bs []), .pointer a1, .pointer a2, .pointer a3, .slice a4 a4n a4c, .iface a5T (pq a5), .slice a6 a6n a6c] #[.string kFieldDefinition, .pointer a1, .pointer a2, .pointer a3, .slice a4 a4n a4c, .iface a5T (pq a5), .slice a6 a6n a6c] t_ast_FieldDefinition := by
  intro H b hb
  refine NewFieldDefinition.enter _ H _ ?_
  unfold NewFieldDefinition.W
  refine ⟨a1, loadC_of hb rfl, a2, loadC_of hb rfl, a3, loadC_of hb rfl, (a4, a4n, a4c), loadC_of hb rfl, (a5T, a5), loadC_of hb rfl, (a6, a6n, a6c), loadC_of hb rfl, ?_⟩
  exact newB_intro fun H1 e1 hb1 x1 s1 => retK_intro ⟨_, rfl, x1.of_nil, .inr (Nat.le_refl _), hb1⟩

def NewInputValueDefinition.W (n : Nat) (H : Heap) (R : RR) : Prop :=
  lw H n 1 pPtr fun (x1 : Option Addr) =>
  lw H n 2 pPtr fun (x2 : Option Addr) =>
  lw H n 3 pPtr fun (x3 : Option Addr) =>
  lw H n 4 pIf fun (x4 : (Nat × Nat)) =>
  lw H n 5 pIf fun (x5 : (Nat × Nat)) =>
  lw H n 6 pSlc fun (x6 : Sl) =>
  newB H (.cells #[(.string (bs [73, 110, 112, 117, 116, 86, 97, 108, 117, 101, 68, 101, 102, 105, 110, 105, 116, 105, 111, 110])), (.pointer x1), (.pointer x2), (.pointer x3), (.iface x4.1 (pq x4.2)), (.iface x5.1 (pq x5.2)), (.slice x6.1 x6.2.1 x6.2.2)] t_ast_InputValueDefinition) fun b7 H8 =>
  retK (some [(pq b7)]) H8 R
theorem NewInputValueDefinition.enter (n : Nat) (H : Heap) (R : RR) (h : NewInputValueDefinition.W n H R) : Fn PP f_ast_NewInputValueDefinition #[(pq n)] H R :=
  fun_sound mixed Tryz.func154 ⟨patL [(10, pPtr), (14, pPtr), (18, pPtr), (22, pIf), (26, pIf), (30, pSlc)], loopL [], joinL [], joinL [], joinRL []⟩ _ H R (Eq.mp (by unfold NewInputValueDefinition.W; kernel_rfl) h)

abbrev kInputValueDefinition : ByteArray := bs [73, 110, 112, 117, 116, 86, 97, 108, 117, 101, 68, 101, 102, 105, 110, 105, 116, 105, 111, 110]
theorem NewInputValueDefinition_mk (a1 : Option Addr) (a2 : Option Addr) (a3 : Option Addr) (a4T a4 : Nat) (a5T a5 : Nat) (a6 : Option Addr) (a6n a6c : Nat) : MkOk f_ast_NewInputValueDefinition #[.string (bs []), .pointer a1, .pointer a2, .pointer a3, .iface a4T (pq a4), .iface a5T (pq a5), .slice a6 a6n a6c] #[.string kInputValueDefinition, .pointer a1, .pointer a2, .pointer a3, .iface a4T (pq a4), .iface a5T (pq a5), .slice a6 a6n a6c] t_ast_InputValueDefinition := by
  intro H b hb
  refine NewInputValueDefinition.enter _ H _ ?_
  unfold NewInputValueDefinition.W
  refine ⟨a1, loadC_of hb rfl, a2, loadC_of hb rfl, a3, loadC_of hb rfl, (a4T, a4), loadC_of hb rfl, (a5T, a5), loadC_of hb rfl, (a6, a6n, a6c), loadC_of hb rfl, ?_⟩
  exact newB_intro fun H1 e1 hb1 x1 s1 => retK_intro ⟨_, rfl, x1.of_nil, .inr (Nat.le_refl _), hb1⟩

def NewArgument.W (n : Nat) (H : Heap) (R : RR) : Prop :=
  storeW H ⟨n, 0, none⟩ [(.string (bs [65, 114, 103, 117, 109, 101, 110, 116]))] fun H1 =>
  retK (some [(pq n)]) H1 R
theorem NewArgument.enter (n : Nat) (H : Heap) (R : RR) (h : NewArgument.W n H R) : Fn PP f_ast_NewArgument #[(pq n)] H R :=
  fun_sound mixed Tryz.func176 ⟨patL [], loopL [], joinL [], joinL [], joinRL []⟩ _ H R (Eq.mp (by unfold NewArgument.W; kernel_rfl) h)

abbrev kArgument : ByteArray := bs [65, 114, 103, 117, 109, 101, 110, 116]
theorem NewArgument_mk (a1 : Option Addr) (a2 : Option Addr) (a3 : Value) : MkOk f_ast_NewArgument #[.string (bs []), .pointer a1, .pointer a2, a3] #[.string kArgument, .pointer a1, .pointer a2, a3] t_ast_Argument := by
  intro H b hb
  refine NewArgument.enter _ H _ ?_
  unfold NewArgument.W
  exact storeW_intro hb (by simp) rfl rfl fun H1 e1 hb1 x1 s1 => retK_intro ⟨b, rfl, x1, .inl rfl, hb1⟩

def NewDirective.W (n : Nat) (H : Heap) (R : RR) : Prop :=
  lw H n 1 pPtr fun (x1 : Option Addr) =>
  lw H n 2 pPtr fun (x2 : Option Addr) =>
  lw H n 3 pSlc fun (x3 : Sl) =>
  newB H (.cells #[(.string (bs [68, 105, 114, 101, 99, 116, 105, 118, 101])), (.pointer x1), (.pointer x2), (.slice x3.1 x3.2.1 x3.2.2)] t_ast_Directive) fun b4 H5 =>
  retK (some [(pq b4)]) H5 R
theorem NewDirective.enter (n : Nat) (H : Heap) (R : RR) (h : NewDirective.W n H R) : Fn PP f_ast_NewDirective #[(pq n)] H R :=
  fun_sound mixed Tryz.func177 ⟨patL [(10, pPtr), (14, pPtr), (18, pSlc)], loopL [], joinL [], joinL [], joinRL []⟩ _ H R (Eq.mp (by unfold NewDirective.W; kernel_rfl) h)

abbrev kDirective : ByteArray := bs [68, 105, 114, 101, 99, 116, 105, 118, 101]
theorem NewDirective_mk (a1 : Option Addr) (a2 : Option Addr) (a3 : Option Addr) (a3n a3c : Nat) : MkOk f_ast_NewDirective #[.string (bs []), .pointer a1, .pointer a2, .slice a3 a3n a3c] #[.string kDirective, .pointer a1, .pointer a2, .slice a3 a3n a3c] t_ast_Directive := by
  intro H b hb
  refine NewDirective.enter _ H _ ?_
  unfold NewDirective.W
  refine ⟨a1, loadC_of hb rfl, a2, loadC_of hb rfl, (a3, a3n, a3c), loadC_of hb rfl, ?_⟩
  exact newB_intro fun H1 e1 hb1 x1 s1 => retK_intro ⟨_, rfl, x1.of_nil, .inr (Nat.le_refl _), hb1⟩

def NewVariable.W (n : Nat) (H : Heap) (R : RR) : Prop :=
  storeW H ⟨n, 0, none⟩ [(.string (bs [86, 97, 114, 105, 97, 98, 108, 101]))] fun H1 =>
  retK (some [(pq n)]) H1 R
theorem NewVariable.enter (n : Nat) (H : Heap) (R : RR) (h : NewVariable.W n H R) : Fn PP f_ast_NewVariable #[(pq n)] H R :=
  fun_sound mixed Tryz.func208 ⟨patL [], loopL [], joinL [], joinL [], joinRL []⟩ _ H R (Eq.mp (by unfold NewVariable.W; kernel_rfl) h)

abbrev kVariable : ByteArray := bs [86, 97, 114, 105, 97, 98, 108, 101]
theorem NewVariable_mk (a1 : Option Addr) (a2 : Option Addr) : MkOk f_ast_NewVariable #[.string (bs []), .pointer a1, .pointer a2] #[.string kVariable, .pointer a1, .pointer a2] t_ast_Variable := by
  intro H b hb
  refine NewVariable.enter _ H _ ?_
  unfold NewVariable.W
  exact storeW_intro hb (by simp) rfl rfl fun H1 e1 hb1 x1 s1 => retK_intro ⟨b, rfl, x1, .inl rfl, hb1⟩

def NewIntValue.W (n : Nat) (H : Heap) (R : RR) : Prop :=
  lw H n 1 pPtr fun (x1 : Option Addr) =>
  lw H n 2 pStr fun (x2 : ByteArray) =>
  newB H (.cells #[(.string (bs [73, 110, 116, 86, 97, 108, 117, 101])), (.pointer x1), (.string x2)] t_ast_IntValue) fun b3 H4 =>
  retK (some [(pq b3)]) H4 R
theorem NewIntValue.enter (n : Nat) (H : Heap) (R : RR) (h : NewIntValue.W n H R) : Fn PP f_ast_NewIntValue #[(pq n)] H R :=
  fun_sound mixed Tryz.func211 ⟨patL [(10, pPtr), (14, pStr)], loopL [], joinL [], joinL [], joinRL []⟩ _ H R (Eq.mp (by unfold NewIntValue.W; kernel_rfl) h)

abbrev kIntValue : ByteArray := bs [73, 110, 116, 86, 97, 108, 117, 101]
theorem NewIntValue_mk (a1 : Option Addr) (a2 : ByteArray) : MkOk f_ast_NewIntValue #[.string (bs []), .pointer a1, .string a2] #[.string kIntValue, .pointer a1, .string a2] t_ast_IntValue := by
  intro H b hb
  refine NewIntValue.enter _ H _ ?_
  unfold NewIntValue.W
  refine ⟨a1, loadC_of hb rfl, a2, loadC_of hb rfl, ?_⟩
  exact newB_intro fun H1 e1 hb1 x1 s1 => retK_intro ⟨_, rfl, x1.of_nil, .inr (Nat.le_refl _), hb1⟩

def NewFloatValue.W (n : Nat) (H : Heap) (R : RR) : Prop :=
  lw H n 1 pPtr fun (x1 : Option Addr) =>
  lw H n 2 pStr fun (x2 : ByteArray) =>
  newB H (.cells #[(.string (bs [70, 108, 111, 97, 116, 86, 97, 108, 117, 101])), (.pointer x1), (.string x2)] t_ast_FloatValue) fun b3 H4 =>
  retK (some [(pq b3)]) H4 R
theorem NewFloatValue.enter (n : Nat) (H : Heap) (R : RR) (h : NewFloatValue.W n H R) : Fn PP f_ast_NewFloatValue #[(pq n)] H R :=
  fun_sound mixed Tryz.func212 ⟨patL [(10, pPtr), (14, pStr)], loopL [], joinL [], joinL [], joinRL []⟩ _ H R (Eq.mp (by unfold NewFloatValue.W; kernel_rfl) h)

abbrev kFloatValue : ByteArray := bs [70, 108, 111, 97, 116, 86, 97, 108, 117, 101]
theorem NewFloatValue_mk (a1 : Option Addr) (a2 : ByteArray) : MkOk f_ast_NewFloatValue #[.string (bs []), .pointer a1, .string a2] #[.string kFloatValue, .pointer a1, .string a2] t_ast_FloatValue := by
  intro H b hb
  refine NewFloatValue.enter _ H _ ?_
  unfold NewFloatValue.W
  refine ⟨a1, loadC_of hb rfl, a2, loadC_of hb rfl, ?_⟩
  exact newB_intro fun H1 e1 hb1 x1 s1 => retK_intro ⟨_, rfl, x1.of_nil, .inr (Nat.le_refl _), hb1⟩

def NewStringValue.W (n : Nat) (H : Heap) (R : RR) : Prop :=
  lw H n 1 pPtr fun (x1 : Option Addr) =>
  lw H n 2 pStr fun (x2 : ByteArray) =>
  newB H (.cells #[(.string (bs [83, 116, 114, 105, 110, 103, 86, 97, 108, 117, 101])), (.pointer x1), (.string x2)] t_ast_StringValue) fun b3 H4 =>
  retK (some [(pq b3)]) H4 R
theorem NewStringValue.enter (n : Nat) (H : Heap) (R : RR) (h : NewStringValue.W n H R) : Fn PP f_ast_NewStringValue #[(pq n)] H R :=
  fun_sound mixed Tryz.func205 ⟨patL [(10, pPtr), (14, pStr)], loopL [], joinL [], joinL [], joinRL []⟩ _ H R (Eq.mp (by unfold NewStringValue.W; kernel_rfl) h)

abbrev kStringValue : ByteArray := bs [83, 116, 114, 105, 110, 103, 86, 97, 108, 117, 101]
theorem NewStringValue_mk (a1 : Option Addr) (a2 : ByteArray) : MkOk f_ast_NewStringValue #[.string (bs []), .pointer a1, .string a2] #[.string kStringValue, .pointer a1, .string a2] t_ast_StringValue := by
  intro H b hb
  refine NewStringValue.enter _ H _ ?_
  unfold NewStringValue.W
  refine ⟨a1, loadC_of hb rfl, a2, loadC_of hb rfl, ?_⟩
  exact newB_intro fun H1 e1 hb1 x1 s1 => retK_intro ⟨_, rfl, x1.of_nil, .inr (Nat.le_refl _), hb1⟩

def NewBooleanValue.W (n : Nat) (H : Heap) (R : RR) : Prop :=
  lw H n 1 pPtr fun (x1 : Option Addr) =>
  lw H n 2 pBool fun (x2 : Bool) =>
  newB H (.cells #[(.string (bs [66, 111, 111, 108, 101, 97, 110, 86, 97, 108, 117, 101])), (.pointer x1), (.bool x2)] t_ast_BooleanValue) fun b3 H4 =>
  retK (some [(pq b3)]) H4 R
theorem NewBooleanValue.enter (n : Nat) (H : Heap) (R : RR) (h : NewBooleanValue.W n H R) : Fn PP f_ast_NewBooleanValue #[(pq n)] H R :=
  fun_sound mixed Tryz.func213 ⟨patL [(10, pPtr), (14, pBool)], loopL [], joinL [], joinL [], joinRL []⟩ _ H R (Eq.mp (by unfold NewBooleanValue.W; kernel_rfl) h)

abbrev kBooleanValue : ByteArray := bs [66, 111, 111, 108, 101, 97, 110, 86, 97, 108, 117, 101]
theorem NewBooleanValue_mk (a1 : Option Addr) (a2 : Bool) : MkOk f_ast_NewBooleanValue #[.string (bs []), .pointer a1, .bool a2] #[.string kBooleanValue, .pointer a1, .bool a2] t_ast_BooleanValue := by
  intro H b hb
  refine NewBooleanValue.enter _ H _ ?_
  unfold NewBooleanValue.W
  refine ⟨a1, loadC_of hb rfl, a2, loadC_of hb rfl, ?_⟩
  exact newB_intro fun H1 e1 hb1 x1 s1 => retK_intro ⟨_, rfl, x1.of_nil, .inr (Nat.le_refl _), hb1⟩

def NewEnumValue.W (n : Nat) (H : Heap) (R : RR) : Prop :=
  lw H n 1 pPtr fun (x1 : Option Addr) =>
  lw H n 2 pStr fun (x2 : ByteArray) =>
  newB H (.cells #[(.string (bs [69, 110, 117, 109, 86, 97, 108, 117, 101])), (.pointer x1), (.string x2)] t_ast_EnumValue) fun b3 H4 =>
  retK (some [(pq b3)]) H4 R
theorem NewEnumValue.enter (n : Nat) (H : Heap) (R : RR) (h : NewEnumValue.W n H R) : Fn PP f_ast_NewEnumValue #[(pq n)] H R :=
  fun_sound mixed Tryz.func214 ⟨patL [(10, pPtr), (14, pStr)], loopL [], joinL [], joinL [], joinRL []⟩ _ H R (Eq.mp (by unfold NewEnumValue.W; kernel_rfl) h)

abbrev kEnumValue : ByteArray := bs [69, 110, 117, 109, 86, 97, 108, 117, 101]
theorem NewEnumValue_mk (a1 : Option Addr) (a2 : ByteArray) : MkOk f_ast_NewEnumValue #[.string (bs []), .pointer a1, .string a2] #[.string kEnumValue, .pointer a1, .string a2] t_ast_EnumValue := by
  intro H b hb
  refine NewEnumValue.enter _ H _ ?_
  unfold NewEnumValue.W
  refine ⟨a1, loadC_of hb rfl, a2, loadC_of hb rfl, ?_⟩
  exact newB_intro fun H1 e1 hb1 x1 s1 => retK_intro ⟨_, rfl, x1.of_nil, .inr (Nat.le_refl _), hb1⟩

def NewListValue.W (n : Nat) (H : Heap) (R : RR) : Prop :=
  lw H n 1 pPtr fun (x1 : Option Addr) =>
  lw H n 2 pSlc fun (x2 : Sl) =>
  newB H (.cells #[(.string (bs [76, 105, 115, 116, 86, 97, 108, 117, 101])), (.pointer x1), (.slice x2.1 x2.2.1 x2.2.2)] t_ast_ListValue) fun b3 H4 =>
  retK (some [(pq b3)]) H4 R
theorem NewListValue.enter (n : Nat) (H : Heap) (R : RR) (h : NewListValue.W n H R) : Fn PP f_ast_NewListValue #[(pq n)] H R :=
  fun_sound mixed Tryz.func233 ⟨patL [(10, pPtr), (14, pSlc)], loopL [], joinL [], joinL [], joinRL []⟩ _ H R (Eq.mp (by unfold NewListValue.W; kernel_rfl) h)

abbrev kListValue : ByteArray := bs [76, 105, 115, 116, 86, 97, 108, 117, 101]
theorem NewListValue_mk (a1 : Option Addr) (a2 : Option Addr) (a2n a2c : Nat) : MkOk f_ast_NewListValue #[.string (bs []), .pointer a1, .slice a2 a2n a2c] #[.string kListValue, .pointer a1, .slice a2 a2n a2c] t_ast_ListValue := by
  intro H b hb
  refine NewListValue.enter _ H _ ?_
  unfold NewListValue.W
  refine ⟨a1, loadC_of hb rfl, (a2, a2n, a2c), loadC_of hb rfl, ?_⟩
  exact newB_intro fun H1 e1 hb1 x1 s1 => retK_intro ⟨_, rfl, x1.of_nil, .inr (Nat.le_refl _), hb1⟩

def NewObjectValue.W (n : Nat) (H : Heap) (R : RR) : Prop :=
  lw H n 1 pPtr fun (x1 : Option Addr) =>
  lw H n 2 pSlc fun (x2 : Sl) =>
  newB H (.cells #[(.string (bs [79, 98, 106, 101, 99, 116, 86, 97, 108, 117, 101])), (.pointer x1), (.slice x2.1 x2.2.1 x2.2.2)] t_ast_ObjectValue) fun b3 H4 =>
  retK (some [(pq b3)]) H4 R
theorem NewObjectValue.enter (n : Nat) (H : Heap) (R : RR) (h : NewObjectValue.W n H R) : Fn PP f_ast_NewObjectValue #[(pq n)] H R :=
  fun_sound mixed Tryz.func235 ⟨patL [(10, pPtr), (14, pSlc)], loopL [], joinL [], joinL [], joinRL []⟩ _ H R (Eq.mp (by unfold NewObjectValue.W; kernel_rfl) h)

abbrev kObjectValue : ByteArray := bs [79, 98, 106, 101, 99, 116, 86, 97, 108, 117, 101]
theorem NewObjectValue_mk (a1 : Option Addr) (a2 : Option Addr) (a2n a2c : Nat) : MkOk f_ast_NewObjectValue #[.string (bs []), .pointer a1, .slice a2 a2n a2c] #[.string kObjectValue, .pointer a1, .slice a2 a2n a2c] t_ast_ObjectValue := by
  intro H b hb
  refine NewObjectValue.enter _ H _ ?_
  unfold NewObjectValue.W
  refine ⟨a1, loadC_of hb rfl, (a2, a2n, a2c), loadC_of hb rfl, ?_⟩
  exact newB_intro fun H1 e1 hb1 x1 s1 => retK_intro ⟨_, rfl, x1.of_nil, .inr (Nat.le_refl _), hb1⟩

def NewObjectField.W (n : Nat) (H : Heap) (R : RR) : Prop :=
  lw H n 2 pPtr fun (x1 : Option Addr) =>
  lw H n 1 pPtr fun (x2 : Option Addr) =>
  lw H n 3 pIf fun (x3 : (Nat × Nat)) =>
  newB H (.cells #[(.string (bs [79, 98, 106, 101, 99, 116, 70, 105, 101, 108, 100])), (.pointer x2), (.pointer x1), (.iface x3.1 (pq x3.2))] t_ast_ObjectField) fun b4 H5 =>
  retK (some [(pq b4)]) H5 R
theorem NewObjectField.enter (n : Nat) (H : Heap) (R : RR) (h : NewObjectField.W n H R) : Fn PP f_ast_NewObjectField #[(pq n)] H R :=
  fun_sound mixed Tryz.func247 ⟨patL [(10, pPtr), (14, pPtr), (18, pIf)], loopL [], joinL [], joinL [], joinRL []⟩ _ H R (Eq.mp (by unfold NewObjectField.W; kernel_rfl) h)

abbrev kObjectField : ByteArray := bs [79, 98, 106, 101, 99, 116, 70, 105, 101, 108, 100]
theorem NewObjectField_mk (a1 : Option Addr) (a2 : Option Addr) (a3T a3 : Nat) : MkOk f_ast_NewObjectField #[.string (bs []), .pointer a1, .pointer a2, .iface a3T (pq a3)] #[.string kObjectField, .pointer a1, .pointer a2, .iface a3T (pq a3)] t_ast_ObjectField := by
  intro H b hb
  refine NewObjectField.enter _ H _ ?_
  unfold NewObjectField.W
  refine ⟨a2, loadC_of hb rfl, a1, loadC_of hb rfl, (a3T, a3), loadC_of hb rfl, ?_⟩
  exact newB_intro fun H1 e1 hb1 x1 s1 => retK_intro ⟨_, rfl, x1.of_nil, .inr (Nat.le_refl _), hb1⟩

def NewList.W (n : Nat) (H : Heap) (R : RR) : Prop :=
  lw H n 1 pPtr fun (x1 : Option Addr) =>
  lw H n 2 pIf fun (x2 : (Nat × Nat)) =>
  newB H (.cells #[(.string (bs [76, 105, 115, 116])), (.pointer x1), (.iface x2.1 (pq x2.2))] t_ast_List) fun b3 H4 =>
  retK (some [(pq b3)]) H4 R
theorem NewList.enter (n : Nat) (H : Heap) (R : RR) (h : NewList.W n H R) : Fn PP f_ast_NewList #[(pq n)] H R :=
  fun_sound mixed Tryz.func203 ⟨patL [(10, pPtr), (14, pIf)], loopL [], joinL [], joinL [], joinRL []⟩ _ H R (Eq.mp (by unfold NewList.W; kernel_rfl) h)

abbrev kList : ByteArray := bs [76, 105, 115, 116]
theorem NewList_mk (a1 : Option Addr) (a2T a2 : Nat) : MkOk f_ast_NewList #[.string (bs []), .pointer a1, .iface a2T (pq a2)] #[.string kList, .pointer a1, .iface a2T (pq a2)] t_ast_List := by
  intro H b hb
  refine NewList.enter _ H _ ?_
  unfold NewList.W
  refine ⟨a1, loadC_of hb rfl, (a2T, a2), loadC_of hb rfl, ?_⟩
  exact newB_intro fun H1 e1 hb1 x1 s1 => retK_intro ⟨_, rfl, x1.of_nil, .inr (Nat.le_refl _), hb1⟩

def NewNonNull.W (n : Nat) (H : Heap) (R : RR) : Prop :=
  lw H n 1 pPtr fun (x1 : Option Addr) =>
  lw H n 2 pIf fun (x2 : (Nat × Nat)) =>
  newB H (.cells #[(.string (bs [78, 111, 110, 78, 117, 108, 108])), (.pointer x1), (.iface x2.1 (pq x2.2))] t_ast_NonNull) fun b3 H4 =>
  retK (some [(pq b3)]) H4 R
theorem NewNonNull.enter (n : Nat) (H : Heap) (R : RR) (h : NewNonNull.W n H R) : Fn PP f_ast_NewNonNull #[(pq n)] H R :=
  fun_sound mixed Tryz.func204 ⟨patL [(10, pPtr), (14, pIf)], loopL [], joinL [], joinL [], joinRL []⟩ _ H R (Eq.mp (by unfold NewNonNull.W; kernel_rfl) h)

abbrev kNonNull : ByteArray := bs [78, 111, 110, 78, 117, 108, 108]
theorem NewNonNull_mk (a1 : Option Addr) (a2T a2 : Nat) : MkOk f_ast_NewNonNull #[.string (bs []), .pointer a1, .iface a2T (pq a2)] #[.string kNonNull, .pointer a1, .iface a2T (pq a2)] t_ast_NonNull := by
  intro H b hb
  refine NewNonNull.enter _ H _ ?_
  unfold NewNonNull.W
  refine ⟨a1, loadC_of hb rfl, (a2T, a2), loadC_of hb rfl, ?_⟩
  exact newB_intro fun H1 e1 hb1 x1 s1 => retK_intro ⟨_, rfl, x1.of_nil, .inr (Nat.le_refl _), hb1⟩

def NewInputValueDefinition0.W (n : Nat) (H : Heap) (R : RR) : Prop :=
  lw H n 1 pPtr fun (x1 : Option Addr) =>
  lw H n 2 pPtr fun (x2 : Option Addr) =>
  lw H n 3 pPtr fun (x3 : Option Addr) =>
  lw H n 4 pIf fun (x4 : (Nat × Nat)) =>
  lw H n 5 ⟨Unit, fun _ => .nilIface⟩ fun (_x5 : Unit) =>
  lw H n 6 pSlc fun (x6 : Sl) =>
  newB H (.cells #[(.string (bs [73, 110, 112, 117, 116, 86, 97, 108, 117, 101, 68, 101, 102, 105, 110, 105, 116, 105, 111, 110])), (.pointer x1), (.pointer x2), (.pointer x3), (.iface x4.1 (pq x4.2)), .nilIface, (.slice x6.1 x6.2.1 x6.2.2)] t_ast_InputValueDefinition) fun b7 H8 =>
  retK (some [(pq b7)]) H8 R
theorem NewInputValueDefinition0.enter (n : Nat) (H : Heap) (R : RR) (h : NewInputValueDefinition0.W n H R) : Fn PP f_ast_NewInputValueDefinition #[(pq n)] H R :=
  fun_sound mixed Tryz.func154 ⟨patL [(10, pPtr), (14, pPtr), (18, pPtr), (22, pIf), (26, ⟨Unit, fun _ => .nilIface⟩), (30, pSlc)], loopL [], joinL [], joinL [], joinRL []⟩ _ H R (Eq.mp (by unfold NewInputValueDefinition0.W; kernel_rfl) h)

theorem NewInputValueDefinition0_mk (a1 : Option Addr) (a2 : Option Addr) (a3 : Option Addr) (a4T a4 : Nat) (a6 : Option Addr) (a6n a6c : Nat) : MkOk f_ast_NewInputValueDefinition #[.string (bs []), .pointer a1, .pointer a2, .pointer a3, .iface a4T (pq a4), .nilIface, .slice a6 a6n a6c] #[.string kInputValueDefinition, .pointer a1, .pointer a2, .pointer a3, .iface a4T (pq a4), .nilIface, .slice a6 a6n a6c] t_ast_InputValueDefinition := by
  intro H b hb
  refine NewInputValueDefinition0.enter _ H _ ?_
  unfold NewInputValueDefinition0.W
  refine ⟨a1, loadC_of hb rfl, a2, loadC_of hb rfl, a3, loadC_of hb rfl, (a4T, a4), loadC_of hb rfl, (), loadC_of hb rfl, (a6, a6n, a6c), loadC_of hb rfl, ?_⟩
  exact newB_intro fun H1 e1 hb1 x1 s1 => retK_intro ⟨_, rfl, x1.of_nil, .inr (Nat.le_refl _), hb1⟩

end Go.Vx
