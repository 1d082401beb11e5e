/- A part of the proof of what the last text of this claim says: WN. Conditions: none. -/
import Derived.Test.YtndpjeldpdppmaaGreatDoorXAc
namespace Go.Vx
open Go Go.Proofs
set_option maxRecDepth 100000
/-- A maker of nodes: out of a block with these cells it makes one with those. -/
def MkOk (f : FuncId) (c c' : Array Value) (t : TypeId) : Prop := ∀ (H : Heap) (b : Nat), H[b]? = some (.cells c t) → Fn PP f #[.pointer (some ⟨b, 0, none⟩)] H fun v H' =>
  ∃ b' : Nat, v = .pointer (some ⟨b', 0, none⟩) ∧ Ext [b] H H' ∧ (b' = b ∨ H.size ≤ b') ∧ H'[b']? = some (.cells c' t)

/-- ast.NewLocation -/
def NewLocation.W (n : Nat) (H : Heap) (R : Value → Heap → Prop) : Prop :=
  loadW H false 1 ⟨n, 0, none⟩ (pInt .i64) fun (x1 : Int) =>
  loadW H false 1 ⟨n, 1, none⟩ (pInt .i64) fun (x2 : Int) =>
  loadW H false 1 ⟨n, 2, none⟩ pBlk fun (x3 : Nat) =>
  newB H (.cells #[(.int .i64 x1), (.int .i64 x2), (.pointer (some ⟨x3, 0, none⟩))] t_ast_Location) fun b4 H5 =>
  retK (some [(.pointer (some ⟨b4, 0, none⟩))]) H5 R
theorem NewLocation.enter (n : Nat) (H : Heap) (R : Value → Heap → Prop) (h : NewLocation.W n H R) : Fn PP f_ast_NewLocation #[(.pointer (some ⟨n, 0, none⟩))] H R :=
  fun_sound mixed Tryz.func199 ⟨patL [(10, (pInt .i64)), (14, (pInt .i64)), (18, pBlk)], loopL [], joinL [], joinL [], joinRL []⟩ [(.pointer (some ⟨n, 0, none⟩))] H R (Eq.mp (by unfold NewLocation.W; kernel_rfl) h)

/-- ast.NewName -/
def NewName.W (n : Nat) (H : Heap) (R : Value → Heap → Prop) : Prop :=
  storeW H ⟨n, 0, none⟩ [(.string (bs [78, 97, 109, 101]))] fun H1 =>
  retK (some [(.pointer (some ⟨n, 0, none⟩))]) H1 R
theorem NewName.enter (n : Nat) (H : Heap) (R : Value → Heap → Prop) (h : NewName.W n H R) : Fn PP f_ast_NewName #[(.pointer (some ⟨n, 0, none⟩))] H R :=
  fun_sound mixed Tryz.func202 ⟨patL [], loopL [], joinL [], joinL [], joinRL []⟩ [(.pointer (some ⟨n, 0, none⟩))] H R (Eq.mp (by unfold NewName.W; kernel_rfl) h)

abbrev kName : ByteArray := bs [78, 97, 109, 101]
theorem NewName_mk (a1 : Option Addr) (a2 : ByteArray) : MkOk f_ast_NewName #[.string (bs []), .pointer a1, .string a2] #[.string kName, .pointer a1, .string a2] t_ast_Name := by
  intro H b hb
  refine NewName.enter _ H _ ?_
  unfold NewName.W
  exact storeW_intro hb (by simp) rfl rfl fun H1 e1 hb1 x1 s1 => retK_intro ⟨b, rfl, x1, .inl rfl, hb1⟩

/-- ast.NewNamed -/
def NewNamed.W (n : Nat) (H : Heap) (R : Value → Heap → Prop) : Prop :=
  storeW H ⟨n, 0, none⟩ [(.string (bs [78, 97, 109, 101, 100]))] fun H1 =>
  retK (some [(.pointer (some ⟨n, 0, none⟩))]) H1 R
theorem NewNamed.enter (n : Nat) (H : Heap) (R : Value → Heap → Prop) (h : NewNamed.W n H R) : Fn PP f_ast_NewNamed #[(.pointer (some ⟨n, 0, none⟩))] H R :=
  fun_sound mixed Tryz.func201 ⟨patL [], loopL [], joinL [], joinL [], joinRL []⟩ [(.pointer (some ⟨n, 0, none⟩))] H R (Eq.mp (by unfold NewNamed.W; kernel_rfl) h)

abbrev kNamed : ByteArray := bs [78, 97, 109, 101, 100]
theorem NewNamed_mk (a1 : Option Addr) (a2 : Option Addr) : MkOk f_ast_NewNamed #[.string (bs []), .pointer a1, .pointer a2] #[.string kNamed, .pointer a1, .pointer a2] t_ast_Named := by
  intro H b hb
  refine NewNamed.enter _ H _ ?_
  unfold NewNamed.W
  exact storeW_intro hb (by simp) rfl rfl fun H1 e1 hb1 x1 s1 => retK_intro ⟨b, rfl, x1, .inl rfl, hb1⟩

/-- ast.NewOperationTypeDefinition -/
def NewOperationTypeDefinition.W (n : Nat) (H : Heap) (R : Value → Heap → Prop) : Prop :=
  loadW H false 1 ⟨n, 1, none⟩ pPtr fun (x1 : Option Addr) =>
  loadW H false 1 ⟨n, 2, none⟩ pStr fun (x2 : ByteArray) =>
  loadW H false 1 ⟨n, 3, none⟩ pPtr fun (x3 : Option Addr) =>
  newB H (.cells #[(.string (bs [79, 112, 101, 114, 97, 116, 105, 111, 110, 84, 121, 112, 101, 68, 101, 102, 105, 110, 105, 116, 105, 111, 110])), (.pointer x1), (.string x2), (.pointer x3)] t_ast_OperationTypeDefinition) fun b4 H5 =>
  retK (some [(.pointer (some ⟨b4, 0, none⟩))]) H5 R
theorem NewOperationTypeDefinition.enter (n : Nat) (H : Heap) (R : Value → Heap → Prop) (h : NewOperationTypeDefinition.W n H R) : Fn PP f_ast_NewOperationTypeDefinition #[(.pointer (some ⟨n, 0, none⟩))] H R :=
  fun_sound mixed Tryz.func144 ⟨patL [(10, pPtr), (14, pStr), (18, pPtr)], loopL [], joinL [], joinL [], joinRL []⟩ [(.pointer (some ⟨n, 0, none⟩))] H R (Eq.mp (by unfold NewOperationTypeDefinition.W; kernel_rfl) h)

abbrev kOperationTypeDefinition : ByteArray := bs [79, 112, 101, 114, 97, 116, 105, 111, 110, 84, 121, 112, 101, 68, 101, 102, 105, 110, 105, 116, 105, 111, 110]
theorem NewOperationTypeDefinition_mk (a1 : Option Addr) (a2 : ByteArray) (a3 : Option Addr) : MkOk f_ast_NewOperationTypeDefinition #[.string (bs []), .pointer a1, .string a2, .pointer a3] #[.string kOperationTypeDefinition, .pointer a1, .string a2, .pointer a3] t_ast_OperationTypeDefinition := by
  intro H b hb
  refine NewOperationTypeDefinition.enter _ H _ ?_
  unfold NewOperationTypeDefinition.W
  refine ⟨a1, loadC_of hb rfl, a2, loadC_of hb rfl, a3, loadC_of hb rfl, ?_⟩
  exact newB_intro fun H1 e1 hb1 x1 s1 => retK_intro ⟨_, rfl, x1.of_nil, .inr (Nat.le_refl _), hb1⟩

/-- ast.NewScalarDefinition -/
def NewScalarDefinition.W (n : Nat) (H : Heap) (R : Value → Heap → Prop) : Prop :=
  loadW H false 1 ⟨n, 1, none⟩ pPtr fun (x1 : Option Addr) =>
  loadW H false 1 ⟨n, 2, none⟩ pPtr fun (x2 : Option Addr) =>
  loadW H false 1 ⟨n, 3, none⟩ pPtr fun (x3 : Option Addr) =>
  loadW H false 1 ⟨n, 4, none⟩ pSlc fun (x4 : (Option Addr × Nat × Nat)) =>
  newB H (.cells #[(.string (bs [83, 99, 97, 108, 97, 114, 68, 101, 102, 105, 110, 105, 116, 105, 111, 110])), (.pointer x1), (.pointer x2), (.pointer x3), (.slice x4.1 x4.2.1 x4.2.2)] t_ast_ScalarDefinition) fun b5 H6 =>
  retK (some [(.pointer (some ⟨b5, 0, none⟩))]) H6 R
theorem NewScalarDefinition.enter (n : Nat) (H : Heap) (R : Value → Heap → Prop) (h : NewScalarDefinition.W n H R) : Fn PP f_ast_NewScalarDefinition #[(.pointer (some ⟨n, 0, none⟩))] H R :=
  fun_sound mixed Tryz.func146 ⟨patL [(10, pPtr), (14, pPtr), (18, pPtr), (22, pSlc)], loopL [], joinL [], joinL [], joinRL []⟩ [(.pointer (some ⟨n, 0, none⟩))] H R (Eq.mp (by unfold NewScalarDefinition.W; kernel_rfl) h)

abbrev kScalarDefinition : ByteArray := bs [83, 99, 97, 108, 97, 114, 68, 101, 102, 105, 110, 105, 116, 105, 111, 110]
theorem NewScalarDefinition_mk (a1 : Option Addr) (a2 : Option Addr) (a3 : Option Addr) (a4 : Option Addr) (a4n a4c : Nat) : MkOk f_ast_NewScalarDefinition #[.string (bs []), .pointer a1, .pointer a2, .pointer a3, .slice a4 a4n a4c] #[.string kScalarDefinition, .pointer a1, .pointer a2, .pointer a3, .slice a4 a4n a4c] t_ast_ScalarDefinition := by
  intro H b hb
  refine NewScalarDefinition.enter _ H _ ?_
  unfold NewScalarDefinition.W
  refine ⟨a1, loadC_of hb rfl, a2, loadC_of hb rfl, a3, loadC_of hb rfl, (a4, a4n, a4c), loadC_of hb rfl, ?_⟩
  exact newB_intro fun H1 e1 hb1 x1 s1 => retK_intro ⟨_, rfl, x1.of_nil, .inr (Nat.le_refl _), hb1⟩

end Go.Vx
