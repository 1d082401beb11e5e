/- A part of the proof of what the last text of this claim says: WB5. Conditions: none. -/
import Derived.Test.YtndpjeldpdppmaaGreatDoorXAc
namespace Go.Vx
open Go Go.Proofs
set_option maxRecDepth 100000
/-- (*impl.taker).part -/
def tpartOperationTypeDefinition.W (t : Nat) (v : Nat) (kind : Int) (H : Heap) (R : Value → Heap → Prop) : Prop :=
  newB H (.cells #[(.pointer (some ⟨t, 0, none⟩))] t_p_impl_taker) fun b1 H2 =>
  loadW H2 false 1 ⟨b1, 0, none⟩ pPtr fun (x3 : Option Addr) =>
  loadW H2 false 1 ⟨v, 1, none⟩ pPtr fun (x4 : Option Addr) =>
  loadW H2 false 1 ⟨v, 2, none⟩ pStr fun (x5 : ByteArray) =>
  loadW H2 false 1 ⟨v, 3, none⟩ pPtr fun (x6 : Option Addr) =>
  callW PP f_impl_on #[(.pointer x6)] H2 pStr fun (x7 : ByteArray) H8 =>
  loadC H8 false 1 ⟨v, 2, none⟩ = some (.string x5) ∧
  loadC H8 false 1 ⟨v, 1, none⟩ = some (.pointer x4) ∧
  loadC H8 false 1 ⟨b1, 0, none⟩ = some (.pointer x3) ∧
  callW PP f_impl_taker_put #[(.pointer x3), (.pointer x4), (.agg #[(.int .i64 25), (.string x7), (.string (bs [])), (.string x5), (.int .i64 0), (.int .i64 0)]), .nilFunc] H8 ⟨Unit, fun _ => (.tuple #[])⟩ fun (_ : Unit) H10 =>
  retK (some []) H10 R
theorem tpartOperationTypeDefinition.enter (t : Nat) (v : Nat) (kind : Int) (H : Heap) (R : Value → Heap → Prop) (h : tpartOperationTypeDefinition.W t v kind H R) : Fn PP f_impl_taker_part #[(.pointer (some ⟨t, 0, none⟩)), (.iface t_p_ast_OperationTypeDefinition (.pointer (some ⟨v, 0, none⟩))), (.int .i64 kind)] H R :=
  fun_sound mixed Tryz.func34 ⟨patL [(55, pPtr), (59, pPtr), (63, pStr), (67, pPtr), (68, pStr), (70, ⟨Unit, fun _ => (.tuple #[])⟩)], loopL [], joinL [], joinL [], joinRL []⟩ [(.pointer (some ⟨t, 0, none⟩)), (.iface t_p_ast_OperationTypeDefinition (.pointer (some ⟨v, 0, none⟩))), (.int .i64 kind)] H R (Eq.mp (by unfold tpartOperationTypeDefinition.W; kernel_rfl) h)

/-- (*impl.taker).part -/
def tpartScalarDefinition.W (t : Nat) (v : Nat) (kind : Int) (H : Heap) (R : Value → Heap → Prop) : Prop :=
  newB H (.cells #[(.pointer (some ⟨t, 0, none⟩))] t_p_impl_taker) fun b1 H2 =>
  asW PP (.iface t_p_ast_ScalarDefinition (.pointer (some ⟨v, 0, none⟩))) t_any t_ast_Node true (
  loadW H2 false 1 ⟨b1, 0, none⟩ pPtr fun (x3 : Option Addr) =>
    callW PP f_impl_taker_definition #[(.pointer x3), (.iface t_p_ast_ScalarDefinition (.pointer (some ⟨v, 0, none⟩)))] H2 ⟨Unit, fun _ => (.tuple #[])⟩ fun (_ : Unit) H5 =>
    retK (some []) H5 R)
theorem tpartScalarDefinition.enter (t : Nat) (v : Nat) (kind : Int) (H : Heap) (R : Value → Heap → Prop) (h : tpartScalarDefinition.W t v kind H R) : Fn PP f_impl_taker_part #[(.pointer (some ⟨t, 0, none⟩)), (.iface t_p_ast_ScalarDefinition (.pointer (some ⟨v, 0, none⟩))), (.int .i64 kind)] H R :=
  fun_sound mixed Tryz.func34 ⟨patL [(151, pPtr), (153, ⟨Unit, fun _ => (.tuple #[])⟩)], loopL [], joinL [], joinL [], joinRL []⟩ [(.pointer (some ⟨t, 0, none⟩)), (.iface t_p_ast_ScalarDefinition (.pointer (some ⟨v, 0, none⟩))), (.int .i64 kind)] H R (Eq.mp (by unfold tpartScalarDefinition.W; kernel_rfl) h)

end Go.Vx
