/- A part of the proof of what the last text of this claim says: WB5. Conditions: none. -/
import Derived.Test.YtndpjeldpdppmaaGreatDoorZAc
namespace Go.Vx
open Go Go.Proofs
set_option maxRecDepth 100000
def tpartFieldDefinition.W (t : Nat) (v : Nat) (_kind : Int) (H : Heap) (R : RR) : Prop :=
  newB H (.cells #[(pq t)] t_p_impl_taker) fun b1 H2 =>
  lw H2 b1 0 pPtr fun (x3 : Option Addr) =>
  newB H2 (.cells #[(pq v)] t_p_ast_FieldDefinition) fun b4 H5 =>
  callW PP f_impl_taker_fields #[(.pointer x3), (.slice (some ⟨b4, 0, none⟩) 1 1)] H5 pUn fun (_ : Unit) H7 =>
  retK (some []) H7 R
theorem tpartFieldDefinition.enter (t : Nat) (v : Nat) (kind : Int) (H : Heap) (R : RR) (h : tpartFieldDefinition.W t v kind H R) : Fn PP f_impl_taker_part #[(pq t), (.iface t_p_ast_FieldDefinition (pq v)), (.int .i64 kind)] H R :=
  fun_sound mixed Tryz.func34 ⟨patL [(100, pPtr), (103, pUn)], loopL [], joinL [], joinL [], joinRL []⟩ _ H R (Eq.mp (by unfold tpartFieldDefinition.W; kernel_rfl) h)

def tpartScalarDefinition.W (t : Nat) (v : Nat) (_kind : Int) (H : Heap) (R : RR) : Prop :=
  newB H (.cells #[(pq t)] t_p_impl_taker) fun b1 H2 =>
  asW PP (.iface t_p_ast_ScalarDefinition (pq v)) t_any t_ast_Node true (
  lw H2 b1 0 pPtr fun (x3 : Option Addr) =>
  callW PP f_impl_taker_definition #[(.pointer x3), (.iface t_p_ast_ScalarDefinition (pq v))] H2 pUn fun (_ : Unit) H5 =>
  retK (some []) H5 R)
theorem tpartScalarDefinition.enter (t : Nat) (v : Nat) (kind : Int) (H : Heap) (R : RR) (h : tpartScalarDefinition.W t v kind H R) : Fn PP f_impl_taker_part #[(pq t), (.iface t_p_ast_ScalarDefinition (pq v)), (.int .i64 kind)] H R :=
  fun_sound mixed Tryz.func34 ⟨patL [(151, pPtr), (153, pUn)], loopL [], joinL [], joinL [], joinRL []⟩ _ H R (Eq.mp (by unfold tpartScalarDefinition.W; kernel_rfl) h)

end Go.Vx
