/- A part of the proof of what the last text of this claim says: WB5. Conditions: none. -/
import Derived.Test.YtndpjeldpdppmaaGreatDoorZAc
namespace Go.Vx
open Go Go.Proofs
set_option maxRecDepth 100000
def tpartEnumValueDefinition.W (t : Nat) (v : Nat) (_kind : Int) (H : Heap) (R : RR) : Prop :=
  newB H (.cells #[(pq t)] t_p_impl_taker) fun b1 H2 =>
  newB H2 (.cells #[(.pointer none)] t_p_ast_EnumValueDefinition) fun b3 H4 =>
  storeW H4 ⟨b3, 0, none⟩ [(pq v)] fun H5 =>
  lw H5 b1 0 pPtr fun (x6 : Option Addr) =>
  lw H5 b3 0 pBlk fun (x7 : Nat) =>
  lw H5 x7 1 pPtr fun (x8 : Option Addr) =>
  lw H5 b3 0 pBlk fun (x9 : Nat) =>
  lw H5 x9 2 pPtr fun (x10 : Option Addr) =>
  callW PP f_impl_text #[(.pointer x10)] H5 pStr fun (x11 : ByteArray) H12 =>
  lc H12 x7 1 (.pointer x8) ∧
  lc H12 b3 0 (pq x7) ∧
  lc H12 b1 0 (.pointer x6) ∧
  callW PP f_impl_taker_put #[(.pointer x6), (.pointer x8), (.agg #[(.int .i64 35), (.string x11), (.string (bs [])), (.string (bs [])), (.int .i64 0), (.int .i64 0)]), (.func (.func f_impl_taker_part_1) #[] #[(pq b1), (pq b3)])] H12 pUn fun (_ : Unit) H14 =>
  lc H14 b3 0 (pq x9) ∧
  retK (some []) H14 R
theorem tpartEnumValueDefinition.enter (t : Nat) (v : Nat) (kind : Int) (H : Heap) (R : RR) (h : tpartEnumValueDefinition.W t v kind H R) : Fn PP f_impl_taker_part #[(pq t), (.iface t_p_ast_EnumValueDefinition (pq v)), (.int .i64 kind)] H R :=
  fun_sound mixed Tryz.func34 ⟨patL [(114, pPtr), (115, pBlk), (118, pPtr), (119, pBlk), (122, pPtr), (123, pStr), (126, pUn)], loopL [], joinL [], joinL [], joinRL []⟩ _ H R (Eq.mp (by unfold tpartEnumValueDefinition.W; kernel_rfl) h)

def tpartSchemaDefinition.W (t : Nat) (v : Nat) (_kind : Int) (H : Heap) (R : RR) : Prop :=
  newB H (.cells #[(pq t)] t_p_impl_taker) fun b1 H2 =>
  asW PP (.iface t_p_ast_SchemaDefinition (pq v)) t_any t_ast_Node true (
  lw H2 b1 0 pPtr fun (x3 : Option Addr) =>
  callW PP f_impl_taker_definition #[(.pointer x3), (.iface t_p_ast_SchemaDefinition (pq v))] H2 pUn fun (_ : Unit) H5 =>
  retK (some []) H5 R)
theorem tpartSchemaDefinition.enter (t : Nat) (v : Nat) (kind : Int) (H : Heap) (R : RR) (h : tpartSchemaDefinition.W t v kind H R) : Fn PP f_impl_taker_part #[(pq t), (.iface t_p_ast_SchemaDefinition (pq v)), (.int .i64 kind)] H R :=
  fun_sound mixed Tryz.func34 ⟨patL [(151, pPtr), (153, pUn)], loopL [], joinL [], joinL [], joinRL []⟩ _ H R (Eq.mp (by unfold tpartSchemaDefinition.W; kernel_rfl) h)

def tpartScalarDefinition.W (t : Nat) (v : Nat) (_kind : Int) (H : Heap) (R : RR) : Prop :=
  newB H (.cells #[(pq t)] t_p_impl_taker) fun b1 H2 =>
  asW PP (.iface t_p_ast_ScalarDefinition (pq v)) t_any t_ast_Node true (
  lw H2 b1 0 pPtr fun (x3 : Option Addr) =>
  callW PP f_impl_taker_definition #[(.pointer x3), (.iface t_p_ast_ScalarDefinition (pq v))] H2 pUn fun (_ : Unit) H5 =>
  retK (some []) H5 R)
theorem tpartScalarDefinition.enter (t : Nat) (v : Nat) (kind : Int) (H : Heap) (R : RR) (h : tpartScalarDefinition.W t v kind H R) : Fn PP f_impl_taker_part #[(pq t), (.iface t_p_ast_ScalarDefinition (pq v)), (.int .i64 kind)] H R :=
  fun_sound mixed Tryz.func34 ⟨patL [(151, pPtr), (153, pUn)], loopL [], joinL [], joinL [], joinRL []⟩ _ H R (Eq.mp (by unfold tpartScalarDefinition.W; kernel_rfl) h)

def tpartUnionDefinition.W (t : Nat) (v : Nat) (_kind : Int) (H : Heap) (R : RR) : Prop :=
  newB H (.cells #[(pq t)] t_p_impl_taker) fun b1 H2 =>
  asW PP (.iface t_p_ast_UnionDefinition (pq v)) t_any t_ast_Node true (
  lw H2 b1 0 pPtr fun (x3 : Option Addr) =>
  callW PP f_impl_taker_definition #[(.pointer x3), (.iface t_p_ast_UnionDefinition (pq v))] H2 pUn fun (_ : Unit) H5 =>
  retK (some []) H5 R)
theorem tpartUnionDefinition.enter (t : Nat) (v : Nat) (kind : Int) (H : Heap) (R : RR) (h : tpartUnionDefinition.W t v kind H R) : Fn PP f_impl_taker_part #[(pq t), (.iface t_p_ast_UnionDefinition (pq v)), (.int .i64 kind)] H R :=
  fun_sound mixed Tryz.func34 ⟨patL [(151, pPtr), (153, pUn)], loopL [], joinL [], joinL [], joinRL []⟩ _ H R (Eq.mp (by unfold tpartUnionDefinition.W; kernel_rfl) h)

end Go.Vx
