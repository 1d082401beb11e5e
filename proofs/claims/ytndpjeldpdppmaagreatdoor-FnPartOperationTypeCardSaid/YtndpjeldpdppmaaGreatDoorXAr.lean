/- A part of the proof of what the last text of this claim says: WB4. Conditions: none. -/
import Derived.Test.YtndpjeldpdppmaaGreatDoorXAc
namespace Go.Vx
open Go Go.Proofs
set_option maxRecDepth 100000
/-- (*impl.taker).put -/
def putG.W (f : FuncId) (t : Nat) (l : Nat) (x : Nd) (c1 : Nat) (c2 : Nat) (H : Heap) (R : Value → Heap → Prop) : Prop :=
  newB H (.cells #[(.int .i64 x.kind), (.string x.name), (.string x.alias), (.string x.text), (.int .i64 x.flag), (.int .i64 x.size)] t_impl_Node) fun b1 H2 =>
  loadW H2 false 1 ⟨t, 0, none⟩ pSlc fun (x3 : (Option Addr × Nat × Nat)) =>
  loadW H2 false 1 ⟨t, 0, none⟩ pSlc fun (x4 : (Option Addr × Nat × Nat)) =>
  loadW H2 true 6 ⟨b1, 0, none⟩ ⟨Int × ByteArray × ByteArray × ByteArray × Int × Int, fun x => (.agg #[(.int .i64 x.1), (.string x.2.1), (.string x.2.2.1), (.string x.2.2.2.1), (.int .i64 x.2.2.2.2.1), (.int .i64 x.2.2.2.2.2)])⟩ fun (x5 : Int × ByteArray × ByteArray × ByteArray × Int × Int) =>
  newB H2 (.cells #[(.int .i64 x5.1), (.string x5.2.1), (.string x5.2.2.1), (.string x5.2.2.2.1), (.int .i64 x5.2.2.2.2.1), (.int .i64 x5.2.2.2.2.2)] t_impl_Node) fun b6 H7 =>
  loadC H7 false 1 ⟨t, 0, none⟩ = some (.slice x4.1 x4.2.1 x4.2.2) ∧
  appK H7 t_impl_Node 6 72 x4.1 x4.2.1 x4.2.2 (some ⟨b6, 0, none⟩) 1 fun a8 c9 H10 =>
  storeW H10 ⟨t, 0, none⟩ [(.slice a8 (x4.2.1 + 1) c9)] fun H11 =>
  loadW H11 false 1 ⟨t, 1, none⟩ pSlc fun (x12 : (Option Addr × Nat × Nat)) =>
  loadW H11 false 1 ⟨l, 0, none⟩ (pInt .i64) fun (x13 : Int) =>
  loadW H11 false 1 ⟨l, 1, none⟩ (pInt .i64) fun (x14 : Int) =>
  newB H11 (.cells #[(.int .i64 x13), (.int .i64 x14)] t__2int) fun b15 H16 =>
  loadC H16 false 1 ⟨t, 1, none⟩ = some (.slice x12.1 x12.2.1 x12.2.2) ∧
  appK H16 t__2int 2 16 x12.1 x12.2.1 x12.2.2 (some ⟨b15, 0, none⟩) 1 fun a17 c18 H19 =>
  storeW H19 ⟨t, 1, none⟩ [(.slice a17 (x12.2.1 + 1) c18)] fun H20 =>
  callW PP f #[(.pointer (some ⟨c1, 0, none⟩)), (.pointer (some ⟨c2, 0, none⟩))] H20 ⟨Unit, fun _ => (.tuple #[])⟩ fun (_ : Unit) H22 =>
  loadW H22 false 1 ⟨t, 0, none⟩ pSlc fun (x23 : (Option Addr × Nat × Nat)) =>
  loadW H22 false 1 ⟨t, 0, none⟩ pSlc fun (x24 : (Option Addr × Nat × Nat)) =>
  (IxOk x23.1 ((x3.2.1 : Nat) : Int) x23.2.1) ∧
  storeW H22 ⟨(blkOf x23.1), ((offOf x23.1 + ((x3.2.1 : Nat) : Int).toNat * 6) + 5), none⟩ [(.int .i64 (IntKind.i64.wrap (((x24.2.1 : Nat) : Int) - ((x3.2.1 : Nat) : Int))))] fun H25 =>
  retK (some []) H25 R
theorem putSys2.enter (t : Nat) (l : Nat) (x : Nd) (c1 : Nat) (c2 : Nat) (H : Heap) (R : Value → Heap → Prop) (h : putG.W f_impl_taker_system_2 t l x c1 c2 H R) : Fn PP f_impl_taker_put #[(.pointer (some ⟨t, 0, none⟩)), (.pointer (some ⟨l, 0, none⟩)), (.agg #[(.int .i64 x.kind), (.string x.name), (.string x.alias), (.string x.text), (.int .i64 x.flag), (.int .i64 x.size)]), (.func (.func f_impl_taker_system_2) #[] #[(.pointer (some ⟨c1, 0, none⟩)), (.pointer (some ⟨c2, 0, none⟩))])] H R :=
  fun_sound mixed Tryz.func64 ⟨patL [(12, pSlc), (18, pSlc), (19, ⟨Int × ByteArray × ByteArray × ByteArray × Int × Int, fun x => (.agg #[(.int .i64 x.1), (.string x.2.1), (.string x.2.2.1), (.string x.2.2.2.1), (.int .i64 x.2.2.2.2.1), (.int .i64 x.2.2.2.2.2)])⟩), (32, pSlc), (36, (pInt .i64)), (40, (pInt .i64)), (49, ⟨Unit, fun _ => (.tuple #[])⟩), (53, pSlc), (58, pSlc)], loopL [], joinL [], joinL [], joinRL []⟩ [(.pointer (some ⟨t, 0, none⟩)), (.pointer (some ⟨l, 0, none⟩)), (.agg #[(.int .i64 x.kind), (.string x.name), (.string x.alias), (.string x.text), (.int .i64 x.flag), (.int .i64 x.size)]), (.func (.func f_impl_taker_system_2) #[] #[(.pointer (some ⟨c1, 0, none⟩)), (.pointer (some ⟨c2, 0, none⟩))])] H R (Eq.mp (by unfold putG.W; kernel_rfl) h)

/-- impl.text -/
def textOf.W (n : Nat) (H : Heap) (R : Value → Heap → Prop) : Prop :=
  loadW H false 1 ⟨n, 2, none⟩ pStr fun (x1 : ByteArray) =>
  retK (some [(.string x1)]) H R
theorem textOf.enter (n : Nat) (H : Heap) (R : Value → Heap → Prop) (h : textOf.W n H R) : Fn PP f_impl_text #[(.pointer (some ⟨n, 0, none⟩))] H R :=
  fun_sound mixed Tryz.func66 ⟨patL [(8, pStr)], loopL [], joinL [], joinL [], joinRL []⟩ [(.pointer (some ⟨n, 0, none⟩))] H R (Eq.mp (by unfold textOf.W; kernel_rfl) h)

/-- impl.text -/
def textNil.W  (H : Heap) (R : Value → Heap → Prop) : Prop :=
  retK (some [(.string (bs []))]) H R
theorem textNil.enter  (H : Heap) (R : Value → Heap → Prop) (h : textNil.W  H R) : Fn PP f_impl_text #[(.pointer none)] H R :=
  fun_sound mixed Tryz.func66 ⟨patL [], loopL [], joinL [], joinL [], joinRL []⟩ [(.pointer none)] H R (Eq.mp (by unfold textNil.W; kernel_rfl) h)

/-- impl.on -/
def onOf.W (n : Nat) (H : Heap) (R : Value → Heap → Prop) : Prop :=
  loadW H false 1 ⟨n, 2, none⟩ pPtr fun (x1 : Option Addr) =>
  callW PP f_impl_text #[(.pointer x1)] H pStr fun (x2 : ByteArray) H3 =>
  retK (some [(.string x2)]) H3 R
theorem onOf.enter (n : Nat) (H : Heap) (R : Value → Heap → Prop) (h : onOf.W n H R) : Fn PP f_impl_on #[(.pointer (some ⟨n, 0, none⟩))] H R :=
  fun_sound mixed Tryz.func65 ⟨patL [(8, pPtr), (9, pStr)], loopL [], joinL [], joinL [], joinRL []⟩ [(.pointer (some ⟨n, 0, none⟩))] H R (Eq.mp (by unfold onOf.W; kernel_rfl) h)

/-- impl.on -/
def onNil.W  (H : Heap) (R : Value → Heap → Prop) : Prop :=
  retK (some [(.string (bs []))]) H R
theorem onNil.enter  (H : Heap) (R : Value → Heap → Prop) (h : onNil.W  H R) : Fn PP f_impl_on #[(.pointer none)] H R :=
  fun_sound mixed Tryz.func65 ⟨patL [], loopL [], joinL [], joinL [], joinRL []⟩ [(.pointer none)] H R (Eq.mp (by unfold onNil.W; kernel_rfl) h)

/-- (*impl.taker).put -/
def putNil.W (t : Nat) (l : Nat) (x : Nd) (H : Heap) (R : Value → Heap → Prop) : Prop :=
  newB H (.cells #[(.int .i64 x.kind), (.string x.name), (.string x.alias), (.string x.text), (.int .i64 x.flag), (.int .i64 x.size)] t_impl_Node) fun b1 H2 =>
  loadW H2 false 1 ⟨t, 0, none⟩ pSlc fun (x3 : (Option Addr × Nat × Nat)) =>
  loadW H2 false 1 ⟨t, 0, none⟩ pSlc fun (x4 : (Option Addr × Nat × Nat)) =>
  loadW H2 true 6 ⟨b1, 0, none⟩ ⟨Int × ByteArray × ByteArray × ByteArray × Int × Int, fun x => (.agg #[(.int .i64 x.1), (.string x.2.1), (.string x.2.2.1), (.string x.2.2.2.1), (.int .i64 x.2.2.2.2.1), (.int .i64 x.2.2.2.2.2)])⟩ fun (x5 : Int × ByteArray × ByteArray × ByteArray × Int × Int) =>
  newB H2 (.cells #[(.int .i64 x5.1), (.string x5.2.1), (.string x5.2.2.1), (.string x5.2.2.2.1), (.int .i64 x5.2.2.2.2.1), (.int .i64 x5.2.2.2.2.2)] t_impl_Node) fun b6 H7 =>
  loadC H7 false 1 ⟨t, 0, none⟩ = some (.slice x4.1 x4.2.1 x4.2.2) ∧
  appK H7 t_impl_Node 6 72 x4.1 x4.2.1 x4.2.2 (some ⟨b6, 0, none⟩) 1 fun a8 c9 H10 =>
  storeW H10 ⟨t, 0, none⟩ [(.slice a8 (x4.2.1 + 1) c9)] fun H11 =>
  loadW H11 false 1 ⟨t, 1, none⟩ pSlc fun (x12 : (Option Addr × Nat × Nat)) =>
  loadW H11 false 1 ⟨l, 0, none⟩ (pInt .i64) fun (x13 : Int) =>
  loadW H11 false 1 ⟨l, 1, none⟩ (pInt .i64) fun (x14 : Int) =>
  newB H11 (.cells #[(.int .i64 x13), (.int .i64 x14)] t__2int) fun b15 H16 =>
  loadC H16 false 1 ⟨t, 1, none⟩ = some (.slice x12.1 x12.2.1 x12.2.2) ∧
  appK H16 t__2int 2 16 x12.1 x12.2.1 x12.2.2 (some ⟨b15, 0, none⟩) 1 fun a17 c18 H19 =>
  storeW H19 ⟨t, 1, none⟩ [(.slice a17 (x12.2.1 + 1) c18)] fun H20 =>
  loadW H20 false 1 ⟨t, 0, none⟩ pSlc fun (x21 : (Option Addr × Nat × Nat)) =>
  loadW H20 false 1 ⟨t, 0, none⟩ pSlc fun (x22 : (Option Addr × Nat × Nat)) =>
  (IxOk x21.1 ((x3.2.1 : Nat) : Int) x21.2.1) ∧
  storeW H20 ⟨(blkOf x21.1), ((offOf x21.1 + ((x3.2.1 : Nat) : Int).toNat * 6) + 5), none⟩ [(.int .i64 (IntKind.i64.wrap (((x22.2.1 : Nat) : Int) - ((x3.2.1 : Nat) : Int))))] fun H23 =>
  retK (some []) H23 R
theorem putNil.enter (t : Nat) (l : Nat) (x : Nd) (H : Heap) (R : Value → Heap → Prop) (h : putNil.W t l x H R) : Fn PP f_impl_taker_put #[(.pointer (some ⟨t, 0, none⟩)), (.pointer (some ⟨l, 0, none⟩)), (.agg #[(.int .i64 x.kind), (.string x.name), (.string x.alias), (.string x.text), (.int .i64 x.flag), (.int .i64 x.size)]), .nilFunc] H R :=
  fun_sound mixed Tryz.func64 ⟨patL [(12, pSlc), (18, pSlc), (19, ⟨Int × ByteArray × ByteArray × ByteArray × Int × Int, fun x => (.agg #[(.int .i64 x.1), (.string x.2.1), (.string x.2.2.1), (.string x.2.2.2.1), (.int .i64 x.2.2.2.2.1), (.int .i64 x.2.2.2.2.2)])⟩), (32, pSlc), (36, (pInt .i64)), (40, (pInt .i64)), (53, pSlc), (58, pSlc)], loopL [], joinL [], joinL [], joinRL []⟩ [(.pointer (some ⟨t, 0, none⟩)), (.pointer (some ⟨l, 0, none⟩)), (.agg #[(.int .i64 x.kind), (.string x.name), (.string x.alias), (.string x.text), (.int .i64 x.flag), (.int .i64 x.size)]), .nilFunc] H R (Eq.mp (by unfold putNil.W; kernel_rfl) h)

/-- (*impl.taker).system$2 -/
def inSys2.W (c1 : Nat) (c2 : Nat) (H : Heap) (R : Value → Heap → Prop) : Prop :=
  loadW H false 1 ⟨c1, 0, none⟩ pPtr fun (x1 : Option Addr) =>
  loadW H false 1 ⟨c2, 0, none⟩ pBlk fun (x2 : Nat) =>
  loadW H false 1 ⟨x2, 2, none⟩ pPtr fun (x3 : Option Addr) =>
  callW PP f_impl_taker_description #[(.pointer x1), (.pointer x3)] H ⟨Unit, fun _ => (.tuple #[])⟩ fun (_ : Unit) H5 =>
  loadW H5 false 1 ⟨c1, 0, none⟩ pPtr fun (x6 : Option Addr) =>
  loadW H5 false 1 ⟨c2, 0, none⟩ pBlk fun (x7 : Nat) =>
  loadW H5 false 1 ⟨x7, 4, none⟩ pSlc fun (x8 : (Option Addr × Nat × Nat)) =>
  callW PP f_impl_taker_directives #[(.pointer x6), (.slice x8.1 x8.2.1 x8.2.2)] H5 ⟨Unit, fun _ => (.tuple #[])⟩ fun (_ : Unit) H10 =>
  retK (some []) H10 R
theorem inSys2.enter (c1 : Nat) (c2 : Nat) (H : Heap) (R : Value → Heap → Prop) (h : inSys2.W c1 c2 H R) : Fn PP f_impl_taker_system_2 #[(.pointer (some ⟨c1, 0, none⟩)), (.pointer (some ⟨c2, 0, none⟩))] H R :=
  fun_sound mixed Tryz.func185 ⟨patL [(2, pPtr), (3, pBlk), (6, pPtr), (7, ⟨Unit, fun _ => (.tuple #[])⟩), (8, pPtr), (9, pBlk), (12, pSlc), (13, ⟨Unit, fun _ => (.tuple #[])⟩)], loopL [], joinL [], joinL [], joinRL []⟩ [(.pointer (some ⟨c1, 0, none⟩)), (.pointer (some ⟨c2, 0, none⟩))] H R (Eq.mp (by unfold inSys2.W; kernel_rfl) h)

/-- (*impl.taker).description -/
def description0.W (t : Nat) (H : Heap) (R : Value → Heap → Prop) : Prop :=
  retK (some []) H R
theorem description0.enter (t : Nat) (H : Heap) (R : Value → Heap → Prop) (h : description0.W t H R) : Fn PP f_impl_taker_description #[(.pointer (some ⟨t, 0, none⟩)), (.pointer none)] H R :=
  fun_sound mixed Tryz.func63 ⟨patL [], loopL [], joinL [], joinL [], joinRL []⟩ [(.pointer (some ⟨t, 0, none⟩)), (.pointer none)] H R (Eq.mp (by unfold description0.W; kernel_rfl) h)

/-- (*impl.taker).directives -/
def directivesT.W (t : Nat) (l : Option Addr) (lN lC : Nat) (H : Heap) (R : Value → Heap → Prop) : Prop :=
  newB H (.cells #[(.pointer (some ⟨t, 0, none⟩))] t_p_impl_taker) fun b1 H2 =>
  loopK (Int × Unit) (0, ()) H2 fun z3 H4 next5 =>
  forkB (decide (z3.1 < ((lN : Nat) : Int)))
  ((IxOk l z3.1 lN) ∧
    loadW H4 false 1 ⟨(blkOf l), (offOf l + z3.1.toNat * 1), none⟩ pBlk fun (x6 : Nat) =>
    newB H4 (.cells #[(.pointer none)] t_p_ast_Directive) fun b7 H8 =>
    storeW H8 ⟨b7, 0, none⟩ [(.pointer (some ⟨x6, 0, none⟩))] fun H9 =>
    loadW H9 false 1 ⟨b1, 0, none⟩ pPtr fun (x10 : Option Addr) =>
    loadW H9 false 1 ⟨b7, 0, none⟩ pBlk fun (x11 : Nat) =>
    loadW H9 false 1 ⟨x11, 1, none⟩ pPtr fun (x12 : Option Addr) =>
    loadW H9 false 1 ⟨b7, 0, none⟩ pBlk fun (x13 : Nat) =>
    loadW H9 false 1 ⟨x13, 2, none⟩ pPtr fun (x14 : Option Addr) =>
    callW PP f_impl_text #[(.pointer x14)] H9 pStr fun (x15 : ByteArray) H16 =>
    loadC H16 false 1 ⟨x11, 1, none⟩ = some (.pointer x12) ∧
    loadC H16 false 1 ⟨b7, 0, none⟩ = some (.pointer (some ⟨x11, 0, none⟩)) ∧
    loadC H16 false 1 ⟨b1, 0, none⟩ = some (.pointer x10) ∧
    callW PP f_impl_taker_put #[(.pointer x10), (.pointer x12), (.agg #[(.int .i64 10), (.string x15), (.string (bs [])), (.string (bs [])), (.int .i64 0), (.int .i64 0)]), (.func (.func f_impl_taker_directives_1) #[] #[(.pointer (some ⟨b1, 0, none⟩)), (.pointer (some ⟨b7, 0, none⟩))])] H16 ⟨Unit, fun _ => (.tuple #[])⟩ fun (_ : Unit) H18 =>
    loadC H18 false 1 ⟨b7, 0, none⟩ = some (.pointer (some ⟨x13, 0, none⟩)) ∧
    next5 ((IntKind.i64.wrap (z3.1 + 1)), ()) H18)
  (retK (some []) H4 R)
theorem directivesT.enter (t : Nat) (l : Option Addr) (lN lC : Nat) (H : Heap) (R : Value → Heap → Prop) (h : directivesT.W t l lN lC H R) : Fn PP f_impl_taker_directives #[(.pointer (some ⟨t, 0, none⟩)), (.slice l lN lC)] H R :=
  fun_sound mixed Tryz.func62 ⟨patL [(11, pBlk), (12, pPtr), (13, pBlk), (16, pPtr), (17, pBlk), (20, pPtr), (21, pStr), (24, ⟨Unit, fun _ => (.tuple #[])⟩)], loopL [(0, [Slot.int .i64 8])], joinL [], joinL [], joinRL []⟩ [(.pointer (some ⟨t, 0, none⟩)), (.slice l lN lC)] H R (Eq.mp (by unfold directivesT.W; kernel_rfl) h)

/-- (*impl.taker).definition -/
def definitionScalarDefinition.W (t : Nat) (v : Nat) (H : Heap) (R : Value → Heap → Prop) : Prop :=
  newB H (.cells #[(.pointer (some ⟨t, 0, none⟩))] t_p_impl_taker) fun b1 H2 =>
  loadW H2 false 1 ⟨b1, 0, none⟩ pPtr fun (x3 : Option Addr) =>
  callW PP f_impl_taker_system #[(.pointer x3), (.iface t_p_ast_ScalarDefinition (.pointer (some ⟨v, 0, none⟩)))] H2 ⟨Unit, fun _ => (.tuple #[])⟩ fun (_ : Unit) H5 =>
  retK (some []) H5 R
theorem definitionScalarDefinition.enter (t : Nat) (v : Nat) (H : Heap) (R : Value → Heap → Prop) (h : definitionScalarDefinition.W t v H R) : Fn PP f_impl_taker_definition #[(.pointer (some ⟨t, 0, none⟩)), (.iface t_p_ast_ScalarDefinition (.pointer (some ⟨v, 0, none⟩)))] H R :=
  fun_sound mixed Tryz.func71 ⟨patL [(8, pPtr), (10, ⟨Unit, fun _ => (.tuple #[])⟩)], loopL [], joinL [], joinL [], joinRL []⟩ [(.pointer (some ⟨t, 0, none⟩)), (.iface t_p_ast_ScalarDefinition (.pointer (some ⟨v, 0, none⟩)))] H R (Eq.mp (by unfold definitionScalarDefinition.W; kernel_rfl) h)

/-- (*impl.taker).system -/
def systemScalarDefinition.W (t : Nat) (v : Nat) (H : Heap) (R : Value → Heap → Prop) : Prop :=
  newB H (.cells #[(.pointer (some ⟨t, 0, none⟩))] t_p_impl_taker) fun b1 H2 =>
  newB H2 (.cells #[(.pointer none)] t_p_ast_ScalarDefinition) fun b3 H4 =>
  storeW H4 ⟨b3, 0, none⟩ [(.pointer (some ⟨v, 0, none⟩))] fun H5 =>
  loadW H5 false 1 ⟨b1, 0, none⟩ pPtr fun (x6 : Option Addr) =>
  loadW H5 false 1 ⟨b3, 0, none⟩ pBlk fun (x7 : Nat) =>
  loadW H5 false 1 ⟨x7, 1, none⟩ pPtr fun (x8 : Option Addr) =>
  loadW H5 false 1 ⟨b3, 0, none⟩ pBlk fun (x9 : Nat) =>
  loadW H5 false 1 ⟨x9, 3, none⟩ pPtr fun (x10 : Option Addr) =>
  callW PP f_impl_text #[(.pointer x10)] H5 pStr fun (x11 : ByteArray) H12 =>
  loadC H12 false 1 ⟨x7, 1, none⟩ = some (.pointer x8) ∧
  loadC H12 false 1 ⟨b3, 0, none⟩ = some (.pointer (some ⟨x7, 0, none⟩)) ∧
  loadC H12 false 1 ⟨b1, 0, none⟩ = some (.pointer x6) ∧
  callW PP f_impl_taker_put #[(.pointer x6), (.pointer x8), (.agg #[(.int .i64 26), (.string x11), (.string (bs [])), (.string (bs [])), (.int .i64 0), (.int .i64 0)]), (.func (.func f_impl_taker_system_2) #[] #[(.pointer (some ⟨b1, 0, none⟩)), (.pointer (some ⟨b3, 0, none⟩))])] H12 ⟨Unit, fun _ => (.tuple #[])⟩ fun (_ : Unit) H14 =>
  loadC H14 false 1 ⟨b3, 0, none⟩ = some (.pointer (some ⟨x9, 0, none⟩)) ∧
  retK (some []) H14 R
theorem systemScalarDefinition.enter (t : Nat) (v : Nat) (H : Heap) (R : Value → Heap → Prop) (h : systemScalarDefinition.W t v H R) : Fn PP f_impl_taker_system #[(.pointer (some ⟨t, 0, none⟩)), (.iface t_p_ast_ScalarDefinition (.pointer (some ⟨v, 0, none⟩)))] H R :=
  fun_sound mixed Tryz.func128 ⟨patL [(32, pPtr), (33, pBlk), (36, pPtr), (37, pBlk), (40, pPtr), (41, pStr), (44, ⟨Unit, fun _ => (.tuple #[])⟩)], loopL [], joinL [], joinL [], joinRL []⟩ [(.pointer (some ⟨t, 0, none⟩)), (.iface t_p_ast_ScalarDefinition (.pointer (some ⟨v, 0, none⟩)))] H R (Eq.mp (by unfold systemScalarDefinition.W; kernel_rfl) h)

/-- impl.readPart -/
def readPart.W (step : ByteArray) (kind : Int) (text : ByteArray) (H : Heap) (R : Value → Heap → Prop) : Prop :=
  callW PP f_parser_ReadPart #[(.string step), (.string text)] H ⟨(Option Addr × Nat × Nat) × Int, fun x => (.tuple #[(.slice x.1.1 x.1.2.1 x.1.2.2), (.int .i64 x.2), .nilIface])⟩ fun (x1 : (Option Addr × Nat × Nat) × Int) H2 =>
  newB H2 (.cells #[(.slice none 0 0), (.slice none 0 0), (.bool false)] t_impl_taker) fun b3 H4 =>
  loopK (Int × Unit) (0, ()) H4 fun z5 H6 next7 =>
  forkB (decide (z5.1 < ((x1.1.2.1 : Nat) : Int)))
  ((IxOk x1.1.1 z5.1 x1.1.2.1) ∧
    loadW H6 false 1 ⟨(blkOf x1.1.1), (offOf x1.1.1 + z5.1.toNat * 1), none⟩ ⟨(Nat × Nat), fun x => (.iface x.1 (.pointer (some ⟨x.2, 0, none⟩)))⟩ fun (x8 : (Nat × Nat)) =>
    callW PP f_impl_taker_part #[(.pointer (some ⟨b3, 0, none⟩)), (.iface x8.1 (.pointer (some ⟨x8.2, 0, none⟩))), (.int .i64 kind)] H6 ⟨Unit, fun _ => (.tuple #[])⟩ fun (_ : Unit) H10 =>
    next7 ((IntKind.i64.wrap (z5.1 + 1)), ()) H10)
  (loadW H6 false 1 ⟨b3, 2, none⟩ pBool fun (x11 : Bool) =>
    forkB x11
    (retK (some [(.slice none 0 0), (.int .i64 0), (.bool false)]) H6 R)
    (loadW H6 false 1 ⟨b3, 0, none⟩ pSlc fun (x12 : (Option Addr × Nat × Nat)) =>
      retK (some [(.slice x12.1 x12.2.1 x12.2.2), (.int .i64 x1.2), (.bool true)]) H6 R))
theorem readPart.enter (step : ByteArray) (kind : Int) (text : ByteArray) (H : Heap) (R : Value → Heap → Prop) (h : readPart.W step kind text H R) : Fn PP f_impl_readPart #[(.string step), (.int .i64 kind), (.string text)] H R :=
  fun_sound mixed Tryz.func27 ⟨patL [(17, ⟨(Option Addr × Nat × Nat) × Int, fun x => (.tuple #[(.slice x.1.1 x.1.2.1 x.1.2.2), (.int .i64 x.2), .nilIface])⟩), (30, ⟨(Nat × Nat), fun x => (.iface x.1 (.pointer (some ⟨x.2, 0, none⟩)))⟩), (34, ⟨Unit, fun _ => (.tuple #[])⟩), (39, pBool), (43, pSlc)], loopL [(0, [Slot.int .i64 27])], joinL [], joinL [], joinRL []⟩ [(.string step), (.int .i64 kind), (.string text)] H R (Eq.mp (by unfold readPart.W; kernel_rfl) h)

end Go.Vx
