/- A part of the proof of what the last text of this claim says: WA3. Conditions: none. -/
import Derived.Test.YtndpjeldpdppmaaGreatDoorXAc
namespace Go.Vx
open Go Go.Proofs
set_option maxRecDepth 100000
/-- (*spec.writer).node -/
def wNode.W (w : Nat) (i : Int) (H : Heap) (R : Value → Heap → Prop) : Prop :=
  newB H (.cells #[(.pointer (some ⟨w, 0, none⟩))] t_p_spec_writer) fun b1 H2 =>
  newB H2 (.cells #[(.int .i64 i)] t_int) fun b3 H4 =>
  loadW H4 false 1 ⟨b1, 0, none⟩ pBlk fun (x5 : Nat) =>
  loadW H4 false 1 ⟨x5, 1, none⟩ pSlc fun (x6 : (Option Addr × Nat × Nat)) =>
  newB H4 (.cells #[(.int .i64 0)] t_int) fun b7 H8 =>
  storeW H8 ⟨b7, 0, none⟩ [(.int .i64 ((x6.2.1 : Nat) : Int))] fun H9 =>
  loadW H9 false 1 ⟨b1, 0, none⟩ pBlk fun (x10 : Nat) =>
  loadW H9 false 1 ⟨x10, 0, none⟩ pSlc fun (x11 : (Option Addr × Nat × Nat)) =>
  loadW H9 false 1 ⟨b3, 0, none⟩ (pInt .i64) fun (x12 : Int) =>
  (IxOk x11.1 x12 x11.2.1) ∧
  loadW H9 true 6 ⟨(blkOf x11.1), (offOf x11.1 + x12.toNat * 6), none⟩ ⟨Int × ByteArray × ByteArray × ByteArray × Int × Int, fun x => (.agg #[(.int .i64 x.1), (.string x.2.1), (.string x.2.2.1), (.string x.2.2.2.1), (.int .i64 x.2.2.2.2.1), (.int .i64 x.2.2.2.2.2)])⟩ fun (x13 : Int × ByteArray × ByteArray × ByteArray × Int × Int) =>
  newB H9 (.cells #[(.int .i64 0), (.string (bs [])), (.string (bs [])), (.string (bs [])), (.int .i64 0), (.int .i64 0)] t_impl_Node) fun b14 H15 =>
  loadC H15 true 6 ⟨(blkOf x11.1), (offOf x11.1 + x12.toNat * 6), none⟩ = some (.agg #[(.int .i64 x13.1), (.string x13.2.1), (.string x13.2.2.1), (.string x13.2.2.2.1), (.int .i64 x13.2.2.2.2.1), (.int .i64 x13.2.2.2.2.2)]) ∧
  loadC H15 false 1 ⟨b3, 0, none⟩ = some (.int .i64 x12) ∧
  loadC H15 false 1 ⟨x10, 0, none⟩ = some (.slice x11.1 x11.2.1 x11.2.2) ∧
  loadC H15 false 1 ⟨b1, 0, none⟩ = some (.pointer (some ⟨x10, 0, none⟩)) ∧
  storeW H15 ⟨b14, 0, none⟩ [(.int .i64 x13.1), (.string x13.2.1), (.string x13.2.2.1), (.string x13.2.2.2.1), (.int .i64 x13.2.2.2.2.1), (.int .i64 x13.2.2.2.2.2)] fun H16 =>
  loadW H16 false 1 ⟨b14, 0, none⟩ (pInt .i64) fun (x17 : Int) =>
  joinK (Unit) (fun J18 =>
  forkB (x17 == 1)
    (loadW H16 false 1 ⟨b1, 0, none⟩ pBlk fun (x21 : Nat) =>
      loadW H16 false 1 ⟨x21, 0, none⟩ pSlc fun (x22 : (Option Addr × Nat × Nat)) =>
      loadW H16 false 1 ⟨b3, 0, none⟩ (pInt .i64) fun (x23 : Int) =>
      callW PP f_spec_Kids #[(.slice x22.1 x22.2.1 x22.2.2), (.int .i64 x23)] H16 pSlc fun (x24 : (Option Addr × Nat × Nat)) H25 =>
      loopK (Int × Unit) (0, ()) H25 fun z26 H27 next28 =>
      forkB (decide (z26.1 < ((x24.2.1 : Nat) : Int)))
      (loadW H27 false 1 ⟨b1, 0, none⟩ pBlk fun (x29 : Nat) =>
        (IxOk x24.1 z26.1 x24.2.1) ∧
        loadW H27 false 1 ⟨(blkOf x24.1), (offOf x24.1 + z26.1.toNat * 1), none⟩ (pInt .i64) fun (x30 : Int) =>
        callW PP f_spec_writer_node #[(.pointer (some ⟨x29, 0, none⟩)), (.int .i64 x30)] H27 ⟨Unit, fun _ => (.tuple #[])⟩ fun (_ : Unit) H32 =>
        next28 ((IntKind.i64.wrap (z26.1 + 1)), ()) H32)
      (J18 (()) H27))
    (joinK (Unit) (fun J33 =>
      forkB (x17 == 2)
        (loadW H16 false 1 ⟨b14, 4, none⟩ (pInt .i64) fun (x36 : Int) =>
          joinK (Unit) (fun J37 =>
          forkB (x36 == 0)
            (loadW H16 false 1 ⟨b1, 0, none⟩ pBlk fun (x40 : Nat) =>
              loadW H16 false 1 ⟨b14, 3, none⟩ pStr fun (x41 : ByteArray) =>
              newB H16 (.cells #[(.string x41)] t_string) fun b42 H43 =>
              callW PP f_spec_writer_put #[(.pointer (some ⟨x40, 0, none⟩)), (.slice (some ⟨b42, 0, none⟩) 1 1)] H43 ⟨Unit, fun _ => (.tuple #[])⟩ fun (_ : Unit) H45 =>
              loadW H45 false 1 ⟨b14, 1, none⟩ pStr fun (x46 : ByteArray) =>
              joinK (Unit) (fun J47 =>
              forkB (!(x46.toList == (bs []).toList))
                (loadW H45 false 1 ⟨b1, 0, none⟩ pBlk fun (x50 : Nat) =>
                  loadW H45 false 1 ⟨b14, 1, none⟩ pStr fun (x51 : ByteArray) =>
                  newB H45 (.cells #[(.string x51)] t_string) fun b52 H53 =>
                  callW PP f_spec_writer_put #[(.pointer (some ⟨x50, 0, none⟩)), (.slice (some ⟨b52, 0, none⟩) 1 1)] H53 ⟨Unit, fun _ => (.tuple #[])⟩ fun (_ : Unit) H55 =>
                  J47 (()) H55)
                (J47 (()) H45)) fun y48 H49 =>
              J37 (()) H49)
            (J37 (()) H16)) fun y38 H39 =>
          loadW H39 false 1 ⟨b1, 0, none⟩ pBlk fun (x56 : Nat) =>
          loadW H39 false 1 ⟨b3, 0, none⟩ (pInt .i64) fun (x57 : Int) =>
          newB H39 (.cells #[(.int .i64 4)] t_int) fun b58 H59 =>
          callW PP f_spec_writer_kids #[(.pointer (some ⟨x56, 0, none⟩)), (.int .i64 x57), (.string (bs [40])), (.string (bs [41])), (.string (bs [])), (.slice (some ⟨b58, 0, none⟩) 1 1)] H59 ⟨Unit, fun _ => (.tuple #[])⟩ fun (_ : Unit) H61 =>
          loadW H61 false 1 ⟨b1, 0, none⟩ pBlk fun (x62 : Nat) =>
          loadW H61 false 1 ⟨b3, 0, none⟩ (pInt .i64) fun (x63 : Int) =>
          callW PP f_spec_writer_directives #[(.pointer (some ⟨x62, 0, none⟩)), (.int .i64 x63)] H61 ⟨Unit, fun _ => (.tuple #[])⟩ fun (_ : Unit) H65 =>
          loadW H65 false 1 ⟨b1, 0, none⟩ pBlk fun (x66 : Nat) =>
          loadW H65 false 1 ⟨b3, 0, none⟩ (pInt .i64) fun (x67 : Int) =>
          newB H65 (.cells #[(.int .i64 5)] t_int) fun b68 H69 =>
          callW PP f_spec_writer_kids #[(.pointer (some ⟨x66, 0, none⟩)), (.int .i64 x67), (.string (bs [])), (.string (bs [])), (.string (bs [])), (.slice (some ⟨b68, 0, none⟩) 1 1)] H69 ⟨Unit, fun _ => (.tuple #[])⟩ fun (_ : Unit) H71 =>
          J33 (()) H71)
        (joinK (Unit) (fun J72 =>
          forkB (x17 == 3)
            (loadW H16 false 1 ⟨b1, 0, none⟩ pBlk fun (x75 : Nat) =>
              loadW H16 false 1 ⟨b14, 1, none⟩ pStr fun (x76 : ByteArray) =>
              loadW H16 false 1 ⟨b14, 3, none⟩ pStr fun (x77 : ByteArray) =>
              newB H16 (.cells #[(.string (bs [102, 114, 97, 103, 109, 101, 110, 116])), (.string x76), (.string (bs [111, 110])), (.string x77)] t_string) fun b78 H79 =>
              callW PP f_spec_writer_put #[(.pointer (some ⟨x75, 0, none⟩)), (.slice (some ⟨b78, 0, none⟩) 4 4)] H79 ⟨Unit, fun _ => (.tuple #[])⟩ fun (_ : Unit) H81 =>
              loadW H81 false 1 ⟨b1, 0, none⟩ pBlk fun (x82 : Nat) =>
              loadW H81 false 1 ⟨b3, 0, none⟩ (pInt .i64) fun (x83 : Int) =>
              callW PP f_spec_writer_directives #[(.pointer (some ⟨x82, 0, none⟩)), (.int .i64 x83)] H81 ⟨Unit, fun _ => (.tuple #[])⟩ fun (_ : Unit) H85 =>
              loadW H85 false 1 ⟨b1, 0, none⟩ pBlk fun (x86 : Nat) =>
              loadW H85 false 1 ⟨b3, 0, none⟩ (pInt .i64) fun (x87 : Int) =>
              newB H85 (.cells #[(.int .i64 5)] t_int) fun b88 H89 =>
              callW PP f_spec_writer_kids #[(.pointer (some ⟨x86, 0, none⟩)), (.int .i64 x87), (.string (bs [])), (.string (bs [])), (.string (bs [])), (.slice (some ⟨b88, 0, none⟩) 1 1)] H89 ⟨Unit, fun _ => (.tuple #[])⟩ fun (_ : Unit) H91 =>
              J72 (()) H91)
            (joinK (Unit) (fun J92 =>
              forkB (x17 == 4)
                (loadW H16 false 1 ⟨b1, 0, none⟩ pBlk fun (x95 : Nat) =>
                  loadW H16 false 1 ⟨b14, 1, none⟩ pStr fun (x96 : ByteArray) =>
                  newB H16 (.cells #[(.string (bs [36])), (.string x96), (.string (bs [58]))] t_string) fun b97 H98 =>
                  callW PP f_spec_writer_put #[(.pointer (some ⟨x95, 0, none⟩)), (.slice (some ⟨b97, 0, none⟩) 3 3)] H98 ⟨Unit, fun _ => (.tuple #[])⟩ fun (_ : Unit) H100 =>
                  loadW H100 false 1 ⟨b1, 0, none⟩ pBlk fun (x101 : Nat) =>
                  loadW H100 false 1 ⟨b3, 0, none⟩ (pInt .i64) fun (x102 : Int) =>
                  callW PP f_spec_writer_first #[(.pointer (some ⟨x101, 0, none⟩)), (.int .i64 x102), (.string (bs [])), (.func (.func f_spec_isType) #[] #[])] H100 ⟨Unit, fun _ => (.tuple #[])⟩ fun (_ : Unit) H104 =>
                  loadW H104 false 1 ⟨b1, 0, none⟩ pBlk fun (x105 : Nat) =>
                  loadW H104 false 1 ⟨b3, 0, none⟩ (pInt .i64) fun (x106 : Int) =>
                  callW PP f_spec_writer_first #[(.pointer (some ⟨x105, 0, none⟩)), (.int .i64 x106), (.string (bs [61])), (.func (.func f_spec_isValue) #[] #[])] H104 ⟨Unit, fun _ => (.tuple #[])⟩ fun (_ : Unit) H108 =>
                  J92 (()) H108)
                (joinK (Unit) (fun J109 =>
                  forkB (x17 == 5)
                    (loadW H16 false 1 ⟨b1, 0, none⟩ pBlk fun (x112 : Nat) =>
                      loadW H16 false 1 ⟨b3, 0, none⟩ (pInt .i64) fun (x113 : Int) =>
                      newB H16 (.cells #[(.int .i64 6), (.int .i64 7), (.int .i64 8)] t_int) fun b114 H115 =>
                      callW PP f_spec_writer_kids #[(.pointer (some ⟨x112, 0, none⟩)), (.int .i64 x113), (.string (bs [123])), (.string (bs [125])), (.string (bs [])), (.slice (some ⟨b114, 0, none⟩) 3 3)] H115 ⟨Unit, fun _ => (.tuple #[])⟩ fun (_ : Unit) H117 =>
                      J109 (()) H117)
                    (joinK (Unit) (fun J118 =>
                      forkB (x17 == 6)
                        (loadW H16 false 1 ⟨b14, 2, none⟩ pStr fun (x121 : ByteArray) =>
                          joinK (Unit) (fun J122 =>
                          forkB (!(x121.toList == (bs []).toList))
                            (loadW H16 false 1 ⟨b1, 0, none⟩ pBlk fun (x125 : Nat) =>
                              loadW H16 false 1 ⟨b14, 2, none⟩ pStr fun (x126 : ByteArray) =>
                              newB H16 (.cells #[(.string x126), (.string (bs [58]))] t_string) fun b127 H128 =>
                              callW PP f_spec_writer_put #[(.pointer (some ⟨x125, 0, none⟩)), (.slice (some ⟨b127, 0, none⟩) 2 2)] H128 ⟨Unit, fun _ => (.tuple #[])⟩ fun (_ : Unit) H130 =>
                              J122 (()) H130)
                            (J122 (()) H16)) fun y123 H124 =>
                          loadW H124 false 1 ⟨b1, 0, none⟩ pBlk fun (x131 : Nat) =>
                          loadW H124 false 1 ⟨b14, 1, none⟩ pStr fun (x132 : ByteArray) =>
                          newB H124 (.cells #[(.string x132)] t_string) fun b133 H134 =>
                          callW PP f_spec_writer_put #[(.pointer (some ⟨x131, 0, none⟩)), (.slice (some ⟨b133, 0, none⟩) 1 1)] H134 ⟨Unit, fun _ => (.tuple #[])⟩ fun (_ : Unit) H136 =>
                          loadW H136 false 1 ⟨b1, 0, none⟩ pBlk fun (x137 : Nat) =>
                          loadW H136 false 1 ⟨b3, 0, none⟩ (pInt .i64) fun (x138 : Int) =>
                          newB H136 (.cells #[(.int .i64 9)] t_int) fun b139 H140 =>
                          callW PP f_spec_writer_kids #[(.pointer (some ⟨x137, 0, none⟩)), (.int .i64 x138), (.string (bs [40])), (.string (bs [41])), (.string (bs [])), (.slice (some ⟨b139, 0, none⟩) 1 1)] H140 ⟨Unit, fun _ => (.tuple #[])⟩ fun (_ : Unit) H142 =>
                          loadW H142 false 1 ⟨b1, 0, none⟩ pBlk fun (x143 : Nat) =>
                          loadW H142 false 1 ⟨b3, 0, none⟩ (pInt .i64) fun (x144 : Int) =>
                          callW PP f_spec_writer_directives #[(.pointer (some ⟨x143, 0, none⟩)), (.int .i64 x144)] H142 ⟨Unit, fun _ => (.tuple #[])⟩ fun (_ : Unit) H146 =>
                          loadW H146 false 1 ⟨b1, 0, none⟩ pBlk fun (x147 : Nat) =>
                          loadW H146 false 1 ⟨b3, 0, none⟩ (pInt .i64) fun (x148 : Int) =>
                          newB H146 (.cells #[(.int .i64 5)] t_int) fun b149 H150 =>
                          callW PP f_spec_writer_kids #[(.pointer (some ⟨x147, 0, none⟩)), (.int .i64 x148), (.string (bs [])), (.string (bs [])), (.string (bs [])), (.slice (some ⟨b149, 0, none⟩) 1 1)] H150 ⟨Unit, fun _ => (.tuple #[])⟩ fun (_ : Unit) H152 =>
                          J118 (()) H152)
                        (joinK (Unit) (fun J153 =>
                          forkB (x17 == 7)
                            (loadW H16 false 1 ⟨b1, 0, none⟩ pBlk fun (x156 : Nat) =>
                              loadW H16 false 1 ⟨b14, 1, none⟩ pStr fun (x157 : ByteArray) =>
                              newB H16 (.cells #[(.string (bs [46, 46, 46])), (.string x157)] t_string) fun b158 H159 =>
                              callW PP f_spec_writer_put #[(.pointer (some ⟨x156, 0, none⟩)), (.slice (some ⟨b158, 0, none⟩) 2 2)] H159 ⟨Unit, fun _ => (.tuple #[])⟩ fun (_ : Unit) H161 =>
                              loadW H161 false 1 ⟨b1, 0, none⟩ pBlk fun (x162 : Nat) =>
                              loadW H161 false 1 ⟨b3, 0, none⟩ (pInt .i64) fun (x163 : Int) =>
                              callW PP f_spec_writer_directives #[(.pointer (some ⟨x162, 0, none⟩)), (.int .i64 x163)] H161 ⟨Unit, fun _ => (.tuple #[])⟩ fun (_ : Unit) H165 =>
                              J153 (()) H165)
                            (joinK (Unit) (fun J166 =>
                              forkB (x17 == 8)
                                (loadW H16 false 1 ⟨b1, 0, none⟩ pBlk fun (x169 : Nat) =>
                                  newB H16 (.cells #[(.string (bs [46, 46, 46]))] t_string) fun b170 H171 =>
                                  callW PP f_spec_writer_put #[(.pointer (some ⟨x169, 0, none⟩)), (.slice (some ⟨b170, 0, none⟩) 1 1)] H171 ⟨Unit, fun _ => (.tuple #[])⟩ fun (_ : Unit) H173 =>
                                  loadW H173 false 1 ⟨b14, 3, none⟩ pStr fun (x174 : ByteArray) =>
                                  joinK (Unit) (fun J175 =>
                                  forkB (!(x174.toList == (bs []).toList))
                                    (loadW H173 false 1 ⟨b1, 0, none⟩ pBlk fun (x178 : Nat) =>
                                      loadW H173 false 1 ⟨b14, 3, none⟩ pStr fun (x179 : ByteArray) =>
                                      newB H173 (.cells #[(.string (bs [111, 110])), (.string x179)] t_string) fun b180 H181 =>
                                      callW PP f_spec_writer_put #[(.pointer (some ⟨x178, 0, none⟩)), (.slice (some ⟨b180, 0, none⟩) 2 2)] H181 ⟨Unit, fun _ => (.tuple #[])⟩ fun (_ : Unit) H183 =>
                                      J175 (()) H183)
                                    (J175 (()) H173)) fun y176 H177 =>
                                  loadW H177 false 1 ⟨b1, 0, none⟩ pBlk fun (x184 : Nat) =>
                                  loadW H177 false 1 ⟨b3, 0, none⟩ (pInt .i64) fun (x185 : Int) =>
                                  callW PP f_spec_writer_directives #[(.pointer (some ⟨x184, 0, none⟩)), (.int .i64 x185)] H177 ⟨Unit, fun _ => (.tuple #[])⟩ fun (_ : Unit) H187 =>
                                  loadW H187 false 1 ⟨b1, 0, none⟩ pBlk fun (x188 : Nat) =>
                                  loadW H187 false 1 ⟨b3, 0, none⟩ (pInt .i64) fun (x189 : Int) =>
                                  newB H187 (.cells #[(.int .i64 5)] t_int) fun b190 H191 =>
                                  callW PP f_spec_writer_kids #[(.pointer (some ⟨x188, 0, none⟩)), (.int .i64 x189), (.string (bs [])), (.string (bs [])), (.string (bs [])), (.slice (some ⟨b190, 0, none⟩) 1 1)] H191 ⟨Unit, fun _ => (.tuple #[])⟩ fun (_ : Unit) H193 =>
                                  J166 (()) H193)
                                (joinK (Bool × Unit) (fun J194 =>
                                  forkB (x17 == 9)
                                    (J194 (true, ()) H16)
                                    (J194 ((x17 == 19), ()) H16)) fun y195 H196 =>
                                  joinK (Bool × Unit) (fun J197 =>
                                  forkB y195.1
                                    (loadW H196 false 1 ⟨b1, 0, none⟩ pBlk fun (x200 : Nat) =>
                                      loadW H196 false 1 ⟨b14, 1, none⟩ pStr fun (x201 : ByteArray) =>
                                      newB H196 (.cells #[(.string x201), (.string (bs [58]))] t_string) fun b202 H203 =>
                                      callW PP f_spec_writer_put #[(.pointer (some ⟨x200, 0, none⟩)), (.slice (some ⟨b202, 0, none⟩) 2 2)] H203 ⟨Unit, fun _ => (.tuple #[])⟩ fun (_ : Unit) H205 =>
                                      loadW H205 false 1 ⟨b1, 0, none⟩ pBlk fun (x206 : Nat) =>
                                      loadW H205 false 1 ⟨b3, 0, none⟩ (pInt .i64) fun (x207 : Int) =>
                                      callW PP f_spec_writer_first #[(.pointer (some ⟨x206, 0, none⟩)), (.int .i64 x207), (.string (bs [])), (.func (.func f_spec_isValue) #[] #[])] H205 ⟨Unit, fun _ => (.tuple #[])⟩ fun (_ : Unit) H209 =>
                                      J197 (true, ()) H209)
                                    (joinK (Unit) (fun J210 =>
                                      forkB (x17 == 10)
                                        (loadW H196 false 1 ⟨b1, 0, none⟩ pBlk fun (x213 : Nat) =>
                                          loadW H196 false 1 ⟨b14, 1, none⟩ pStr fun (x214 : ByteArray) =>
                                          newB H196 (.cells #[(.string (bs [64])), (.string x214)] t_string) fun b215 H216 =>
                                          callW PP f_spec_writer_put #[(.pointer (some ⟨x213, 0, none⟩)), (.slice (some ⟨b215, 0, none⟩) 2 2)] H216 ⟨Unit, fun _ => (.tuple #[])⟩ fun (_ : Unit) H218 =>
                                          loadW H218 false 1 ⟨b1, 0, none⟩ pBlk fun (x219 : Nat) =>
                                          loadW H218 false 1 ⟨b3, 0, none⟩ (pInt .i64) fun (x220 : Int) =>
                                          newB H218 (.cells #[(.int .i64 9)] t_int) fun b221 H222 =>
                                          callW PP f_spec_writer_kids #[(.pointer (some ⟨x219, 0, none⟩)), (.int .i64 x220), (.string (bs [40])), (.string (bs [41])), (.string (bs [])), (.slice (some ⟨b221, 0, none⟩) 1 1)] H222 ⟨Unit, fun _ => (.tuple #[])⟩ fun (_ : Unit) H224 =>
                                          J210 (()) H224)
                                        (loadW H196 false 1 ⟨b1, 0, none⟩ pBlk fun (x225 : Nat) =>
                                          loadW H196 false 1 ⟨b3, 0, none⟩ (pInt .i64) fun (x226 : Int) =>
                                          callW PP f_spec_writer_rest #[(.pointer (some ⟨x225, 0, none⟩)), (.int .i64 x226)] H196 ⟨Unit, fun _ => (.tuple #[])⟩ fun (_ : Unit) H228 =>
                                          J210 (()) H228)) fun y211 H212 =>
                                      J197 (false, ()) H212)) fun y198 H199 =>
                                  J166 (()) H199)) fun y167 H168 =>
                              J153 (()) H168)) fun y154 H155 =>
                          J118 (()) H155)) fun y119 H120 =>
                      J109 (()) H120)) fun y110 H111 =>
                  J92 (()) H111)) fun y93 H94 =>
              J72 (()) H94)) fun y73 H74 =>
          J33 (()) H74)) fun y34 H35 =>
      J18 (()) H35)) fun y19 H20 =>
  FnC PP f_spec_writer_node_1 #[(.pointer (some ⟨b7, 0, none⟩)), (.pointer (some ⟨b1, 0, none⟩)), (.pointer (some ⟨b3, 0, none⟩))] H20 fun _ H229 =>
  retK (some []) H229 R
theorem wNode.enter (w : Nat) (i : Int) (H : Heap) (R : Value → Heap → Prop) (h : wNode.W w i H R) : Fn PP f_spec_writer_node #[(.pointer (some ⟨w, 0, none⟩)), (.int .i64 i)] H R :=
  funD_sound mixed Tryz.func29 ⟨patL [(8, pBlk), (11, pSlc), (14, pBlk), (17, pSlc), (18, (pInt .i64)), (20, ⟨Int × ByteArray × ByteArray × ByteArray × Int × Int, fun x => (.agg #[(.int .i64 x.1), (.string x.2.1), (.string x.2.2.1), (.string x.2.2.2.1), (.int .i64 x.2.2.2.2.1), (.int .i64 x.2.2.2.2.2)])⟩), (22, (pInt .i64)), (23, pBlk), (24, (pInt .i64)), (25, ⟨Unit, fun _ => (.tuple #[])⟩), (28, pBlk), (31, pSlc), (32, (pInt .i64)), (33, pSlc), (40, pBlk), (44, (pInt .i64)), (45, ⟨Unit, fun _ => (.tuple #[])⟩), (49, (pInt .i64)), (51, pBlk), (53, pStr), (55, ⟨Unit, fun _ => (.tuple #[])⟩), (57, pStr), (59, pBlk), (61, pStr), (63, ⟨Unit, fun _ => (.tuple #[])⟩), (64, pBlk), (65, (pInt .i64)), (67, ⟨Unit, fun _ => (.tuple #[])⟩), (68, pBlk), (69, (pInt .i64)), (70, ⟨Unit, fun _ => (.tuple #[])⟩), (71, pBlk), (72, (pInt .i64)), (74, ⟨Unit, fun _ => (.tuple #[])⟩), (77, pBlk), (79, pStr), (81, pStr), (83, ⟨Unit, fun _ => (.tuple #[])⟩), (84, pBlk), (85, (pInt .i64)), (86, ⟨Unit, fun _ => (.tuple #[])⟩), (87, pBlk), (88, (pInt .i64)), (90, ⟨Unit, fun _ => (.tuple #[])⟩), (93, pBlk), (95, pStr), (97, ⟨Unit, fun _ => (.tuple #[])⟩), (98, pBlk), (99, (pInt .i64)), (100, ⟨Unit, fun _ => (.tuple #[])⟩), (101, pBlk), (102, (pInt .i64)), (103, ⟨Unit, fun _ => (.tuple #[])⟩), (106, pBlk), (107, (pInt .i64)), (109, ⟨Unit, fun _ => (.tuple #[])⟩), (113, pStr), (115, pBlk), (117, pStr), (119, ⟨Unit, fun _ => (.tuple #[])⟩), (120, pBlk), (122, pStr), (124, ⟨Unit, fun _ => (.tuple #[])⟩), (125, pBlk), (126, (pInt .i64)), (128, ⟨Unit, fun _ => (.tuple #[])⟩), (129, pBlk), (130, (pInt .i64)), (131, ⟨Unit, fun _ => (.tuple #[])⟩), (132, pBlk), (133, (pInt .i64)), (135, ⟨Unit, fun _ => (.tuple #[])⟩), (138, pBlk), (140, pStr), (142, ⟨Unit, fun _ => (.tuple #[])⟩), (143, pBlk), (144, (pInt .i64)), (145, ⟨Unit, fun _ => (.tuple #[])⟩), (148, pBlk), (150, ⟨Unit, fun _ => (.tuple #[])⟩), (152, pStr), (154, pBlk), (156, pStr), (158, ⟨Unit, fun _ => (.tuple #[])⟩), (159, pBlk), (160, (pInt .i64)), (161, ⟨Unit, fun _ => (.tuple #[])⟩), (162, pBlk), (163, (pInt .i64)), (165, ⟨Unit, fun _ => (.tuple #[])⟩), (169, pBlk), (171, pStr), (173, ⟨Unit, fun _ => (.tuple #[])⟩), (174, pBlk), (175, (pInt .i64)), (176, ⟨Unit, fun _ => (.tuple #[])⟩), (179, pBlk), (181, pStr), (183, ⟨Unit, fun _ => (.tuple #[])⟩), (184, pBlk), (185, (pInt .i64)), (187, ⟨Unit, fun _ => (.tuple #[])⟩)], loopL [(1, [Slot.int .i64 7])], joinL [(26, []), (46, []), (50, []), (58, []), (75, []), (91, []), (104, []), (110, []), (114, []), (136, []), (146, []), (153, []), (166, [Slot.bool 166]), (177, [])], joinL [], joinRL []⟩ [(.pointer (some ⟨w, 0, none⟩)), (.int .i64 i)] H R (Eq.mp (by unfold wNode.W; kernel_rfl) h)

/-- (*spec.writer).node$1 -/
def wNodeEnd.W (fr : Nat) (wb : Nat) (ib : Nat) (H : Heap) (R : Value → Heap → Prop) : Prop :=
  loadW H false 1 ⟨wb, 0, none⟩ pBlk fun (x1 : Nat) =>
  loadW H false 1 ⟨x1, 2, none⟩ pMap fun (x2 : Nat) =>
  loadW H false 1 ⟨ib, 0, none⟩ (pInt .i64) fun (x3 : Int) =>
  loadW H false 1 ⟨fr, 0, none⟩ (pInt .i64) fun (x4 : Int) =>
  loadW H false 1 ⟨wb, 0, none⟩ pBlk fun (x5 : Nat) =>
  loadW H false 1 ⟨x5, 1, none⟩ pSlc fun (x6 : (Option Addr × Nat × Nat)) =>
  (IntKind.i64 = IntKind.i64) ∧
  mapSetW H x2 .i64 fun H7 =>
  retK (some []) H7 R
theorem wNodeEnd.enterC (fr : Nat) (wb : Nat) (ib : Nat) (H : Heap) (R : Value → Heap → Prop) (h : wNodeEnd.W fr wb ib H R) : FnC PP f_spec_writer_node_1 #[(.pointer (some ⟨fr, 0, none⟩)), (.pointer (some ⟨wb, 0, none⟩)), (.pointer (some ⟨ib, 0, none⟩))] H R :=
  funC_sound mixed Tryz.func37 ⟨patL [(3, pBlk), (6, pMap), (7, (pInt .i64)), (8, (pInt .i64)), (9, pBlk), (12, pSlc)], loopL [], joinL [], joinL [], joinRL []⟩ [(.pointer (some ⟨fr, 0, none⟩)), (.pointer (some ⟨wb, 0, none⟩)), (.pointer (some ⟨ib, 0, none⟩))] H R (Eq.mp (by unfold wNodeEnd.W; kernel_rfl) h)

/-- (*spec.writer).put -/
def wPut.W (w : Nat) (l lO lN lC : Nat) (H : Heap) (R : Value → Heap → Prop) : Prop :=
  loadW H false 1 ⟨w, 1, none⟩ pSlc fun (x1 : (Option Addr × Nat × Nat)) =>
  appK H t_string 1 16 x1.1 x1.2.1 x1.2.2 (some ⟨l, lO, none⟩) lN fun a2 c3 H4 =>
  storeW H4 ⟨w, 1, none⟩ [(.slice a2 (x1.2.1 + lN) c3)] fun H5 =>
  retK (some []) H5 R
theorem wPut.enter (w : Nat) (l lO lN lC : Nat) (H : Heap) (R : Value → Heap → Prop) (h : wPut.W w l lO lN lC H R) : Fn PP f_spec_writer_put #[(.pointer (some ⟨w, 0, none⟩)), (.slice (some ⟨l, lO, none⟩) lN lC)] H R :=
  fun_sound mixed Tryz.func39 ⟨patL [(8, pSlc)], loopL [], joinL [], joinL [], joinRL []⟩ [(.pointer (some ⟨w, 0, none⟩)), (.slice (some ⟨l, lO, none⟩) lN lC)] H R (Eq.mp (by unfold wPut.W; kernel_rfl) h)

/-- (*spec.writer).rest -/
def wRest.W (w : Nat) (i : Int) (H : Heap) (R : Value → Heap → Prop) : Prop :=
  loadW H false 1 ⟨w, 0, none⟩ pSlc fun (x1 : (Option Addr × Nat × Nat)) =>
  (IxOk x1.1 i x1.2.1) ∧
  loadW H true 6 ⟨(blkOf x1.1), (offOf x1.1 + i.toNat * 6), none⟩ ⟨Int × ByteArray × ByteArray × ByteArray × Int × Int, fun x => (.agg #[(.int .i64 x.1), (.string x.2.1), (.string x.2.2.1), (.string x.2.2.2.1), (.int .i64 x.2.2.2.2.1), (.int .i64 x.2.2.2.2.2)])⟩ fun (x2 : Int × ByteArray × ByteArray × ByteArray × Int × Int) =>
  newB H (.cells #[(.int .i64 0), (.string (bs [])), (.string (bs [])), (.string (bs [])), (.int .i64 0), (.int .i64 0)] t_impl_Node) fun b3 H4 =>
  storeW H4 ⟨b3, 0, none⟩ [(.int .i64 x2.1), (.string x2.2.1), (.string x2.2.2.1), (.string x2.2.2.2.1), (.int .i64 x2.2.2.2.2.1), (.int .i64 x2.2.2.2.2.2)] fun H5 =>
  loadW H5 false 1 ⟨b3, 0, none⟩ (pInt .i64) fun (x6 : Int) =>
  forkB (x6 == 11)
  (loadW H5 false 1 ⟨b3, 1, none⟩ pStr fun (x7 : ByteArray) =>
    newB H5 (.cells #[(.string (bs [36])), (.string x7)] t_string) fun b8 H9 =>
    callW PP f_spec_writer_put #[(.pointer (some ⟨w, 0, none⟩)), (.slice (some ⟨b8, 0, none⟩) 2 2)] H9 ⟨Unit, fun _ => (.tuple #[])⟩ fun (_ : Unit) H11 =>
    retK (some []) H11 R)
  (forkB (x6 == 12)
    (loadW H5 false 1 ⟨b3, 3, none⟩ pStr fun (x12 : ByteArray) =>
      newB H5 (.cells #[(.string x12)] t_string) fun b13 H14 =>
      callW PP f_spec_writer_put #[(.pointer (some ⟨w, 0, none⟩)), (.slice (some ⟨b13, 0, none⟩) 1 1)] H14 ⟨Unit, fun _ => (.tuple #[])⟩ fun (_ : Unit) H16 =>
      retK (some []) H16 R)
    (forkB (x6 == 13)
      (loadW H5 false 1 ⟨b3, 3, none⟩ pStr fun (x17 : ByteArray) =>
        newB H5 (.cells #[(.string x17)] t_string) fun b18 H19 =>
        callW PP f_spec_writer_put #[(.pointer (some ⟨w, 0, none⟩)), (.slice (some ⟨b18, 0, none⟩) 1 1)] H19 ⟨Unit, fun _ => (.tuple #[])⟩ fun (_ : Unit) H21 =>
        retK (some []) H21 R)
      (forkB (x6 == 14)
        (loadW H5 false 1 ⟨b3, 4, none⟩ (pInt .i64) fun (x22 : Int) =>
          forkB (x22 == 1)
          (loadW H5 false 1 ⟨b3, 3, none⟩ pStr fun (x23 : ByteArray) =>
            callW PP f_spec_Block #[(.string x23)] H5 pStr fun (x24 : ByteArray) H25 =>
            newB H25 (.cells #[(.string x24)] t_string) fun b26 H27 =>
            callW PP f_spec_writer_put #[(.pointer (some ⟨w, 0, none⟩)), (.slice (some ⟨b26, 0, none⟩) 1 1)] H27 ⟨Unit, fun _ => (.tuple #[])⟩ fun (_ : Unit) H29 =>
            retK (some []) H29 R)
          (loadW H5 false 1 ⟨b3, 3, none⟩ pStr fun (x30 : ByteArray) =>
            callW PP f_spec_Quote #[(.string x30)] H5 pStr fun (x31 : ByteArray) H32 =>
            newB H32 (.cells #[(.string x31)] t_string) fun b33 H34 =>
            callW PP f_spec_writer_put #[(.pointer (some ⟨w, 0, none⟩)), (.slice (some ⟨b33, 0, none⟩) 1 1)] H34 ⟨Unit, fun _ => (.tuple #[])⟩ fun (_ : Unit) H36 =>
            retK (some []) H36 R))
        (forkB (x6 == 23)
          (loadW H5 false 1 ⟨b3, 4, none⟩ (pInt .i64) fun (x37 : Int) =>
            forkB (x37 == 1)
            (loadW H5 false 1 ⟨b3, 3, none⟩ pStr fun (x38 : ByteArray) =>
              callW PP f_spec_Block #[(.string x38)] H5 pStr fun (x39 : ByteArray) H40 =>
              newB H40 (.cells #[(.string x39)] t_string) fun b41 H42 =>
              callW PP f_spec_writer_put #[(.pointer (some ⟨w, 0, none⟩)), (.slice (some ⟨b41, 0, none⟩) 1 1)] H42 ⟨Unit, fun _ => (.tuple #[])⟩ fun (_ : Unit) H44 =>
              retK (some []) H44 R)
            (loadW H5 false 1 ⟨b3, 3, none⟩ pStr fun (x45 : ByteArray) =>
              callW PP f_spec_Quote #[(.string x45)] H5 pStr fun (x46 : ByteArray) H47 =>
              newB H47 (.cells #[(.string x46)] t_string) fun b48 H49 =>
              callW PP f_spec_writer_put #[(.pointer (some ⟨w, 0, none⟩)), (.slice (some ⟨b48, 0, none⟩) 1 1)] H49 ⟨Unit, fun _ => (.tuple #[])⟩ fun (_ : Unit) H51 =>
              retK (some []) H51 R))
          (forkB (x6 == 15)
            (newB H5 (.cells #[(.string (bs [102, 97, 108, 115, 101])), (.string (bs [116, 114, 117, 101]))] t_string) fun b52 H53 =>
              loadW H53 false 1 ⟨b3, 4, none⟩ (pInt .i64) fun (x54 : Int) =>
              (IxOk (some ⟨b52, 0, none⟩) x54 2) ∧
              loadW H53 false 1 ⟨b52, (0 + x54.toNat * 1), none⟩ pStr fun (x55 : ByteArray) =>
              newB H53 (.cells #[(.string x55)] t_string) fun b56 H57 =>
              callW PP f_spec_writer_put #[(.pointer (some ⟨w, 0, none⟩)), (.slice (some ⟨b56, 0, none⟩) 1 1)] H57 ⟨Unit, fun _ => (.tuple #[])⟩ fun (_ : Unit) H59 =>
              retK (some []) H59 R)
            (forkB (x6 == 17)
              (newB H5 (.cells #[(.string (bs [91])), (.string (bs [93]))] t_string) fun b60 H61 =>
                loadW H61 false 1 ⟨b3, 0, none⟩ (pInt .i64) fun (x62 : Int) =>
                forkB (x62 == 18)
                (newB H61 (.cells #[(.string (bs [123])), (.string (bs [125]))] t_string) fun b63 H64 =>
                  (IxOk (some ⟨b63, 0, none⟩) 0 2) ∧
                  loadW H64 false 1 ⟨b63, (0 + (0 : Int).toNat * 1), none⟩ pStr fun (x65 : ByteArray) =>
                  newB H64 (.cells #[(.string x65)] t_string) fun b66 H67 =>
                  callW PP f_spec_writer_put #[(.pointer (some ⟨w, 0, none⟩)), (.slice (some ⟨b66, 0, none⟩) 1 1)] H67 ⟨Unit, fun _ => (.tuple #[])⟩ fun (_ : Unit) H69 =>
                  loadW H69 false 1 ⟨w, 0, none⟩ pSlc fun (x70 : (Option Addr × Nat × Nat)) =>
                  callW PP f_spec_Kids #[(.slice x70.1 x70.2.1 x70.2.2), (.int .i64 i)] H69 pSlc fun (x71 : (Option Addr × Nat × Nat)) H72 =>
                  loopK (Int × Unit) (0, ()) H72 fun z73 H74 next75 =>
                  forkB (decide (z73.1 < ((x71.2.1 : Nat) : Int)))
                  ((IxOk x71.1 z73.1 x71.2.1) ∧
                    loadW H74 false 1 ⟨(blkOf x71.1), (offOf x71.1 + z73.1.toNat * 1), none⟩ (pInt .i64) fun (x76 : Int) =>
                    callW PP f_spec_writer_node #[(.pointer (some ⟨w, 0, none⟩)), (.int .i64 x76)] H74 ⟨Unit, fun _ => (.tuple #[])⟩ fun (_ : Unit) H78 =>
                    next75 ((IntKind.i64.wrap (z73.1 + 1)), ()) H78)
                  ((IxOk (some ⟨b63, 0, none⟩) 1 2) ∧
                    loadW H74 false 1 ⟨b63, (0 + (1 : Int).toNat * 1), none⟩ pStr fun (x79 : ByteArray) =>
                    newB H74 (.cells #[(.string x79)] t_string) fun b80 H81 =>
                    callW PP f_spec_writer_put #[(.pointer (some ⟨w, 0, none⟩)), (.slice (some ⟨b80, 0, none⟩) 1 1)] H81 ⟨Unit, fun _ => (.tuple #[])⟩ fun (_ : Unit) H83 =>
                    retK (some []) H83 R))
                ((IxOk (some ⟨b60, 0, none⟩) 0 2) ∧
                  loadW H61 false 1 ⟨b60, (0 + (0 : Int).toNat * 1), none⟩ pStr fun (x84 : ByteArray) =>
                  newB H61 (.cells #[(.string x84)] t_string) fun b85 H86 =>
                  callW PP f_spec_writer_put #[(.pointer (some ⟨w, 0, none⟩)), (.slice (some ⟨b85, 0, none⟩) 1 1)] H86 ⟨Unit, fun _ => (.tuple #[])⟩ fun (_ : Unit) H88 =>
                  loadW H88 false 1 ⟨w, 0, none⟩ pSlc fun (x89 : (Option Addr × Nat × Nat)) =>
                  callW PP f_spec_Kids #[(.slice x89.1 x89.2.1 x89.2.2), (.int .i64 i)] H88 pSlc fun (x90 : (Option Addr × Nat × Nat)) H91 =>
                  loopK (Int × Unit) (0, ()) H91 fun z92 H93 next94 =>
                  forkB (decide (z92.1 < ((x90.2.1 : Nat) : Int)))
                  ((IxOk x90.1 z92.1 x90.2.1) ∧
                    loadW H93 false 1 ⟨(blkOf x90.1), (offOf x90.1 + z92.1.toNat * 1), none⟩ (pInt .i64) fun (x95 : Int) =>
                    callW PP f_spec_writer_node #[(.pointer (some ⟨w, 0, none⟩)), (.int .i64 x95)] H93 ⟨Unit, fun _ => (.tuple #[])⟩ fun (_ : Unit) H97 =>
                    next94 ((IntKind.i64.wrap (z92.1 + 1)), ()) H97)
                  ((IxOk (some ⟨b60, 0, none⟩) 1 2) ∧
                    loadW H93 false 1 ⟨b60, (0 + (1 : Int).toNat * 1), none⟩ pStr fun (x98 : ByteArray) =>
                    newB H93 (.cells #[(.string x98)] t_string) fun b99 H100 =>
                    callW PP f_spec_writer_put #[(.pointer (some ⟨w, 0, none⟩)), (.slice (some ⟨b99, 0, none⟩) 1 1)] H100 ⟨Unit, fun _ => (.tuple #[])⟩ fun (_ : Unit) H102 =>
                    retK (some []) H102 R)))
              (forkB (x6 == 18)
                (newB H5 (.cells #[(.string (bs [91])), (.string (bs [93]))] t_string) fun b103 H104 =>
                  loadW H104 false 1 ⟨b3, 0, none⟩ (pInt .i64) fun (x105 : Int) =>
                  forkB (x105 == 18)
                  (newB H104 (.cells #[(.string (bs [123])), (.string (bs [125]))] t_string) fun b106 H107 =>
                    (IxOk (some ⟨b106, 0, none⟩) 0 2) ∧
                    loadW H107 false 1 ⟨b106, (0 + (0 : Int).toNat * 1), none⟩ pStr fun (x108 : ByteArray) =>
                    newB H107 (.cells #[(.string x108)] t_string) fun b109 H110 =>
                    callW PP f_spec_writer_put #[(.pointer (some ⟨w, 0, none⟩)), (.slice (some ⟨b109, 0, none⟩) 1 1)] H110 ⟨Unit, fun _ => (.tuple #[])⟩ fun (_ : Unit) H112 =>
                    loadW H112 false 1 ⟨w, 0, none⟩ pSlc fun (x113 : (Option Addr × Nat × Nat)) =>
                    callW PP f_spec_Kids #[(.slice x113.1 x113.2.1 x113.2.2), (.int .i64 i)] H112 pSlc fun (x114 : (Option Addr × Nat × Nat)) H115 =>
                    loopK (Int × Unit) (0, ()) H115 fun z116 H117 next118 =>
                    forkB (decide (z116.1 < ((x114.2.1 : Nat) : Int)))
                    ((IxOk x114.1 z116.1 x114.2.1) ∧
                      loadW H117 false 1 ⟨(blkOf x114.1), (offOf x114.1 + z116.1.toNat * 1), none⟩ (pInt .i64) fun (x119 : Int) =>
                      callW PP f_spec_writer_node #[(.pointer (some ⟨w, 0, none⟩)), (.int .i64 x119)] H117 ⟨Unit, fun _ => (.tuple #[])⟩ fun (_ : Unit) H121 =>
                      next118 ((IntKind.i64.wrap (z116.1 + 1)), ()) H121)
                    ((IxOk (some ⟨b106, 0, none⟩) 1 2) ∧
                      loadW H117 false 1 ⟨b106, (0 + (1 : Int).toNat * 1), none⟩ pStr fun (x122 : ByteArray) =>
                      newB H117 (.cells #[(.string x122)] t_string) fun b123 H124 =>
                      callW PP f_spec_writer_put #[(.pointer (some ⟨w, 0, none⟩)), (.slice (some ⟨b123, 0, none⟩) 1 1)] H124 ⟨Unit, fun _ => (.tuple #[])⟩ fun (_ : Unit) H126 =>
                      retK (some []) H126 R))
                  ((IxOk (some ⟨b103, 0, none⟩) 0 2) ∧
                    loadW H104 false 1 ⟨b103, (0 + (0 : Int).toNat * 1), none⟩ pStr fun (x127 : ByteArray) =>
                    newB H104 (.cells #[(.string x127)] t_string) fun b128 H129 =>
                    callW PP f_spec_writer_put #[(.pointer (some ⟨w, 0, none⟩)), (.slice (some ⟨b128, 0, none⟩) 1 1)] H129 ⟨Unit, fun _ => (.tuple #[])⟩ fun (_ : Unit) H131 =>
                    loadW H131 false 1 ⟨w, 0, none⟩ pSlc fun (x132 : (Option Addr × Nat × Nat)) =>
                    callW PP f_spec_Kids #[(.slice x132.1 x132.2.1 x132.2.2), (.int .i64 i)] H131 pSlc fun (x133 : (Option Addr × Nat × Nat)) H134 =>
                    loopK (Int × Unit) (0, ()) H134 fun z135 H136 next137 =>
                    forkB (decide (z135.1 < ((x133.2.1 : Nat) : Int)))
                    ((IxOk x133.1 z135.1 x133.2.1) ∧
                      loadW H136 false 1 ⟨(blkOf x133.1), (offOf x133.1 + z135.1.toNat * 1), none⟩ (pInt .i64) fun (x138 : Int) =>
                      callW PP f_spec_writer_node #[(.pointer (some ⟨w, 0, none⟩)), (.int .i64 x138)] H136 ⟨Unit, fun _ => (.tuple #[])⟩ fun (_ : Unit) H140 =>
                      next137 ((IntKind.i64.wrap (z135.1 + 1)), ()) H140)
                    ((IxOk (some ⟨b103, 0, none⟩) 1 2) ∧
                      loadW H136 false 1 ⟨b103, (0 + (1 : Int).toNat * 1), none⟩ pStr fun (x141 : ByteArray) =>
                      newB H136 (.cells #[(.string x141)] t_string) fun b142 H143 =>
                      callW PP f_spec_writer_put #[(.pointer (some ⟨w, 0, none⟩)), (.slice (some ⟨b142, 0, none⟩) 1 1)] H143 ⟨Unit, fun _ => (.tuple #[])⟩ fun (_ : Unit) H145 =>
                      retK (some []) H145 R)))
                (forkB (x6 == 21)
                  (newB H5 (.cells #[(.string (bs [91]))] t_string) fun b146 H147 =>
                    callW PP f_spec_writer_put #[(.pointer (some ⟨w, 0, none⟩)), (.slice (some ⟨b146, 0, none⟩) 1 1)] H147 ⟨Unit, fun _ => (.tuple #[])⟩ fun (_ : Unit) H149 =>
                    callW PP f_spec_writer_node #[(.pointer (some ⟨w, 0, none⟩)), (.int .i64 (IntKind.i64.wrap (i + 1)))] H149 ⟨Unit, fun _ => (.tuple #[])⟩ fun (_ : Unit) H151 =>
                    newB H151 (.cells #[(.string (bs [93]))] t_string) fun b152 H153 =>
                    callW PP f_spec_writer_put #[(.pointer (some ⟨w, 0, none⟩)), (.slice (some ⟨b152, 0, none⟩) 1 1)] H153 ⟨Unit, fun _ => (.tuple #[])⟩ fun (_ : Unit) H155 =>
                    retK (some []) H155 R)
                  (forkB (x6 == 22)
                    (callW PP f_spec_writer_node #[(.pointer (some ⟨w, 0, none⟩)), (.int .i64 (IntKind.i64.wrap (i + 1)))] H5 ⟨Unit, fun _ => (.tuple #[])⟩ fun (_ : Unit) H157 =>
                      newB H157 (.cells #[(.string (bs [33]))] t_string) fun b158 H159 =>
                      callW PP f_spec_writer_put #[(.pointer (some ⟨w, 0, none⟩)), (.slice (some ⟨b158, 0, none⟩) 1 1)] H159 ⟨Unit, fun _ => (.tuple #[])⟩ fun (_ : Unit) H161 =>
                      retK (some []) H161 R)
                    (forkB (x6 == 16)
                      (loadW H5 false 1 ⟨b3, 1, none⟩ pStr fun (x162 : ByteArray) =>
                        newB H5 (.cells #[(.string x162)] t_string) fun b163 H164 =>
                        callW PP f_spec_writer_put #[(.pointer (some ⟨w, 0, none⟩)), (.slice (some ⟨b163, 0, none⟩) 1 1)] H164 ⟨Unit, fun _ => (.tuple #[])⟩ fun (_ : Unit) H166 =>
                        retK (some []) H166 R)
                      (forkB (x6 == 20)
                        (loadW H5 false 1 ⟨b3, 1, none⟩ pStr fun (x167 : ByteArray) =>
                          newB H5 (.cells #[(.string x167)] t_string) fun b168 H169 =>
                          callW PP f_spec_writer_put #[(.pointer (some ⟨w, 0, none⟩)), (.slice (some ⟨b168, 0, none⟩) 1 1)] H169 ⟨Unit, fun _ => (.tuple #[])⟩ fun (_ : Unit) H171 =>
                          retK (some []) H171 R)
                        (forkB (x6 == 28)
                          (loadW H5 false 1 ⟨b3, 1, none⟩ pStr fun (x172 : ByteArray) =>
                            newB H5 (.cells #[(.string x172)] t_string) fun b173 H174 =>
                            callW PP f_spec_writer_put #[(.pointer (some ⟨w, 0, none⟩)), (.slice (some ⟨b173, 0, none⟩) 1 1)] H174 ⟨Unit, fun _ => (.tuple #[])⟩ fun (_ : Unit) H176 =>
                            retK (some []) H176 R)
                          (forkB (x6 == 33)
                            (loadW H5 false 1 ⟨b3, 1, none⟩ pStr fun (x177 : ByteArray) =>
                              newB H5 (.cells #[(.string x177)] t_string) fun b178 H179 =>
                              callW PP f_spec_writer_put #[(.pointer (some ⟨w, 0, none⟩)), (.slice (some ⟨b178, 0, none⟩) 1 1)] H179 ⟨Unit, fun _ => (.tuple #[])⟩ fun (_ : Unit) H181 =>
                              retK (some []) H181 R)
                            (forkB (x6 == 38)
                              (loadW H5 false 1 ⟨b3, 1, none⟩ pStr fun (x182 : ByteArray) =>
                                newB H5 (.cells #[(.string x182)] t_string) fun b183 H184 =>
                                callW PP f_spec_writer_put #[(.pointer (some ⟨w, 0, none⟩)), (.slice (some ⟨b183, 0, none⟩) 1 1)] H184 ⟨Unit, fun _ => (.tuple #[])⟩ fun (_ : Unit) H186 =>
                                retK (some []) H186 R)
                              (callW PP f_spec_writer_definition #[(.pointer (some ⟨w, 0, none⟩)), (.int .i64 i)] H5 ⟨Unit, fun _ => (.tuple #[])⟩ fun (_ : Unit) H188 =>
                                retK (some []) H188 R)))))))))))))))
theorem wRest.enter (w : Nat) (i : Int) (H : Heap) (R : Value → Heap → Prop) (h : wRest.W w i H R) : Fn PP f_spec_writer_rest #[(.pointer (some ⟨w, 0, none⟩)), (.int .i64 i)] H R :=
  fun_sound mixed Tryz.func45 ⟨patL [(11, pSlc), (14, ⟨Int × ByteArray × ByteArray × ByteArray × Int × Int, fun x => (.agg #[(.int .i64 x.1), (.string x.2.1), (.string x.2.2.1), (.string x.2.2.2.1), (.int .i64 x.2.2.2.2.1), (.int .i64 x.2.2.2.2.2)])⟩), (16, (pInt .i64)), (19, ⟨Unit, fun _ => (.tuple #[])⟩), (24, pStr), (26, ⟨Unit, fun _ => (.tuple #[])⟩), (32, pStr), (34, ⟨Unit, fun _ => (.tuple #[])⟩), (39, (pInt .i64)), (43, pStr), (44, pStr), (46, ⟨Unit, fun _ => (.tuple #[])⟩), (49, pStr), (50, pStr), (52, ⟨Unit, fun _ => (.tuple #[])⟩), (58, (pInt .i64)), (60, pStr), (62, ⟨Unit, fun _ => (.tuple #[])⟩), (68, (pInt .i64)), (74, pStr), (76, ⟨Unit, fun _ => (.tuple #[])⟩), (80, pSlc), (82, pSlc), (93, (pInt .i64)), (94, ⟨Unit, fun _ => (.tuple #[])⟩), (98, pStr), (100, ⟨Unit, fun _ => (.tuple #[])⟩), (105, ⟨Unit, fun _ => (.tuple #[])⟩), (109, ⟨Unit, fun _ => (.tuple #[])⟩), (112, ⟨Unit, fun _ => (.tuple #[])⟩), (118, ⟨Unit, fun _ => (.tuple #[])⟩), (121, ⟨Unit, fun _ => (.tuple #[])⟩), (130, pStr), (132, ⟨Unit, fun _ => (.tuple #[])⟩)], loopL [(1, [Slot.int .i64 7])], joinL [], joinL [], joinRL []⟩ [(.pointer (some ⟨w, 0, none⟩)), (.int .i64 i)] H R (Eq.mp (by unfold wRest.W; kernel_rfl) h)

/-- (*spec.writer).definition -/
def wDefinition.W (w : Nat) (i : Int) (H : Heap) (R : Value → Heap → Prop) : Prop :=
  loadW H false 1 ⟨w, 0, none⟩ pSlc fun (x1 : (Option Addr × Nat × Nat)) =>
  (IxOk x1.1 i x1.2.1) ∧
  loadW H true 6 ⟨(blkOf x1.1), (offOf x1.1 + i.toNat * 6), none⟩ ⟨Int × ByteArray × ByteArray × ByteArray × Int × Int, fun x => (.agg #[(.int .i64 x.1), (.string x.2.1), (.string x.2.2.1), (.string x.2.2.2.1), (.int .i64 x.2.2.2.2.1), (.int .i64 x.2.2.2.2.2)])⟩ fun (x2 : Int × ByteArray × ByteArray × ByteArray × Int × Int) =>
  newB H (.cells #[(.int .i64 0), (.string (bs [])), (.string (bs [])), (.string (bs [])), (.int .i64 0), (.int .i64 0)] t_impl_Node) fun b3 H4 =>
  storeW H4 ⟨b3, 0, none⟩ [(.int .i64 x2.1), (.string x2.2.1), (.string x2.2.2.1), (.string x2.2.2.2.1), (.int .i64 x2.2.2.2.2.1), (.int .i64 x2.2.2.2.2.2)] fun H5 =>
  callW PP f_spec_writer_about #[(.pointer (some ⟨w, 0, none⟩)), (.int .i64 i)] H5 ⟨Unit, fun _ => (.tuple #[])⟩ fun (_ : Unit) H7 =>
  loadW H7 false 1 ⟨b3, 0, none⟩ (pInt .i64) fun (x8 : Int) =>
  forkB (x8 == 24)
  (newB H7 (.cells #[(.string (bs [115, 99, 104, 101, 109, 97]))] t_string) fun b9 H10 =>
    callW PP f_spec_writer_put #[(.pointer (some ⟨w, 0, none⟩)), (.slice (some ⟨b9, 0, none⟩) 1 1)] H10 ⟨Unit, fun _ => (.tuple #[])⟩ fun (_ : Unit) H12 =>
    callW PP f_spec_writer_directives #[(.pointer (some ⟨w, 0, none⟩)), (.int .i64 i)] H12 ⟨Unit, fun _ => (.tuple #[])⟩ fun (_ : Unit) H14 =>
    newB H14 (.cells #[(.int .i64 25)] t_int) fun b15 H16 =>
    callW PP f_spec_writer_kids #[(.pointer (some ⟨w, 0, none⟩)), (.int .i64 i), (.string (bs [123])), (.string (bs [125])), (.string (bs [])), (.slice (some ⟨b15, 0, none⟩) 1 1)] H16 ⟨Unit, fun _ => (.tuple #[])⟩ fun (_ : Unit) H18 =>
    retK (some []) H18 R)
  (forkB (x8 == 25)
    (loadW H7 false 1 ⟨b3, 3, none⟩ pStr fun (x19 : ByteArray) =>
      loadW H7 false 1 ⟨b3, 1, none⟩ pStr fun (x20 : ByteArray) =>
      newB H7 (.cells #[(.string x19), (.string (bs [58])), (.string x20)] t_string) fun b21 H22 =>
      callW PP f_spec_writer_put #[(.pointer (some ⟨w, 0, none⟩)), (.slice (some ⟨b21, 0, none⟩) 3 3)] H22 ⟨Unit, fun _ => (.tuple #[])⟩ fun (_ : Unit) H24 =>
      retK (some []) H24 R)
    (forkB (x8 == 26)
      (loadW H7 false 1 ⟨b3, 1, none⟩ pStr fun (x25 : ByteArray) =>
        newB H7 (.cells #[(.string (bs [115, 99, 97, 108, 97, 114])), (.string x25)] t_string) fun b26 H27 =>
        callW PP f_spec_writer_put #[(.pointer (some ⟨w, 0, none⟩)), (.slice (some ⟨b26, 0, none⟩) 2 2)] H27 ⟨Unit, fun _ => (.tuple #[])⟩ fun (_ : Unit) H29 =>
        callW PP f_spec_writer_directives #[(.pointer (some ⟨w, 0, none⟩)), (.int .i64 i)] H29 ⟨Unit, fun _ => (.tuple #[])⟩ fun (_ : Unit) H31 =>
        retK (some []) H31 R)
      (forkB (x8 == 27)
        (loadW H7 false 1 ⟨b3, 1, none⟩ pStr fun (x32 : ByteArray) =>
          newB H7 (.cells #[(.string (bs [116, 121, 112, 101])), (.string x32)] t_string) fun b33 H34 =>
          callW PP f_spec_writer_put #[(.pointer (some ⟨w, 0, none⟩)), (.slice (some ⟨b33, 0, none⟩) 2 2)] H34 ⟨Unit, fun _ => (.tuple #[])⟩ fun (_ : Unit) H36 =>
          newB H36 (.cells #[(.int .i64 28)] t_int) fun b37 H38 =>
          callW PP f_spec_writer_kids #[(.pointer (some ⟨w, 0, none⟩)), (.int .i64 i), (.string (bs [105, 109, 112, 108, 101, 109, 101, 110, 116, 115])), (.string (bs [])), (.string (bs [38])), (.slice (some ⟨b37, 0, none⟩) 1 1)] H38 ⟨Unit, fun _ => (.tuple #[])⟩ fun (_ : Unit) H40 =>
          callW PP f_spec_writer_directives #[(.pointer (some ⟨w, 0, none⟩)), (.int .i64 i)] H40 ⟨Unit, fun _ => (.tuple #[])⟩ fun (_ : Unit) H42 =>
          newB H42 (.cells #[(.int .i64 29)] t_int) fun b43 H44 =>
          callW PP f_spec_writer_kids #[(.pointer (some ⟨w, 0, none⟩)), (.int .i64 i), (.string (bs [123])), (.string (bs [125])), (.string (bs [])), (.slice (some ⟨b43, 0, none⟩) 1 1)] H44 ⟨Unit, fun _ => (.tuple #[])⟩ fun (_ : Unit) H46 =>
          retK (some []) H46 R)
        (forkB (x8 == 31)
          (loadW H7 false 1 ⟨b3, 1, none⟩ pStr fun (x47 : ByteArray) =>
            newB H7 (.cells #[(.string (bs [105, 110, 116, 101, 114, 102, 97, 99, 101])), (.string x47)] t_string) fun b48 H49 =>
            callW PP f_spec_writer_put #[(.pointer (some ⟨w, 0, none⟩)), (.slice (some ⟨b48, 0, none⟩) 2 2)] H49 ⟨Unit, fun _ => (.tuple #[])⟩ fun (_ : Unit) H51 =>
            callW PP f_spec_writer_directives #[(.pointer (some ⟨w, 0, none⟩)), (.int .i64 i)] H51 ⟨Unit, fun _ => (.tuple #[])⟩ fun (_ : Unit) H53 =>
            newB H53 (.cells #[(.int .i64 29)] t_int) fun b54 H55 =>
            callW PP f_spec_writer_kids #[(.pointer (some ⟨w, 0, none⟩)), (.int .i64 i), (.string (bs [123])), (.string (bs [125])), (.string (bs [])), (.slice (some ⟨b54, 0, none⟩) 1 1)] H55 ⟨Unit, fun _ => (.tuple #[])⟩ fun (_ : Unit) H57 =>
            retK (some []) H57 R)
          (forkB (x8 == 29)
            (loadW H7 false 1 ⟨b3, 1, none⟩ pStr fun (x58 : ByteArray) =>
              newB H7 (.cells #[(.string x58)] t_string) fun b59 H60 =>
              callW PP f_spec_writer_put #[(.pointer (some ⟨w, 0, none⟩)), (.slice (some ⟨b59, 0, none⟩) 1 1)] H60 ⟨Unit, fun _ => (.tuple #[])⟩ fun (_ : Unit) H62 =>
              newB H62 (.cells #[(.int .i64 30)] t_int) fun b63 H64 =>
              callW PP f_spec_writer_kids #[(.pointer (some ⟨w, 0, none⟩)), (.int .i64 i), (.string (bs [40])), (.string (bs [41])), (.string (bs [])), (.slice (some ⟨b63, 0, none⟩) 1 1)] H64 ⟨Unit, fun _ => (.tuple #[])⟩ fun (_ : Unit) H66 =>
              callW PP f_spec_writer_first #[(.pointer (some ⟨w, 0, none⟩)), (.int .i64 i), (.string (bs [58])), (.func (.func f_spec_isType) #[] #[])] H66 ⟨Unit, fun _ => (.tuple #[])⟩ fun (_ : Unit) H68 =>
              callW PP f_spec_writer_directives #[(.pointer (some ⟨w, 0, none⟩)), (.int .i64 i)] H68 ⟨Unit, fun _ => (.tuple #[])⟩ fun (_ : Unit) H70 =>
              retK (some []) H70 R)
            (forkB (x8 == 30)
              (loadW H7 false 1 ⟨b3, 1, none⟩ pStr fun (x71 : ByteArray) =>
                newB H7 (.cells #[(.string x71)] t_string) fun b72 H73 =>
                callW PP f_spec_writer_put #[(.pointer (some ⟨w, 0, none⟩)), (.slice (some ⟨b72, 0, none⟩) 1 1)] H73 ⟨Unit, fun _ => (.tuple #[])⟩ fun (_ : Unit) H75 =>
                callW PP f_spec_writer_first #[(.pointer (some ⟨w, 0, none⟩)), (.int .i64 i), (.string (bs [58])), (.func (.func f_spec_isType) #[] #[])] H75 ⟨Unit, fun _ => (.tuple #[])⟩ fun (_ : Unit) H77 =>
                callW PP f_spec_writer_first #[(.pointer (some ⟨w, 0, none⟩)), (.int .i64 i), (.string (bs [61])), (.func (.func f_spec_isValue) #[] #[])] H77 ⟨Unit, fun _ => (.tuple #[])⟩ fun (_ : Unit) H79 =>
                callW PP f_spec_writer_directives #[(.pointer (some ⟨w, 0, none⟩)), (.int .i64 i)] H79 ⟨Unit, fun _ => (.tuple #[])⟩ fun (_ : Unit) H81 =>
                retK (some []) H81 R)
              (forkB (x8 == 32)
                (loadW H7 false 1 ⟨b3, 1, none⟩ pStr fun (x82 : ByteArray) =>
                  newB H7 (.cells #[(.string (bs [117, 110, 105, 111, 110])), (.string x82)] t_string) fun b83 H84 =>
                  callW PP f_spec_writer_put #[(.pointer (some ⟨w, 0, none⟩)), (.slice (some ⟨b83, 0, none⟩) 2 2)] H84 ⟨Unit, fun _ => (.tuple #[])⟩ fun (_ : Unit) H86 =>
                  callW PP f_spec_writer_directives #[(.pointer (some ⟨w, 0, none⟩)), (.int .i64 i)] H86 ⟨Unit, fun _ => (.tuple #[])⟩ fun (_ : Unit) H88 =>
                  newB H88 (.cells #[(.int .i64 33)] t_int) fun b89 H90 =>
                  callW PP f_spec_writer_kids #[(.pointer (some ⟨w, 0, none⟩)), (.int .i64 i), (.string (bs [61])), (.string (bs [])), (.string (bs [124])), (.slice (some ⟨b89, 0, none⟩) 1 1)] H90 ⟨Unit, fun _ => (.tuple #[])⟩ fun (_ : Unit) H92 =>
                  retK (some []) H92 R)
                (forkB (x8 == 34)
                  (loadW H7 false 1 ⟨b3, 1, none⟩ pStr fun (x93 : ByteArray) =>
                    newB H7 (.cells #[(.string (bs [101, 110, 117, 109])), (.string x93)] t_string) fun b94 H95 =>
                    callW PP f_spec_writer_put #[(.pointer (some ⟨w, 0, none⟩)), (.slice (some ⟨b94, 0, none⟩) 2 2)] H95 ⟨Unit, fun _ => (.tuple #[])⟩ fun (_ : Unit) H97 =>
                    callW PP f_spec_writer_directives #[(.pointer (some ⟨w, 0, none⟩)), (.int .i64 i)] H97 ⟨Unit, fun _ => (.tuple #[])⟩ fun (_ : Unit) H99 =>
                    newB H99 (.cells #[(.int .i64 35)] t_int) fun b100 H101 =>
                    callW PP f_spec_writer_kids #[(.pointer (some ⟨w, 0, none⟩)), (.int .i64 i), (.string (bs [123])), (.string (bs [125])), (.string (bs [])), (.slice (some ⟨b100, 0, none⟩) 1 1)] H101 ⟨Unit, fun _ => (.tuple #[])⟩ fun (_ : Unit) H103 =>
                    retK (some []) H103 R)
                  (forkB (x8 == 35)
                    (loadW H7 false 1 ⟨b3, 1, none⟩ pStr fun (x104 : ByteArray) =>
                      newB H7 (.cells #[(.string x104)] t_string) fun b105 H106 =>
                      callW PP f_spec_writer_put #[(.pointer (some ⟨w, 0, none⟩)), (.slice (some ⟨b105, 0, none⟩) 1 1)] H106 ⟨Unit, fun _ => (.tuple #[])⟩ fun (_ : Unit) H108 =>
                      callW PP f_spec_writer_directives #[(.pointer (some ⟨w, 0, none⟩)), (.int .i64 i)] H108 ⟨Unit, fun _ => (.tuple #[])⟩ fun (_ : Unit) H110 =>
                      retK (some []) H110 R)
                    (forkB (x8 == 36)
                      (loadW H7 false 1 ⟨b3, 1, none⟩ pStr fun (x111 : ByteArray) =>
                        newB H7 (.cells #[(.string (bs [105, 110, 112, 117, 116])), (.string x111)] t_string) fun b112 H113 =>
                        callW PP f_spec_writer_put #[(.pointer (some ⟨w, 0, none⟩)), (.slice (some ⟨b112, 0, none⟩) 2 2)] H113 ⟨Unit, fun _ => (.tuple #[])⟩ fun (_ : Unit) H115 =>
                        callW PP f_spec_writer_directives #[(.pointer (some ⟨w, 0, none⟩)), (.int .i64 i)] H115 ⟨Unit, fun _ => (.tuple #[])⟩ fun (_ : Unit) H117 =>
                        newB H117 (.cells #[(.int .i64 30)] t_int) fun b118 H119 =>
                        callW PP f_spec_writer_kids #[(.pointer (some ⟨w, 0, none⟩)), (.int .i64 i), (.string (bs [123])), (.string (bs [125])), (.string (bs [])), (.slice (some ⟨b118, 0, none⟩) 1 1)] H119 ⟨Unit, fun _ => (.tuple #[])⟩ fun (_ : Unit) H121 =>
                        retK (some []) H121 R)
                      (forkB (x8 == 37)
                        (loadW H7 false 1 ⟨b3, 1, none⟩ pStr fun (x122 : ByteArray) =>
                          newB H7 (.cells #[(.string (bs [100, 105, 114, 101, 99, 116, 105, 118, 101])), (.string (bs [64])), (.string x122)] t_string) fun b123 H124 =>
                          callW PP f_spec_writer_put #[(.pointer (some ⟨w, 0, none⟩)), (.slice (some ⟨b123, 0, none⟩) 3 3)] H124 ⟨Unit, fun _ => (.tuple #[])⟩ fun (_ : Unit) H126 =>
                          newB H126 (.cells #[(.int .i64 30)] t_int) fun b127 H128 =>
                          callW PP f_spec_writer_kids #[(.pointer (some ⟨w, 0, none⟩)), (.int .i64 i), (.string (bs [40])), (.string (bs [41])), (.string (bs [])), (.slice (some ⟨b127, 0, none⟩) 1 1)] H128 ⟨Unit, fun _ => (.tuple #[])⟩ fun (_ : Unit) H130 =>
                          newB H130 (.cells #[(.int .i64 38)] t_int) fun b131 H132 =>
                          callW PP f_spec_writer_kids #[(.pointer (some ⟨w, 0, none⟩)), (.int .i64 i), (.string (bs [111, 110])), (.string (bs [])), (.string (bs [124])), (.slice (some ⟨b131, 0, none⟩) 1 1)] H132 ⟨Unit, fun _ => (.tuple #[])⟩ fun (_ : Unit) H134 =>
                          retK (some []) H134 R)
                        (forkB (x8 == 39)
                          (newB H7 (.cells #[(.string (bs [101, 120, 116, 101, 110, 100]))] t_string) fun b135 H136 =>
                            callW PP f_spec_writer_put #[(.pointer (some ⟨w, 0, none⟩)), (.slice (some ⟨b135, 0, none⟩) 1 1)] H136 ⟨Unit, fun _ => (.tuple #[])⟩ fun (_ : Unit) H138 =>
                            callW PP f_spec_writer_node #[(.pointer (some ⟨w, 0, none⟩)), (.int .i64 (IntKind.i64.wrap (i + 1)))] H138 ⟨Unit, fun _ => (.tuple #[])⟩ fun (_ : Unit) H140 =>
                            retK (some []) H140 R)
                          (retK (some []) H7 R)))))))))))))
theorem wDefinition.enter (w : Nat) (i : Int) (H : Heap) (R : Value → Heap → Prop) (h : wDefinition.W w i H R) : Fn PP f_spec_writer_definition #[(.pointer (some ⟨w, 0, none⟩)), (.int .i64 i)] H R :=
  fun_sound mixed Tryz.func74 ⟨patL [(8, pSlc), (11, ⟨Int × ByteArray × ByteArray × ByteArray × Int × Int, fun x => (.agg #[(.int .i64 x.1), (.string x.2.1), (.string x.2.2.1), (.string x.2.2.2.1), (.int .i64 x.2.2.2.2.1), (.int .i64 x.2.2.2.2.2)])⟩), (14, ⟨Unit, fun _ => (.tuple #[])⟩), (16, (pInt .i64)), (21, ⟨Unit, fun _ => (.tuple #[])⟩), (24, ⟨Unit, fun _ => (.tuple #[])⟩), (28, ⟨Unit, fun _ => (.tuple #[])⟩), (33, pStr), (35, pStr), (37, ⟨Unit, fun _ => (.tuple #[])⟩), (42, pStr), (44, ⟨Unit, fun _ => (.tuple #[])⟩), (47, ⟨Unit, fun _ => (.tuple #[])⟩), (52, pStr), (54, ⟨Unit, fun _ => (.tuple #[])⟩), (58, ⟨Unit, fun _ => (.tuple #[])⟩), (61, ⟨Unit, fun _ => (.tuple #[])⟩), (65, ⟨Unit, fun _ => (.tuple #[])⟩), (70, pStr), (72, ⟨Unit, fun _ => (.tuple #[])⟩), (75, ⟨Unit, fun _ => (.tuple #[])⟩), (79, ⟨Unit, fun _ => (.tuple #[])⟩), (84, pStr), (86, ⟨Unit, fun _ => (.tuple #[])⟩), (90, ⟨Unit, fun _ => (.tuple #[])⟩), (93, ⟨Unit, fun _ => (.tuple #[])⟩), (96, ⟨Unit, fun _ => (.tuple #[])⟩), (101, pStr), (103, ⟨Unit, fun _ => (.tuple #[])⟩), (106, ⟨Unit, fun _ => (.tuple #[])⟩), (109, ⟨Unit, fun _ => (.tuple #[])⟩), (112, ⟨Unit, fun _ => (.tuple #[])⟩), (117, pStr), (119, ⟨Unit, fun _ => (.tuple #[])⟩), (122, ⟨Unit, fun _ => (.tuple #[])⟩), (126, ⟨Unit, fun _ => (.tuple #[])⟩), (131, pStr), (133, ⟨Unit, fun _ => (.tuple #[])⟩), (136, ⟨Unit, fun _ => (.tuple #[])⟩), (140, ⟨Unit, fun _ => (.tuple #[])⟩), (145, pStr), (147, ⟨Unit, fun _ => (.tuple #[])⟩), (150, ⟨Unit, fun _ => (.tuple #[])⟩), (155, pStr), (157, ⟨Unit, fun _ => (.tuple #[])⟩), (160, ⟨Unit, fun _ => (.tuple #[])⟩), (164, ⟨Unit, fun _ => (.tuple #[])⟩), (169, pStr), (171, ⟨Unit, fun _ => (.tuple #[])⟩), (175, ⟨Unit, fun _ => (.tuple #[])⟩), (179, ⟨Unit, fun _ => (.tuple #[])⟩), (184, ⟨Unit, fun _ => (.tuple #[])⟩), (188, ⟨Unit, fun _ => (.tuple #[])⟩)], loopL [], joinL [], joinL [], joinRL []⟩ [(.pointer (some ⟨w, 0, none⟩)), (.int .i64 i)] H R (Eq.mp (by unfold wDefinition.W; kernel_rfl) h)

/-- (*spec.writer).about -/
def wAbout.W (w : Nat) (i : Int) (H : Heap) (R : Value → Heap → Prop) : Prop :=
  newB H (.cells #[(.int .i64 23)] t_int) fun b1 H2 =>
  callW PP f_spec_writer_kids #[(.pointer (some ⟨w, 0, none⟩)), (.int .i64 i), (.string (bs [])), (.string (bs [])), (.string (bs [])), (.slice (some ⟨b1, 0, none⟩) 1 1)] H2 ⟨Unit, fun _ => (.tuple #[])⟩ fun (_ : Unit) H4 =>
  retK (some []) H4 R
theorem wAbout.enter (w : Nat) (i : Int) (H : Heap) (R : Value → Heap → Prop) (h : wAbout.W w i H R) : Fn PP f_spec_writer_about #[(.pointer (some ⟨w, 0, none⟩)), (.int .i64 i)] H R :=
  fun_sound mixed Tryz.func129 ⟨patL [(7, ⟨Unit, fun _ => (.tuple #[])⟩)], loopL [], joinL [], joinL [], joinRL []⟩ [(.pointer (some ⟨w, 0, none⟩)), (.int .i64 i)] H R (Eq.mp (by unfold wAbout.W; kernel_rfl) h)

/-- (*spec.writer).directives -/
def wDirectives.W (w : Nat) (i : Int) (H : Heap) (R : Value → Heap → Prop) : Prop :=
  newB H (.cells #[(.int .i64 10)] t_int) fun b1 H2 =>
  callW PP f_spec_writer_kids #[(.pointer (some ⟨w, 0, none⟩)), (.int .i64 i), (.string (bs [])), (.string (bs [])), (.string (bs [])), (.slice (some ⟨b1, 0, none⟩) 1 1)] H2 ⟨Unit, fun _ => (.tuple #[])⟩ fun (_ : Unit) H4 =>
  retK (some []) H4 R
theorem wDirectives.enter (w : Nat) (i : Int) (H : Heap) (R : Value → Heap → Prop) (h : wDirectives.W w i H R) : Fn PP f_spec_writer_directives #[(.pointer (some ⟨w, 0, none⟩)), (.int .i64 i)] H R :=
  fun_sound mixed Tryz.func41 ⟨patL [(7, ⟨Unit, fun _ => (.tuple #[])⟩)], loopL [], joinL [], joinL [], joinRL []⟩ [(.pointer (some ⟨w, 0, none⟩)), (.int .i64 i)] H R (Eq.mp (by unfold wDirectives.W; kernel_rfl) h)

/-- (*spec.writer).kids -/
def wKids.W (w : Nat) (i : Int) (begin_ : ByteArray) (end_ : ByteArray) (between : ByteArray) (kinds kindsO kindsN kindsC : Nat) (H : Heap) (R : Value → Heap → Prop) : Prop :=
  loadW H false 1 ⟨w, 0, none⟩ pSlc fun (x1 : (Option Addr × Nat × Nat)) =>
  callW PP f_spec_Kids #[(.slice x1.1 x1.2.1 x1.2.2), (.int .i64 i)] H pSlc fun (x2 : (Option Addr × Nat × Nat)) H3 =>
  loopK (Int × Int × Unit) (0, 0, ()) H3 fun z4 H5 next6 =>
  forkB (decide (z4.2.1 < ((x2.2.1 : Nat) : Int)))
  (loopK (Int × Int × Unit) (z4.1, 0, ()) H5 fun z7 H8 next9 =>
    forkB (decide (z7.2.1 < ((kindsN : Nat) : Int)))
    (loadW H8 false 1 ⟨w, 0, none⟩ pSlc fun (x10 : (Option Addr × Nat × Nat)) =>
      (IxOk x2.1 z4.2.1 x2.2.1) ∧
      loadW H8 false 1 ⟨(blkOf x2.1), (offOf x2.1 + z4.2.1.toNat * 1), none⟩ (pInt .i64) fun (x11 : Int) =>
      (IxOk x10.1 x11 x10.2.1) ∧
      loadW H8 false 1 ⟨(blkOf x10.1), (offOf x10.1 + x11.toNat * 6), none⟩ (pInt .i64) fun (x12 : Int) =>
      (IxOk (some ⟨kinds, kindsO, none⟩) z7.2.1 kindsN) ∧
      loadW H8 false 1 ⟨kinds, (kindsO + z7.2.1.toNat * 1), none⟩ (pInt .i64) fun (x13 : Int) =>
      forkB (x12 != x13)
      (next9 (z7.1, (IntKind.i64.wrap (z7.2.1 + 1)), ()) H8)
      (joinPK (Bool × Unit) H8 (fun J14 =>
        forkB (z7.1 == 0)
          (J14 ((!(begin_.toList == (bs []).toList)), ()) H8)
          (J14 (false, ()) H8)) fun y15 =>
        joinK (Unit) (fun J16 =>
        forkB y15.1
          (newB H8 (.cells #[(.string begin_)] t_string) fun b19 H20 =>
            callW PP f_spec_writer_put #[(.pointer (some ⟨w, 0, none⟩)), (.slice (some ⟨b19, 0, none⟩) 1 1)] H20 ⟨Unit, fun _ => (.tuple #[])⟩ fun (_ : Unit) H22 =>
            J16 (()) H22)
          (J16 (()) H8)) fun y17 H18 =>
        joinPK (Bool × Unit) H18 (fun J23 =>
        forkB (decide (z7.1 > 0))
          (J23 ((!(between.toList == (bs []).toList)), ()) H18)
          (J23 (false, ()) H18)) fun y24 =>
        joinK (Unit) (fun J25 =>
        forkB y24.1
          (newB H18 (.cells #[(.string between)] t_string) fun b28 H29 =>
            callW PP f_spec_writer_put #[(.pointer (some ⟨w, 0, none⟩)), (.slice (some ⟨b28, 0, none⟩) 1 1)] H29 ⟨Unit, fun _ => (.tuple #[])⟩ fun (_ : Unit) H31 =>
            J25 (()) H31)
          (J25 (()) H18)) fun y26 H27 =>
        (IxOk x2.1 z4.2.1 x2.2.1) ∧
        loadW H27 false 1 ⟨(blkOf x2.1), (offOf x2.1 + z4.2.1.toNat * 1), none⟩ (pInt .i64) fun (x32 : Int) =>
        callW PP f_spec_writer_node #[(.pointer (some ⟨w, 0, none⟩)), (.int .i64 x32)] H27 ⟨Unit, fun _ => (.tuple #[])⟩ fun (_ : Unit) H34 =>
        next9 ((IntKind.i64.wrap (z7.1 + 1)), (IntKind.i64.wrap (z7.2.1 + 1)), ()) H34))
    (next6 (z7.1, (IntKind.i64.wrap (z4.2.1 + 1)), ()) H8))
  (joinPK (Bool × Unit) H5 (fun J35 =>
    forkB (decide (z4.1 > 0))
      (J35 ((!(end_.toList == (bs []).toList)), ()) H5)
      (J35 (false, ()) H5)) fun y36 =>
    joinK (Unit) (fun J37 =>
    forkB y36.1
      (newB H5 (.cells #[(.string end_)] t_string) fun b40 H41 =>
        callW PP f_spec_writer_put #[(.pointer (some ⟨w, 0, none⟩)), (.slice (some ⟨b40, 0, none⟩) 1 1)] H41 ⟨Unit, fun _ => (.tuple #[])⟩ fun (_ : Unit) H43 =>
        J37 (()) H43)
      (J37 (()) H5)) fun y38 H39 =>
    retK (some []) H39 R)
theorem wKids.enter (w : Nat) (i : Int) (begin_ : ByteArray) (end_ : ByteArray) (between : ByteArray) (kinds kindsO kindsN kindsC : Nat) (H : Heap) (R : Value → Heap → Prop) (h : wKids.W w i begin_ end_ between kinds kindsO kindsN kindsC H R) : Fn PP f_spec_writer_kids #[(.pointer (some ⟨w, 0, none⟩)), (.int .i64 i), (.string begin_), (.string end_), (.string between), (.slice (some ⟨kinds, kindsO, none⟩) kindsN kindsC)] H R :=
  fun_sound mixed Tryz.func40 ⟨patL [(19, pSlc), (21, pSlc), (37, pSlc), (41, (pInt .i64)), (44, (pInt .i64)), (48, (pInt .i64)), (59, ⟨Unit, fun _ => (.tuple #[])⟩), (69, ⟨Unit, fun _ => (.tuple #[])⟩), (76, (pInt .i64)), (77, ⟨Unit, fun _ => (.tuple #[])⟩), (87, ⟨Unit, fun _ => (.tuple #[])⟩)], loopL [(0, [Slot.int .i64 13, Slot.int .i64 14]), (2, [Slot.int .i64 13, Slot.int .i64 15])], joinL [(55, []), (65, []), (83, [])], joinL [], joinRL [(9, [Slot.bool 55], true), (11, [Slot.bool 65], true), (15, [Slot.bool 83], true)]⟩ [(.pointer (some ⟨w, 0, none⟩)), (.int .i64 i), (.string begin_), (.string end_), (.string between), (.slice (some ⟨kinds, kindsO, none⟩) kindsN kindsC)] H R (Eq.mp (by unfold wKids.W; kernel_rfl) h)

/-- (*spec.writer).first -/
def wFirstType.W (w : Nat) (i : Int) (sign_ : ByteArray) (H : Heap) (R : Value → Heap → Prop) : Prop :=
  loadW H false 1 ⟨w, 0, none⟩ pSlc fun (x1 : (Option Addr × Nat × Nat)) =>
  callW PP f_spec_Kids #[(.slice x1.1 x1.2.1 x1.2.2), (.int .i64 i)] H pSlc fun (x2 : (Option Addr × Nat × Nat)) H3 =>
  loopK (Int × Unit) (0, ()) H3 fun z4 H5 next6 =>
  forkB (decide (z4.1 < ((x2.2.1 : Nat) : Int)))
  (loadW H5 false 1 ⟨w, 0, none⟩ pSlc fun (x7 : (Option Addr × Nat × Nat)) =>
    (IxOk x2.1 z4.1 x2.2.1) ∧
    loadW H5 false 1 ⟨(blkOf x2.1), (offOf x2.1 + z4.1.toNat * 1), none⟩ (pInt .i64) fun (x8 : Int) =>
    (IxOk x7.1 x8 x7.2.1) ∧
    loadW H5 true 6 ⟨(blkOf x7.1), (offOf x7.1 + x8.toNat * 6), none⟩ ⟨Int × ByteArray × ByteArray × ByteArray × Int × Int, fun x => (.agg #[(.int .i64 x.1), (.string x.2.1), (.string x.2.2.1), (.string x.2.2.2.1), (.int .i64 x.2.2.2.2.1), (.int .i64 x.2.2.2.2.2)])⟩ fun (x9 : Int × ByteArray × ByteArray × ByteArray × Int × Int) =>
    callW PP f_spec_isType #[(.agg #[(.int .i64 x9.1), (.string x9.2.1), (.string x9.2.2.1), (.string x9.2.2.2.1), (.int .i64 x9.2.2.2.2.1), (.int .i64 x9.2.2.2.2.2)])] H5 pBool fun (x10 : Bool) H11 =>
    forkB x10
    (forkB (!(sign_.toList == (bs []).toList))
      (newB H11 (.cells #[(.string sign_)] t_string) fun b12 H13 =>
        callW PP f_spec_writer_put #[(.pointer (some ⟨w, 0, none⟩)), (.slice (some ⟨b12, 0, none⟩) 1 1)] H13 ⟨Unit, fun _ => (.tuple #[])⟩ fun (_ : Unit) H15 =>
        (IxOk x2.1 z4.1 x2.2.1) ∧
        loadW H15 false 1 ⟨(blkOf x2.1), (offOf x2.1 + z4.1.toNat * 1), none⟩ (pInt .i64) fun (x16 : Int) =>
        callW PP f_spec_writer_node #[(.pointer (some ⟨w, 0, none⟩)), (.int .i64 x16)] H15 ⟨Unit, fun _ => (.tuple #[])⟩ fun (_ : Unit) H18 =>
        retK (some []) H18 R)
      ((IxOk x2.1 z4.1 x2.2.1) ∧
        loadW H11 false 1 ⟨(blkOf x2.1), (offOf x2.1 + z4.1.toNat * 1), none⟩ (pInt .i64) fun (x19 : Int) =>
        callW PP f_spec_writer_node #[(.pointer (some ⟨w, 0, none⟩)), (.int .i64 x19)] H11 ⟨Unit, fun _ => (.tuple #[])⟩ fun (_ : Unit) H21 =>
        retK (some []) H21 R))
    (next6 ((IntKind.i64.wrap (z4.1 + 1)), ()) H11))
  (retK (some []) H5 R)
theorem wFirstType.enter (w : Nat) (i : Int) (sign_ : ByteArray) (H : Heap) (R : Value → Heap → Prop) (h : wFirstType.W w i sign_ H R) : Fn PP f_spec_writer_first #[(.pointer (some ⟨w, 0, none⟩)), (.int .i64 i), (.string sign_), (.func (.func f_spec_isType) #[] #[])] H R :=
  fun_sound mixed Tryz.func42 ⟨patL [(13, pSlc), (15, pSlc), (26, pSlc), (30, (pInt .i64)), (32, ⟨Int × ByteArray × ByteArray × ByteArray × Int × Int, fun x => (.agg #[(.int .i64 x.1), (.string x.2.1), (.string x.2.2.1), (.string x.2.2.2.1), (.int .i64 x.2.2.2.2.1), (.int .i64 x.2.2.2.2.2)])⟩), (33, pBool), (39, ⟨Unit, fun _ => (.tuple #[])⟩), (44, (pInt .i64)), (45, ⟨Unit, fun _ => (.tuple #[])⟩)], loopL [(0, [Slot.int .i64 9])], joinL [], joinL [], joinRL []⟩ [(.pointer (some ⟨w, 0, none⟩)), (.int .i64 i), (.string sign_), (.func (.func f_spec_isType) #[] #[])] H R (Eq.mp (by unfold wFirstType.W; kernel_rfl) h)

/-- (*spec.writer).first -/
def wFirstValue.W (w : Nat) (i : Int) (sign_ : ByteArray) (H : Heap) (R : Value → Heap → Prop) : Prop :=
  loadW H false 1 ⟨w, 0, none⟩ pSlc fun (x1 : (Option Addr × Nat × Nat)) =>
  callW PP f_spec_Kids #[(.slice x1.1 x1.2.1 x1.2.2), (.int .i64 i)] H pSlc fun (x2 : (Option Addr × Nat × Nat)) H3 =>
  loopK (Int × Unit) (0, ()) H3 fun z4 H5 next6 =>
  forkB (decide (z4.1 < ((x2.2.1 : Nat) : Int)))
  (loadW H5 false 1 ⟨w, 0, none⟩ pSlc fun (x7 : (Option Addr × Nat × Nat)) =>
    (IxOk x2.1 z4.1 x2.2.1) ∧
    loadW H5 false 1 ⟨(blkOf x2.1), (offOf x2.1 + z4.1.toNat * 1), none⟩ (pInt .i64) fun (x8 : Int) =>
    (IxOk x7.1 x8 x7.2.1) ∧
    loadW H5 true 6 ⟨(blkOf x7.1), (offOf x7.1 + x8.toNat * 6), none⟩ ⟨Int × ByteArray × ByteArray × ByteArray × Int × Int, fun x => (.agg #[(.int .i64 x.1), (.string x.2.1), (.string x.2.2.1), (.string x.2.2.2.1), (.int .i64 x.2.2.2.2.1), (.int .i64 x.2.2.2.2.2)])⟩ fun (x9 : Int × ByteArray × ByteArray × ByteArray × Int × Int) =>
    callW PP f_spec_isValue #[(.agg #[(.int .i64 x9.1), (.string x9.2.1), (.string x9.2.2.1), (.string x9.2.2.2.1), (.int .i64 x9.2.2.2.2.1), (.int .i64 x9.2.2.2.2.2)])] H5 pBool fun (x10 : Bool) H11 =>
    forkB x10
    (forkB (!(sign_.toList == (bs []).toList))
      (newB H11 (.cells #[(.string sign_)] t_string) fun b12 H13 =>
        callW PP f_spec_writer_put #[(.pointer (some ⟨w, 0, none⟩)), (.slice (some ⟨b12, 0, none⟩) 1 1)] H13 ⟨Unit, fun _ => (.tuple #[])⟩ fun (_ : Unit) H15 =>
        (IxOk x2.1 z4.1 x2.2.1) ∧
        loadW H15 false 1 ⟨(blkOf x2.1), (offOf x2.1 + z4.1.toNat * 1), none⟩ (pInt .i64) fun (x16 : Int) =>
        callW PP f_spec_writer_node #[(.pointer (some ⟨w, 0, none⟩)), (.int .i64 x16)] H15 ⟨Unit, fun _ => (.tuple #[])⟩ fun (_ : Unit) H18 =>
        retK (some []) H18 R)
      ((IxOk x2.1 z4.1 x2.2.1) ∧
        loadW H11 false 1 ⟨(blkOf x2.1), (offOf x2.1 + z4.1.toNat * 1), none⟩ (pInt .i64) fun (x19 : Int) =>
        callW PP f_spec_writer_node #[(.pointer (some ⟨w, 0, none⟩)), (.int .i64 x19)] H11 ⟨Unit, fun _ => (.tuple #[])⟩ fun (_ : Unit) H21 =>
        retK (some []) H21 R))
    (next6 ((IntKind.i64.wrap (z4.1 + 1)), ()) H11))
  (retK (some []) H5 R)
theorem wFirstValue.enter (w : Nat) (i : Int) (sign_ : ByteArray) (H : Heap) (R : Value → Heap → Prop) (h : wFirstValue.W w i sign_ H R) : Fn PP f_spec_writer_first #[(.pointer (some ⟨w, 0, none⟩)), (.int .i64 i), (.string sign_), (.func (.func f_spec_isValue) #[] #[])] H R :=
  fun_sound mixed Tryz.func42 ⟨patL [(13, pSlc), (15, pSlc), (26, pSlc), (30, (pInt .i64)), (32, ⟨Int × ByteArray × ByteArray × ByteArray × Int × Int, fun x => (.agg #[(.int .i64 x.1), (.string x.2.1), (.string x.2.2.1), (.string x.2.2.2.1), (.int .i64 x.2.2.2.2.1), (.int .i64 x.2.2.2.2.2)])⟩), (33, pBool), (39, ⟨Unit, fun _ => (.tuple #[])⟩), (44, (pInt .i64)), (45, ⟨Unit, fun _ => (.tuple #[])⟩)], loopL [(0, [Slot.int .i64 9])], joinL [], joinL [], joinRL []⟩ [(.pointer (some ⟨w, 0, none⟩)), (.int .i64 i), (.string sign_), (.func (.func f_spec_isValue) #[] #[])] H R (Eq.mp (by unfold wFirstValue.W; kernel_rfl) h)

/-- spec.TokenTexts -/
def TokenTexts.W (d dO dN dC : Nat) (i : Int) (H : Heap) (R : Value → Heap → Prop) : Prop :=
  newB H (.map #[] 0) fun b1 H2 =>
  newB H2 (.cells #[(.slice (some ⟨d, dO, none⟩) dN dC), (.slice none 0 0), (.map (some b1))] t_spec_writer) fun b3 H4 =>
  callW PP f_spec_writer_node #[(.pointer (some ⟨b3, 0, none⟩)), (.int .i64 i)] H4 ⟨Unit, fun _ => (.tuple #[])⟩ fun (_ : Unit) H6 =>
  loadW H6 false 1 ⟨b3, 1, none⟩ pSlc fun (x7 : (Option Addr × Nat × Nat)) =>
  retK (some [(.slice x7.1 x7.2.1 x7.2.2)]) H6 R
theorem TokenTexts.enter (d dO dN dC : Nat) (i : Int) (H : Heap) (R : Value → Heap → Prop) (h : TokenTexts.W d dO dN dC i H R) : Fn PP f_spec_TokenTexts #[(.slice (some ⟨d, dO, none⟩) dN dC), (.int .i64 i)] H R :=
  fun_sound mixed Tryz.func22 ⟨patL [(12, ⟨Unit, fun _ => (.tuple #[])⟩), (16, pSlc)], loopL [], joinL [], joinL [], joinRL []⟩ [(.slice (some ⟨d, dO, none⟩) dN dC), (.int .i64 i)] H R (Eq.mp (by unfold TokenTexts.W; kernel_rfl) h)

/-- spec.Gaps -/
def Gaps.W (l lO lN lC : Nat) (byA : Option Addr) (byAN byAC : Nat) (H : Heap) (R : Value → Heap → Prop) : Prop :=
  loopK (ByteArray × Int × Unit) ((bs []), 0, ()) H fun z1 H2 next3 =>
  forkB (decide (z1.2.1 < ((lN : Nat) : Int)))
  (joinK (ByteArray × Unit) (fun J4 =>
    forkB (decide (((byAN : Nat) : Int) > 0))
      (newB H2 (.cells #[(.string (bs [])), (.string (bs [32])), (.string (bs [10])), (.string (bs [44])), (.string (bs [32, 44, 32])), (.string (bs [9])), (.string (bs [13, 10])), (.string (bs [13])), (.string (bs [35, 32, 97, 10])), (.string (bs [35, 13])), (.string (bs [44, 44, 10, 32, 32]))] t_string) fun b7 H8 =>
        ((((byAN : Nat) : Int) : Int) ≠ 0) ∧
        (IxOk byA (Int.tmod z1.2.1 ((byAN : Nat) : Int)) byAN) ∧
        loadW H8 false 1 ⟨(blkOf byA), (offOf byA + (Int.tmod z1.2.1 ((byAN : Nat) : Int)).toNat * 1), none⟩ (pInt .u8) fun (x9 : Int) =>
        ((11 : Int) ≠ 0) ∧
        (IxOk (some ⟨b7, 0, none⟩) (Int.tmod (IntKind.i64.wrap x9) 11) 11) ∧
        loadW H8 false 1 ⟨b7, (0 + (Int.tmod (IntKind.i64.wrap x9) 11).toNat * 1), none⟩ pStr fun (x10 : ByteArray) =>
        J4 (x10, ()) H8)
      (J4 ((bs [32]), ()) H2)) fun y5 H6 =>
    joinK (Bool × Unit) (fun J11 =>
    forkB (y5.1.toList == (bs []).toList)
      (forkB (decide (z1.2.1 > 0))
        ((IxOk (some ⟨l, lO, none⟩) (IntKind.i64.wrap (z1.2.1 - 1)) lN) ∧
          loadW H6 false 1 ⟨l, (lO + (IntKind.i64.wrap (z1.2.1 - 1)).toNat * 1), none⟩ pStr fun (x14 : ByteArray) =>
          callW PP f_spec_clinging #[(.string x14)] H6 pBool fun (x15 : Bool) H16 =>
          forkB x15
          ((IxOk (some ⟨l, lO, none⟩) z1.2.1 lN) ∧
            loadW H16 false 1 ⟨l, (lO + z1.2.1.toNat * 1), none⟩ pStr fun (x17 : ByteArray) =>
            callW PP f_spec_clinging #[(.string x17)] H16 pBool fun (x18 : Bool) H19 =>
            forkB x18
            (J11 (true, ()) H19)
            ((IxOk (some ⟨l, lO, none⟩) (IntKind.i64.wrap (z1.2.1 - 1)) lN) ∧
              loadW H19 false 1 ⟨l, (lO + (IntKind.i64.wrap (z1.2.1 - 1)).toNat * 1), none⟩ pStr fun (x20 : ByteArray) =>
              ((0 : Int) ≤ 0 ∧ 0 < ((x20.size : Nat) : Int)) ∧
              forkB ((bt x20 0) == 34)
              ((IxOk (some ⟨l, lO, none⟩) z1.2.1 lN) ∧
                loadW H19 false 1 ⟨l, (lO + z1.2.1.toNat * 1), none⟩ pStr fun (x21 : ByteArray) =>
                ((0 : Int) ≤ 0 ∧ 0 < ((x21.size : Nat) : Int)) ∧
                J11 (((bt x21 0) == 34), ()) H19)
              (J11 (false, ()) H19)))
          ((IxOk (some ⟨l, lO, none⟩) (IntKind.i64.wrap (z1.2.1 - 1)) lN) ∧
            loadW H16 false 1 ⟨l, (lO + (IntKind.i64.wrap (z1.2.1 - 1)).toNat * 1), none⟩ pStr fun (x22 : ByteArray) =>
            ((0 : Int) ≤ 0 ∧ 0 < ((x22.size : Nat) : Int)) ∧
            forkB ((bt x22 0) == 34)
            ((IxOk (some ⟨l, lO, none⟩) z1.2.1 lN) ∧
              loadW H16 false 1 ⟨l, (lO + z1.2.1.toNat * 1), none⟩ pStr fun (x23 : ByteArray) =>
              ((0 : Int) ≤ 0 ∧ 0 < ((x23.size : Nat) : Int)) ∧
              J11 (((bt x23 0) == 34), ()) H16)
            (J11 (false, ()) H16)))
        (J11 (false, ()) H6))
      (J11 (false, ()) H6)) fun y12 H13 =>
    joinK (ByteArray × Unit) (fun J24 =>
    forkB y12.1
      (J24 ((bs [32]), ()) H13)
      (J24 (y5.1, ()) H13)) fun y25 H26 =>
    joinPK (Bool × Unit) H26 (fun J27 =>
    forkB (decide (z1.2.1 > 0))
      (J27 (true, ()) H26)
      (J27 ((decide (((byAN : Nat) : Int) > 0)), ()) H26)) fun y28 =>
    joinK (ByteArray × Unit) (fun J29 =>
    forkB y28.1
      ((((z1.1.size + y25.1.size : Nat) : Int) ≤ 9223372036854775807) ∧
        J29 ((z1.1 ++ y25.1), ()) H26)
      (J29 (z1.1, ()) H26)) fun y30 H31 =>
    (IxOk (some ⟨l, lO, none⟩) z1.2.1 lN) ∧
    loadW H31 false 1 ⟨l, (lO + z1.2.1.toNat * 1), none⟩ pStr fun (x32 : ByteArray) =>
    (((y30.1.size + x32.size : Nat) : Int) ≤ 9223372036854775807) ∧
    next3 ((y30.1 ++ x32), (IntKind.i64.wrap (z1.2.1 + 1)), ()) H31)
  (retK (some [(.string z1.1)]) H2 R)
theorem Gaps.enter (l lO lN lC : Nat) (byA : Option Addr) (byAN byAC : Nat) (H : Heap) (R : Value → Heap → Prop) (h : Gaps.W l lO lN lC byA byAN byAC H R) : Fn PP f_spec_Gaps #[(.slice (some ⟨l, lO, none⟩) lN lC), (.slice byA byAN byAC)] H R :=
  fun_sound mixed Tryz.func21 ⟨patL [(24, (pInt .u8)), (28, pStr), (40, pStr), (41, pBool), (46, pStr), (47, pBool), (54, pStr), (61, pStr), (81, pStr)], loopL [(0, [Slot.str 5, Slot.int .i64 6])], joinL [(16, [Slot.str 7]), (66, [Slot.str 7]), (73, [Slot.str 5])], joinL [], joinRL [(8, [Slot.bool 66], false), (10, [Slot.bool 73], true)]⟩ [(.slice (some ⟨l, lO, none⟩) lN lC), (.slice byA byAN byAC)] H R (Eq.mp (by unfold Gaps.W; kernel_rfl) h)

/-- spec.clinging -/
def clinging.W (s : ByteArray) (H : Heap) (R : Value → Heap → Prop) : Prop :=
  ((0 : Int) ≤ 0 ∧ 0 < ((s.size : Nat) : Int)) ∧
  callW PP f_spec_isBegin #[(.int .u8 (bt s 0))] H pBool fun (x1 : Bool) H2 =>
  forkB x1
  (retK (some [(.bool true)]) H2 R)
  (((0 : Int) ≤ 0 ∧ 0 < ((s.size : Nat) : Int)) ∧
    callW PP f_spec_isDigit #[(.int .u8 (bt s 0))] H2 pBool fun (x3 : Bool) H4 =>
    forkB x3
    (retK (some [(.bool true)]) H4 R)
    (((0 : Int) ≤ 0 ∧ 0 < ((s.size : Nat) : Int)) ∧
      forkB ((bt s 0) == 45)
      (retK (some [(.bool true)]) H4 R)
      (((0 : Int) ≤ 0 ∧ 0 < ((s.size : Nat) : Int)) ∧
        retK (some [(.bool ((bt s 0) == 46))]) H4 R)))
theorem clinging.enter (s : ByteArray) (H : Heap) (R : Value → Heap → Prop) (h : clinging.W s H R) : Fn PP f_spec_clinging #[(.string s)] H R :=
  fun_sound mixed Tryz.func28 ⟨patL [(5, pBool), (9, pBool)], loopL [], joinL [], joinL [], joinRL []⟩ [(.string s)] H R (Eq.mp (by unfold clinging.W; kernel_rfl) h)

/-- spec.Sub -/
def Sub.W (d dO dN dC : Nat) (i : Int) (H : Heap) (R : Value → Heap → Prop) : Prop :=
  (IxOk (some ⟨d, dO, none⟩) i dN) ∧
  loadW H false 1 ⟨d, ((dO + i.toNat * 6) + 5), none⟩ (pInt .i64) fun (x1 : Int) =>
  (((0 : Int) ≤ (IntKind.i64.wrap (i + x1)) ∧ (IntKind.i64.wrap (i + x1)) ≤ ((dC : Nat) : Int)) ∧ ((0 : Int) ≤ i ∧ i ≤ (((IntKind.i64.wrap (i + x1)).toNat : Nat) : Int))) ∧
  retK (some [(.slice (some ⟨d, (slcO dO dC i.toNat 6), none⟩) ((IntKind.i64.wrap (i + x1)).toNat - i.toNat) (dC - i.toNat))]) H R
theorem Sub.enter (d dO dN dC : Nat) (i : Int) (H : Heap) (R : Value → Heap → Prop) (h : Sub.W d dO dN dC i H R) : Fn PP f_spec_Sub #[(.slice (some ⟨d, dO, none⟩) dN dC), (.int .i64 i)] H R :=
  fun_sound mixed Tryz.func24 ⟨patL [(12, (pInt .i64))], loopL [], joinL [], joinL [], joinRL []⟩ [(.slice (some ⟨d, dO, none⟩) dN dC), (.int .i64 i)] H R (Eq.mp (by unfold Sub.W; kernel_rfl) h)

/-- spec.Quote -/
def Quote.W (s : ByteArray) (H : Heap) (R : Value → Heap → Prop) : Prop :=
  loopK (ByteArray × Int × Unit) ((bs [34]), 0, ()) H fun z1 H2 next3 =>
  forkB (decide (z1.2.1 < ((s.size : Nat) : Int)))
  (callW PP f_spec_Point #[(.string s), (.int .i64 z1.2.1)] H2 ⟨Int × Int, fun x => (.tuple #[(.int .i64 x.1), (.int .i64 x.2)])⟩ fun (x4 : Int × Int) H5 =>
    forkB (x4.2 == 0)
    ((((z1.1.size + (bs [34]).size : Nat) : Int) ≤ 9223372036854775807) ∧
      retK (some [(.string (z1.1 ++ (bs [34])))]) H5 R)
    (joinPK (Bool × Unit) H5 (fun J6 =>
      forkB (x4.1 == 34)
        (J6 (true, ()) H5)
        (J6 ((x4.1 == 92), ()) H5)) fun y7 =>
      joinK (ByteArray × Unit) (fun J8 =>
      forkB y7.1
        ((((0 : Int) ≤ (IntKind.i64.wrap (z1.2.1 + 1)) ∧ (IntKind.i64.wrap (z1.2.1 + 1)) ≤ ((s.size : Nat) : Int)) ∧ ((0 : Int) ≤ z1.2.1 ∧ z1.2.1 ≤ (((IntKind.i64.wrap (z1.2.1 + 1)).toNat : Nat) : Int))) ∧
          ((((bs [92]).size + (s.extract z1.2.1.toNat (IntKind.i64.wrap (z1.2.1 + 1)).toNat).size : Nat) : Int) ≤ 9223372036854775807) ∧
          (((z1.1.size + ((bs [92]) ++ (s.extract z1.2.1.toNat (IntKind.i64.wrap (z1.2.1 + 1)).toNat)).size : Nat) : Int) ≤ 9223372036854775807) ∧
          J8 ((z1.1 ++ ((bs [92]) ++ (s.extract z1.2.1.toNat (IntKind.i64.wrap (z1.2.1 + 1)).toNat))), ()) H5)
        (joinPK (Bool × Unit) H5 (fun J11 =>
          forkB (decide (x4.1 < 32))
            (J11 (true, ()) H5)
            (forkB (x4.1 == 127)
              (J11 (true, ()) H5)
              (J11 ((x4.1 == 65279), ()) H5))) fun y12 =>
          joinK (ByteArray × Unit) (fun J13 =>
          forkB y12.1
            ((((0 : Int) ≤ (IntKind.i64.wrap (((x4.1 : Int).fdiv (2 ^ (min (12 : Int).toNat 64))) + 1)) ∧ (IntKind.i64.wrap (((x4.1 : Int).fdiv (2 ^ (min (12 : Int).toNat 64))) + 1)) ≤ (((bs [48, 49, 50, 51, 52, 53, 54, 55, 56, 57, 97, 98, 99, 100, 101, 102]).size : Nat) : Int)) ∧ ((0 : Int) ≤ ((x4.1 : Int).fdiv (2 ^ (min (12 : Int).toNat 64))) ∧ ((x4.1 : Int).fdiv (2 ^ (min (12 : Int).toNat 64))) ≤ (((IntKind.i64.wrap (((x4.1 : Int).fdiv (2 ^ (min (12 : Int).toNat 64))) + 1)).toNat : Nat) : Int))) ∧
              ((((bs [92, 117]).size + ((bs [48, 49, 50, 51, 52, 53, 54, 55, 56, 57, 97, 98, 99, 100, 101, 102]).extract ((x4.1 : Int).fdiv (2 ^ (min (12 : Int).toNat 64))).toNat (IntKind.i64.wrap (((x4.1 : Int).fdiv (2 ^ (min (12 : Int).toNat 64))) + 1)).toNat).size : Nat) : Int) ≤ 9223372036854775807) ∧
              (((0 : Int) ≤ (IntKind.i64.wrap ((IntKind.i64.wrap ((BitVec.ofInt 64 ((x4.1 : Int).fdiv (2 ^ (min (8 : Int).toNat 64))) &&& BitVec.ofInt 64 15).toNat : Int)) + 1)) ∧ (IntKind.i64.wrap ((IntKind.i64.wrap ((BitVec.ofInt 64 ((x4.1 : Int).fdiv (2 ^ (min (8 : Int).toNat 64))) &&& BitVec.ofInt 64 15).toNat : Int)) + 1)) ≤ (((bs [48, 49, 50, 51, 52, 53, 54, 55, 56, 57, 97, 98, 99, 100, 101, 102]).size : Nat) : Int)) ∧ ((0 : Int) ≤ (IntKind.i64.wrap ((BitVec.ofInt 64 ((x4.1 : Int).fdiv (2 ^ (min (8 : Int).toNat 64))) &&& BitVec.ofInt 64 15).toNat : Int)) ∧ (IntKind.i64.wrap ((BitVec.ofInt 64 ((x4.1 : Int).fdiv (2 ^ (min (8 : Int).toNat 64))) &&& BitVec.ofInt 64 15).toNat : Int)) ≤ (((IntKind.i64.wrap ((IntKind.i64.wrap ((BitVec.ofInt 64 ((x4.1 : Int).fdiv (2 ^ (min (8 : Int).toNat 64))) &&& BitVec.ofInt 64 15).toNat : Int)) + 1)).toNat : Nat) : Int))) ∧
              (((((bs [92, 117]) ++ ((bs [48, 49, 50, 51, 52, 53, 54, 55, 56, 57, 97, 98, 99, 100, 101, 102]).extract ((x4.1 : Int).fdiv (2 ^ (min (12 : Int).toNat 64))).toNat (IntKind.i64.wrap (((x4.1 : Int).fdiv (2 ^ (min (12 : Int).toNat 64))) + 1)).toNat)).size + ((bs [48, 49, 50, 51, 52, 53, 54, 55, 56, 57, 97, 98, 99, 100, 101, 102]).extract (IntKind.i64.wrap ((BitVec.ofInt 64 ((x4.1 : Int).fdiv (2 ^ (min (8 : Int).toNat 64))) &&& BitVec.ofInt 64 15).toNat : Int)).toNat (IntKind.i64.wrap ((IntKind.i64.wrap ((BitVec.ofInt 64 ((x4.1 : Int).fdiv (2 ^ (min (8 : Int).toNat 64))) &&& BitVec.ofInt 64 15).toNat : Int)) + 1)).toNat).size : Nat) : Int) ≤ 9223372036854775807) ∧
              (((0 : Int) ≤ (IntKind.i64.wrap ((IntKind.i64.wrap ((BitVec.ofInt 64 ((x4.1 : Int).fdiv (2 ^ (min (4 : Int).toNat 64))) &&& BitVec.ofInt 64 15).toNat : Int)) + 1)) ∧ (IntKind.i64.wrap ((IntKind.i64.wrap ((BitVec.ofInt 64 ((x4.1 : Int).fdiv (2 ^ (min (4 : Int).toNat 64))) &&& BitVec.ofInt 64 15).toNat : Int)) + 1)) ≤ (((bs [48, 49, 50, 51, 52, 53, 54, 55, 56, 57, 97, 98, 99, 100, 101, 102]).size : Nat) : Int)) ∧ ((0 : Int) ≤ (IntKind.i64.wrap ((BitVec.ofInt 64 ((x4.1 : Int).fdiv (2 ^ (min (4 : Int).toNat 64))) &&& BitVec.ofInt 64 15).toNat : Int)) ∧ (IntKind.i64.wrap ((BitVec.ofInt 64 ((x4.1 : Int).fdiv (2 ^ (min (4 : Int).toNat 64))) &&& BitVec.ofInt 64 15).toNat : Int)) ≤ (((IntKind.i64.wrap ((IntKind.i64.wrap ((BitVec.ofInt 64 ((x4.1 : Int).fdiv (2 ^ (min (4 : Int).toNat 64))) &&& BitVec.ofInt 64 15).toNat : Int)) + 1)).toNat : Nat) : Int))) ∧
              ((((((bs [92, 117]) ++ ((bs [48, 49, 50, 51, 52, 53, 54, 55, 56, 57, 97, 98, 99, 100, 101, 102]).extract ((x4.1 : Int).fdiv (2 ^ (min (12 : Int).toNat 64))).toNat (IntKind.i64.wrap (((x4.1 : Int).fdiv (2 ^ (min (12 : Int).toNat 64))) + 1)).toNat)) ++ ((bs [48, 49, 50, 51, 52, 53, 54, 55, 56, 57, 97, 98, 99, 100, 101, 102]).extract (IntKind.i64.wrap ((BitVec.ofInt 64 ((x4.1 : Int).fdiv (2 ^ (min (8 : Int).toNat 64))) &&& BitVec.ofInt 64 15).toNat : Int)).toNat (IntKind.i64.wrap ((IntKind.i64.wrap ((BitVec.ofInt 64 ((x4.1 : Int).fdiv (2 ^ (min (8 : Int).toNat 64))) &&& BitVec.ofInt 64 15).toNat : Int)) + 1)).toNat)).size + ((bs [48, 49, 50, 51, 52, 53, 54, 55, 56, 57, 97, 98, 99, 100, 101, 102]).extract (IntKind.i64.wrap ((BitVec.ofInt 64 ((x4.1 : Int).fdiv (2 ^ (min (4 : Int).toNat 64))) &&& BitVec.ofInt 64 15).toNat : Int)).toNat (IntKind.i64.wrap ((IntKind.i64.wrap ((BitVec.ofInt 64 ((x4.1 : Int).fdiv (2 ^ (min (4 : Int).toNat 64))) &&& BitVec.ofInt 64 15).toNat : Int)) + 1)).toNat).size : Nat) : Int) ≤ 9223372036854775807) ∧
              (((0 : Int) ≤ (IntKind.i64.wrap ((IntKind.i64.wrap ((BitVec.ofInt 64 x4.1 &&& BitVec.ofInt 64 15).toNat : Int)) + 1)) ∧ (IntKind.i64.wrap ((IntKind.i64.wrap ((BitVec.ofInt 64 x4.1 &&& BitVec.ofInt 64 15).toNat : Int)) + 1)) ≤ (((bs [48, 49, 50, 51, 52, 53, 54, 55, 56, 57, 97, 98, 99, 100, 101, 102]).size : Nat) : Int)) ∧ ((0 : Int) ≤ (IntKind.i64.wrap ((BitVec.ofInt 64 x4.1 &&& BitVec.ofInt 64 15).toNat : Int)) ∧ (IntKind.i64.wrap ((BitVec.ofInt 64 x4.1 &&& BitVec.ofInt 64 15).toNat : Int)) ≤ (((IntKind.i64.wrap ((IntKind.i64.wrap ((BitVec.ofInt 64 x4.1 &&& BitVec.ofInt 64 15).toNat : Int)) + 1)).toNat : Nat) : Int))) ∧
              (((((((bs [92, 117]) ++ ((bs [48, 49, 50, 51, 52, 53, 54, 55, 56, 57, 97, 98, 99, 100, 101, 102]).extract ((x4.1 : Int).fdiv (2 ^ (min (12 : Int).toNat 64))).toNat (IntKind.i64.wrap (((x4.1 : Int).fdiv (2 ^ (min (12 : Int).toNat 64))) + 1)).toNat)) ++ ((bs [48, 49, 50, 51, 52, 53, 54, 55, 56, 57, 97, 98, 99, 100, 101, 102]).extract (IntKind.i64.wrap ((BitVec.ofInt 64 ((x4.1 : Int).fdiv (2 ^ (min (8 : Int).toNat 64))) &&& BitVec.ofInt 64 15).toNat : Int)).toNat (IntKind.i64.wrap ((IntKind.i64.wrap ((BitVec.ofInt 64 ((x4.1 : Int).fdiv (2 ^ (min (8 : Int).toNat 64))) &&& BitVec.ofInt 64 15).toNat : Int)) + 1)).toNat)) ++ ((bs [48, 49, 50, 51, 52, 53, 54, 55, 56, 57, 97, 98, 99, 100, 101, 102]).extract (IntKind.i64.wrap ((BitVec.ofInt 64 ((x4.1 : Int).fdiv (2 ^ (min (4 : Int).toNat 64))) &&& BitVec.ofInt 64 15).toNat : Int)).toNat (IntKind.i64.wrap ((IntKind.i64.wrap ((BitVec.ofInt 64 ((x4.1 : Int).fdiv (2 ^ (min (4 : Int).toNat 64))) &&& BitVec.ofInt 64 15).toNat : Int)) + 1)).toNat)).size + ((bs [48, 49, 50, 51, 52, 53, 54, 55, 56, 57, 97, 98, 99, 100, 101, 102]).extract (IntKind.i64.wrap ((BitVec.ofInt 64 x4.1 &&& BitVec.ofInt 64 15).toNat : Int)).toNat (IntKind.i64.wrap ((IntKind.i64.wrap ((BitVec.ofInt 64 x4.1 &&& BitVec.ofInt 64 15).toNat : Int)) + 1)).toNat).size : Nat) : Int) ≤ 9223372036854775807) ∧
              (((z1.1.size + (((((bs [92, 117]) ++ ((bs [48, 49, 50, 51, 52, 53, 54, 55, 56, 57, 97, 98, 99, 100, 101, 102]).extract ((x4.1 : Int).fdiv (2 ^ (min (12 : Int).toNat 64))).toNat (IntKind.i64.wrap (((x4.1 : Int).fdiv (2 ^ (min (12 : Int).toNat 64))) + 1)).toNat)) ++ ((bs [48, 49, 50, 51, 52, 53, 54, 55, 56, 57, 97, 98, 99, 100, 101, 102]).extract (IntKind.i64.wrap ((BitVec.ofInt 64 ((x4.1 : Int).fdiv (2 ^ (min (8 : Int).toNat 64))) &&& BitVec.ofInt 64 15).toNat : Int)).toNat (IntKind.i64.wrap ((IntKind.i64.wrap ((BitVec.ofInt 64 ((x4.1 : Int).fdiv (2 ^ (min (8 : Int).toNat 64))) &&& BitVec.ofInt 64 15).toNat : Int)) + 1)).toNat)) ++ ((bs [48, 49, 50, 51, 52, 53, 54, 55, 56, 57, 97, 98, 99, 100, 101, 102]).extract (IntKind.i64.wrap ((BitVec.ofInt 64 ((x4.1 : Int).fdiv (2 ^ (min (4 : Int).toNat 64))) &&& BitVec.ofInt 64 15).toNat : Int)).toNat (IntKind.i64.wrap ((IntKind.i64.wrap ((BitVec.ofInt 64 ((x4.1 : Int).fdiv (2 ^ (min (4 : Int).toNat 64))) &&& BitVec.ofInt 64 15).toNat : Int)) + 1)).toNat)) ++ ((bs [48, 49, 50, 51, 52, 53, 54, 55, 56, 57, 97, 98, 99, 100, 101, 102]).extract (IntKind.i64.wrap ((BitVec.ofInt 64 x4.1 &&& BitVec.ofInt 64 15).toNat : Int)).toNat (IntKind.i64.wrap ((IntKind.i64.wrap ((BitVec.ofInt 64 x4.1 &&& BitVec.ofInt 64 15).toNat : Int)) + 1)).toNat)).size : Nat) : Int) ≤ 9223372036854775807) ∧
              J13 ((z1.1 ++ (((((bs [92, 117]) ++ ((bs [48, 49, 50, 51, 52, 53, 54, 55, 56, 57, 97, 98, 99, 100, 101, 102]).extract ((x4.1 : Int).fdiv (2 ^ (min (12 : Int).toNat 64))).toNat (IntKind.i64.wrap (((x4.1 : Int).fdiv (2 ^ (min (12 : Int).toNat 64))) + 1)).toNat)) ++ ((bs [48, 49, 50, 51, 52, 53, 54, 55, 56, 57, 97, 98, 99, 100, 101, 102]).extract (IntKind.i64.wrap ((BitVec.ofInt 64 ((x4.1 : Int).fdiv (2 ^ (min (8 : Int).toNat 64))) &&& BitVec.ofInt 64 15).toNat : Int)).toNat (IntKind.i64.wrap ((IntKind.i64.wrap ((BitVec.ofInt 64 ((x4.1 : Int).fdiv (2 ^ (min (8 : Int).toNat 64))) &&& BitVec.ofInt 64 15).toNat : Int)) + 1)).toNat)) ++ ((bs [48, 49, 50, 51, 52, 53, 54, 55, 56, 57, 97, 98, 99, 100, 101, 102]).extract (IntKind.i64.wrap ((BitVec.ofInt 64 ((x4.1 : Int).fdiv (2 ^ (min (4 : Int).toNat 64))) &&& BitVec.ofInt 64 15).toNat : Int)).toNat (IntKind.i64.wrap ((IntKind.i64.wrap ((BitVec.ofInt 64 ((x4.1 : Int).fdiv (2 ^ (min (4 : Int).toNat 64))) &&& BitVec.ofInt 64 15).toNat : Int)) + 1)).toNat)) ++ ((bs [48, 49, 50, 51, 52, 53, 54, 55, 56, 57, 97, 98, 99, 100, 101, 102]).extract (IntKind.i64.wrap ((BitVec.ofInt 64 x4.1 &&& BitVec.ofInt 64 15).toNat : Int)).toNat (IntKind.i64.wrap ((IntKind.i64.wrap ((BitVec.ofInt 64 x4.1 &&& BitVec.ofInt 64 15).toNat : Int)) + 1)).toNat))), ()) H5)
            ((((0 : Int) ≤ (IntKind.i64.wrap (z1.2.1 + x4.2)) ∧ (IntKind.i64.wrap (z1.2.1 + x4.2)) ≤ ((s.size : Nat) : Int)) ∧ ((0 : Int) ≤ z1.2.1 ∧ z1.2.1 ≤ (((IntKind.i64.wrap (z1.2.1 + x4.2)).toNat : Nat) : Int))) ∧
              (((z1.1.size + (s.extract z1.2.1.toNat (IntKind.i64.wrap (z1.2.1 + x4.2)).toNat).size : Nat) : Int) ≤ 9223372036854775807) ∧
              J13 ((z1.1 ++ (s.extract z1.2.1.toNat (IntKind.i64.wrap (z1.2.1 + x4.2)).toNat)), ()) H5)) fun y14 H15 =>
          J8 (y14.1, ()) H15)) fun y9 H10 =>
      next3 (y9.1, (IntKind.i64.wrap (z1.2.1 + x4.2)), ()) H10))
  ((((z1.1.size + (bs [34]).size : Nat) : Int) ≤ 9223372036854775807) ∧
    retK (some [(.string (z1.1 ++ (bs [34])))]) H2 R)
theorem Quote.enter (s : ByteArray) (H : Heap) (R : Value → Heap → Prop) (h : Quote.W s H R) : Fn PP f_spec_Quote #[(.string s)] H R :=
  fun_sound mixed Tryz.func73 ⟨patL [(14, ⟨Int × Int, fun x => (.tuple #[(.int .i64 x.1), (.int .i64 x.2)])⟩)], loopL [(0, [Slot.str 3, Slot.int .i64 4])], joinL [(30, [Slot.str 3]), (45, [Slot.str 3])], joinL [], joinRL [(8, [Slot.bool 30], true), (10, [Slot.bool 45], true)]⟩ [(.string s)] H R (Eq.mp (by unfold Quote.W; kernel_rfl) h)

/-- spec.Block -/
def Block.W (s : ByteArray) (H : Heap) (R : Value → Heap → Prop) : Prop :=
  loopK (ByteArray × Int × Unit) ((bs [34, 34, 34, 10]), 0, ()) H fun z1 H2 next3 =>
  forkB (decide (z1.2.1 < ((s.size : Nat) : Int)))
  (callW PP f_spec_starts #[(.string s), (.int .i64 z1.2.1), (.string (bs [34, 34, 34]))] H2 pBool fun (x4 : Bool) H5 =>
    forkB x4
    ((((z1.1.size + (bs [92, 34, 34, 34]).size : Nat) : Int) ≤ 9223372036854775807) ∧
      next3 ((z1.1 ++ (bs [92, 34, 34, 34])), (IntKind.i64.wrap (z1.2.1 + 3)), ()) H5)
    ((((0 : Int) ≤ (IntKind.i64.wrap (z1.2.1 + 1)) ∧ (IntKind.i64.wrap (z1.2.1 + 1)) ≤ ((s.size : Nat) : Int)) ∧ ((0 : Int) ≤ z1.2.1 ∧ z1.2.1 ≤ (((IntKind.i64.wrap (z1.2.1 + 1)).toNat : Nat) : Int))) ∧
      (((z1.1.size + (s.extract z1.2.1.toNat (IntKind.i64.wrap (z1.2.1 + 1)).toNat).size : Nat) : Int) ≤ 9223372036854775807) ∧
      next3 ((z1.1 ++ (s.extract z1.2.1.toNat (IntKind.i64.wrap (z1.2.1 + 1)).toNat)), (IntKind.i64.wrap (z1.2.1 + 1)), ()) H5))
  ((((z1.1.size + (bs [10, 34, 34, 34]).size : Nat) : Int) ≤ 9223372036854775807) ∧
    retK (some [(.string (z1.1 ++ (bs [10, 34, 34, 34])))]) H2 R)
theorem Block.enter (s : ByteArray) (H : Heap) (R : Value → Heap → Prop) (h : Block.W s H R) : Fn PP f_spec_Block #[(.string s)] H R :=
  fun_sound mixed Tryz.func72 ⟨patL [(11, pBool)], loopL [(0, [Slot.str 3, Slot.int .i64 4])], joinL [], joinL [], joinRL []⟩ [(.string s)] H R (Eq.mp (by unfold Block.W; kernel_rfl) h)

end Go.Vx
