/- A part of the proof of what the last text of this claim says: WB4. Conditions: none. -/
import Derived.Test.YtkopcepfeeemhaaGreatDoorYDAc
namespace Go.Vx
open Go Go.Proofs
set_option maxRecDepth 100000
def putG.W (f:FuncId) (t:Nat) (l:Nat) (x:Nd) (c1:Nat) (c2:Nat) (H:Heap) (R:RR):Prop:=
 newB H (.cells #[(.int .i64 x.kind),(.string x.name),(.string x.alias),(.string x.text),(.int .i64 x.flag),(.int .i64 x.size)] tq41) fun b1 H2=>
 lw H2 t 0 pSlc fun(x3:Sl)=>
 lw H2 t 0 pSlc fun(x4:Sl)=>
 k01 H2 true 6 ⟨b1,0,none⟩ pNd fun(x5:Int×BA×BA×BA×Int×Int)=>
 newB H2 (.cells #[(.int .i64 x5.1),(.string x5.2.1),(.string x5.2.2.1),(.string x5.2.2.2.1),(.int .i64 x5.2.2.2.2.1),(.int .i64 x5.2.2.2.2.2)] tq41) fun b6 H7=>
 lc H7 t 0 (.slice x4.1 x4.2.1 x4.2.2)∧
 appK H7 tq41 6 72 x4.1 x4.2.1 x4.2.2 (some ⟨b6,0,none⟩) 1 fun a8 c9 H10=>
 k08 H10 ⟨t,0,none⟩ [(.slice a8 (x4.2.1+1) c9)] fun H11=>
 lw H11 t 1 pSlc fun(x12:Sl)=>
 lw H11 l 0 (pInt .i64) fun(x13:Int)=>
 lw H11 l 1 (pInt .i64) fun(x14:Int)=>
 newB H11 (.cells #[(.int .i64 x13),(.int .i64 x14)] tq65) fun b15 H16=>
 lc H16 t 1 (.slice x12.1 x12.2.1 x12.2.2)∧
 appK H16 tq65 2 16 x12.1 x12.2.1 x12.2.2 (some ⟨b15,0,none⟩) 1 fun a17 c18 H19=>
 k08 H19 ⟨t,1,none⟩ [(.slice a17 (x12.2.1+1) c18)] fun H20=>
 k00 PP f #[(pq c1),(pq c2)] H20 pUn fun(_:Unit) H22=>
 lw H22 t 0 pSlc fun(x23:Sl)=>
 lw H22 t 0 pSlc fun(x24:Sl)=>
 (IxOk x23.1 ((x3.2.1:Nat):Int) x23.2.1)∧
 k08 H22 ⟨(k0c x23.1),((k0b x23.1+((x3.2.1:Nat):Int).toNat*6)+5),none⟩ [(.int .i64 (IntKind.i64.wrap (((x24.2.1:Nat):Int) -((x3.2.1:Nat):Int))))] fun H25=>
 rk [] H25 R
abbrev putG.E (gg:FuncId):Prop:= ∀(t:Nat) (l:Nat) (x:Nd) (c1:Nat) (c2:Nat) (H:Heap) (R:RR),putG.W gg t l x c1 c2 H R→Fn PP fq67 #[(pq t),(pq l),(.agg #[(.int .i64 x.kind),(.string x.name),(.string x.alias),(.string x.text),(.int .i64 x.flag),(.int .i64 x.size)]),(.func (.func gg) #[] #[(pq c1),(pq c2)])] H R
abbrev putG.h:Hints:=(hz [(12,pSlc),(18,pSlc),(19,pNd),(32,pSlc),(36,(pInt .i64)),(40,(pInt .i64)),(49,pUn),(53,pSlc),(58,pSlc)])
theorem kdF.enter:putG.E fq120:=fun t l x c1 c2 H R h=>fnE Tryz.func67 putG.h (by unfold putG.W;kernel_rfl) h
theorem kdG.enter:putG.E fq121:=fun t l x c1 c2 H R h=>fnE Tryz.func67 putG.h (by unfold putG.W;kernel_rfl) h
theorem kas.enter:putG.E fq122:=fun t l x c1 c2 H R h=>fnE Tryz.func67 putG.h (by unfold putG.W;kernel_rfl) h
theorem kat.enter:putG.E fq123:=fun t l x c1 c2 H R h=>fnE Tryz.func67 putG.h (by unfold putG.W;kernel_rfl) h
theorem kjk.enter:putG.E fq117:=fun t l x c1 c2 H R h=>fnE Tryz.func67 putG.h (by unfold putG.W;kernel_rfl) h
theorem kj4.enter:putG.E fq124:=fun t l x c1 c2 H R h=>fnE Tryz.func67 putG.h (by unfold putG.W;kernel_rfl) h
theorem kdH.enter:putG.E fq126:=fun t l x c1 c2 H R h=>fnE Tryz.func67 putG.h (by unfold putG.W;kernel_rfl) h
theorem kj5.enter:putG.E fq127:=fun t l x c1 c2 H R h=>fnE Tryz.func67 putG.h (by unfold putG.W;kernel_rfl) h
theorem kj6.enter:putG.E fq184:=fun t l x c1 c2 H R h=>fnE Tryz.func67 putG.h (by unfold putG.W;kernel_rfl) h
theorem kj7.enter:putG.E fq185:=fun t l x c1 c2 H R h=>fnE Tryz.func67 putG.h (by unfold putG.W;kernel_rfl) h
theorem kdI.enter:putG.E fq186:=fun t l x c1 c2 H R h=>fnE Tryz.func67 putG.h (by unfold putG.W;kernel_rfl) h
theorem kj8.enter:putG.E fq188:=fun t l x c1 c2 H R h=>fnE Tryz.func67 putG.h (by unfold putG.W;kernel_rfl) h
theorem kj9.enter:putG.E fq189:=fun t l x c1 c2 H R h=>fnE Tryz.func67 putG.h (by unfold putG.W;kernel_rfl) h
theorem kja.enter:putG.E fq190:=fun t l x c1 c2 H R h=>fnE Tryz.func67 putG.h (by unfold putG.W;kernel_rfl) h
theorem kjb.enter:putG.E fq191:=fun t l x c1 c2 H R h=>fnE Tryz.func67 putG.h (by unfold putG.W;kernel_rfl) h
theorem kjc.enter:putG.E fq192:=fun t l x c1 c2 H R h=>fnE Tryz.func67 putG.h (by unfold putG.W;kernel_rfl) h
theorem kjd.enter:putG.E fq193:=fun t l x c1 c2 H R h=>fnE Tryz.func67 putG.h (by unfold putG.W;kernel_rfl) h
theorem kje.enter:putG.E fq194:=fun t l x c1 c2 H R h=>fnE Tryz.func67 putG.h (by unfold putG.W;kernel_rfl) h
theorem kj2.enter:putG.E fq216:=fun t l x c1 c2 H R h=>fnE Tryz.func67 putG.h (by unfold putG.W;kernel_rfl) h
theorem kjh.enter:putG.E fq181:=fun t l x c1 c2 H R h=>fnE Tryz.func67 putG.h (by unfold putG.W;kernel_rfl) h
theorem kji.enter:putG.E fq182:=fun t l x c1 c2 H R h=>fnE Tryz.func67 putG.h (by unfold putG.W;kernel_rfl) h
theorem kjj.enter:putG.E fq183:=fun t l x c1 c2 H R h=>fnE Tryz.func67 putG.h (by unfold putG.W;kernel_rfl) h
theorem kjf.enter:putG.E fq179:=fun t l x c1 c2 H R h=>fnE Tryz.func67 putG.h (by unfold putG.W;kernel_rfl) h
theorem kjg.enter:putG.E fq180:=fun t l x c1 c2 H R h=>fnE Tryz.func67 putG.h (by unfold putG.W;kernel_rfl) h
theorem kj0.enter:putG.E fq128:=fun t l x c1 c2 H R h=>fnE Tryz.func67 putG.h (by unfold putG.W;kernel_rfl) h
theorem kj1.enter:putG.E fq129:=fun t l x c1 c2 H R h=>fnE Tryz.func67 putG.h (by unfold putG.W;kernel_rfl) h
def k73.W (n:Nat) (H:Heap) (R:RR):Prop:=
 lw H n 2 pStr fun(x1:BA)=>
 rk [(.string x1)] H R
theorem k73.enter (n:Nat) (H:Heap) (R:RR) (h:k73.W n H R):Fn PP fq69 #[(pq n)] H R:=
 fnE Tryz.func69 (hz [(8,pStr)]) (by unfold k73.W;kernel_rfl) h
def k72.W (H:Heap) (R:RR):Prop:=
 rk [sE] H R
theorem k72.enter (H:Heap) (R:RR) (h:k72.W H R):Fn PP fq69 #[(.pointer none)] H R:=
 fnE Tryz.func69 (hz []) (by unfold k72.W;kernel_rfl) h
def onOf.W (n:Nat) (H:Heap) (R:RR):Prop:=
 lw H n 2 pPtr fun(x1:OA)=>
 k00 PP fq69 #[(.pointer x1)] H pStr fun(x2:BA) H3=>
 rk [(.string x2)] H3 R
theorem onOf.enter (n:Nat) (H:Heap) (R:RR) (h:onOf.W n H R):Fn PP fq68 #[(pq n)] H R:=
 fnE Tryz.func68 (hz [(8,pPtr),(9,pStr)]) (by unfold onOf.W;kernel_rfl) h
def k6u.W (H:Heap) (R:RR):Prop:=
 rk [sE] H R
theorem k6u.enter (H:Heap) (R:RR) (h:k6u.W H R):Fn PP fq68 #[(.pointer none)] H R:=
 fnE Tryz.func68 (hz []) (by unfold k6u.W;kernel_rfl) h
def k6y.W (t:Nat) (l:Nat) (x:Nd) (H:Heap) (R:RR):Prop:=
 newB H (.cells #[(.int .i64 x.kind),(.string x.name),(.string x.alias),(.string x.text),(.int .i64 x.flag),(.int .i64 x.size)] tq41) fun b1 H2=>
 lw H2 t 0 pSlc fun(x3:Sl)=>
 lw H2 t 0 pSlc fun(x4:Sl)=>
 k01 H2 true 6 ⟨b1,0,none⟩ pNd fun(x5:Int×BA×BA×BA×Int×Int)=>
 newB H2 (.cells #[(.int .i64 x5.1),(.string x5.2.1),(.string x5.2.2.1),(.string x5.2.2.2.1),(.int .i64 x5.2.2.2.2.1),(.int .i64 x5.2.2.2.2.2)] tq41) fun b6 H7=>
 lc H7 t 0 (.slice x4.1 x4.2.1 x4.2.2)∧
 appK H7 tq41 6 72 x4.1 x4.2.1 x4.2.2 (some ⟨b6,0,none⟩) 1 fun a8 c9 H10=>
 k08 H10 ⟨t,0,none⟩ [(.slice a8 (x4.2.1+1) c9)] fun H11=>
 lw H11 t 1 pSlc fun(x12:Sl)=>
 lw H11 l 0 (pInt .i64) fun(x13:Int)=>
 lw H11 l 1 (pInt .i64) fun(x14:Int)=>
 newB H11 (.cells #[(.int .i64 x13),(.int .i64 x14)] tq65) fun b15 H16=>
 lc H16 t 1 (.slice x12.1 x12.2.1 x12.2.2)∧
 appK H16 tq65 2 16 x12.1 x12.2.1 x12.2.2 (some ⟨b15,0,none⟩) 1 fun a17 c18 H19=>
 k08 H19 ⟨t,1,none⟩ [(.slice a17 (x12.2.1+1) c18)] fun H20=>
 lw H20 t 0 pSlc fun(x21:Sl)=>
 lw H20 t 0 pSlc fun(x22:Sl)=>
 (IxOk x21.1 ((x3.2.1:Nat):Int) x21.2.1)∧
 k08 H20 ⟨(k0c x21.1),((k0b x21.1+((x3.2.1:Nat):Int).toNat*6)+5),none⟩ [(.int .i64 (IntKind.i64.wrap (((x22.2.1:Nat):Int) -((x3.2.1:Nat):Int))))] fun H23=>
 rk [] H23 R
theorem k6y.enter (t:Nat) (l:Nat) (x:Nd) (H:Heap) (R:RR) (h:k6y.W t l x H R):Fn PP fq67 #[(pq t),(pq l),(.agg #[(.int .i64 x.kind),(.string x.name),(.string x.alias),(.string x.text),(.int .i64 x.flag),(.int .i64 x.size)]),.nilFunc] H R:=
 fnE Tryz.func67 (hz [(12,pSlc),(18,pSlc),(19,pNd),(32,pSlc),(36,(pInt .i64)),(40,(pInt .i64)),(53,pSlc),(58,pSlc)]) (by unfold k6y.W;kernel_rfl) h
def k4g.W (c1:Nat) (c2:Nat) (H:Heap) (R:RR):Prop:=
 lw H c1 0 pPtr fun(x1:OA)=>
 lw H c2 0 pBlk fun(x2:Nat)=>
 lw H x2 3 pRaw fun(x3:Value)=>
 k00 PP fq119 #[(.pointer x1),x3] H pUn fun(_:Unit) H5=>
 rk [] H5 R
theorem k4g.enter (c1:Nat) (c2:Nat) (H:Heap) (R:RR) (h:k4g.W c1 c2 H R):Fn PP fq120 #[(pq c1),(pq c2)] H R:=
 fnE Tryz.func120 (hz [(2,pPtr),(3,pBlk),(6,pRaw),(7,pUn)]) (by unfold k4g.W;kernel_rfl) h
def k4h.W (c1:Nat) (c2:Nat) (H:Heap) (R:RR):Prop:=
 lw H c1 0 pPtr fun(x1:OA)=>
 lw H c2 0 pBlk fun(x2:Nat)=>
 lw H x2 3 pSlc fun(x3:Sl)=>
 k00 PP fq64 #[(.pointer x1),(.slice x3.1 x3.2.1 x3.2.2)] H pUn fun(_:Unit) H5=>
 rk [] H5 R
theorem k4h.enter (c1:Nat) (c2:Nat) (H:Heap) (R:RR) (h:k4h.W c1 c2 H R):Fn PP fq121 #[(pq c1),(pq c2)] H R:=
 fnE Tryz.func121 (hz [(2,pPtr),(3,pBlk),(6,pSlc),(7,pUn)]) (by unfold k4h.W;kernel_rfl) h
def k5J.W (c1:Nat) (c2:Nat) (H:Heap) (R:RR):Prop:=
 lw H c1 0 pPtr fun(x1:OA)=>
 lw H c2 0 pBlk fun(x2:Nat)=>
 lw H x2 3 pPtr fun(x3:OA)=>
 k00 PP fq66 #[(.pointer x1),(.pointer x3)] H pUn fun(_:Unit) H5=>
 lw H5 c1 0 pPtr fun(x6:OA)=>
 lw H5 c2 0 pBlk fun(x7:Nat)=>
 lw H5 x7 4 pSlc fun(x8:Sl)=>
 k00 PP fq71 #[(.pointer x6),(.slice x8.1 x8.2.1 x8.2.2)] H5 pUn fun(_:Unit) H10=>
 lw H10 c1 0 pPtr fun(x11:OA)=>
 lw H10 c2 0 pBlk fun(x12:Nat)=>
 lw H10 x12 5 pRaw fun(x13:Value)=>
 k00 PP fq118 #[(.pointer x11),x13] H10 pUn fun(_:Unit) H15=>
 lw H15 c1 0 pPtr fun(x16:OA)=>
 lw H15 c2 0 pBlk fun(x17:Nat)=>
 lw H15 x17 6 pSlc fun(x18:Sl)=>
 k00 PP fq65 #[(.pointer x16),(.slice x18.1 x18.2.1 x18.2.2)] H15 pUn fun(_:Unit) H20=>
 rk [] H20 R
theorem k5J.enter (c1:Nat) (c2:Nat) (H:Heap) (R:RR) (h:k5J.W c1 c2 H R):Fn PP fq122 #[(pq c1),(pq c2)] H R:=
 fnE Tryz.func122 (hz [(2,pPtr),(3,pBlk),(6,pPtr),(7,pUn),(8,pPtr),(9,pBlk),(12,pSlc),(13,pUn),(14,pPtr),(15,pBlk),(18,pRaw),(19,pUn),(20,pPtr),(21,pBlk),(24,pSlc),(25,pUn)]) (by unfold k5J.W;kernel_rfl) h
def k5K.W (c1:Nat) (c2:Nat) (H:Heap) (R:RR):Prop:=
 lw H c1 0 pPtr fun(x1:OA)=>
 lw H c2 0 pBlk fun(x2:Nat)=>
 lw H x2 3 pPtr fun(x3:OA)=>
 k00 PP fq66 #[(.pointer x1),(.pointer x3)] H pUn fun(_:Unit) H5=>
 lw H5 c1 0 pPtr fun(x6:OA)=>
 lw H5 c2 0 pBlk fun(x7:Nat)=>
 lw H5 x7 4 pRaw fun(x8:Value)=>
 k00 PP fq118 #[(.pointer x6),x8] H5 pUn fun(_:Unit) H10=>
 lw H10 c2 0 pBlk fun(x11:Nat)=>
 lw H10 x11 5 pIf fun(_x12:(Nat×Nat))=>
 lw H10 c1 0 pPtr fun(x13:OA)=>
 lw H10 c2 0 pBlk fun(x14:Nat)=>
 lw H10 x14 5 pIf fun(x15:(Nat×Nat))=>
 k00 PP fq119 #[(.pointer x13),(.iface x15.1 (pq x15.2))] H10 pUn fun(_:Unit) H17=>
 lw H17 c1 0 pPtr fun(x18:OA)=>
 lw H17 c2 0 pBlk fun(x19:Nat)=>
 lw H17 x19 6 pSlc fun(x20:Sl)=>
 k00 PP fq65 #[(.pointer x18),(.slice x20.1 x20.2.1 x20.2.2)] H17 pUn fun(_:Unit) H22=>
 rk [] H22 R
theorem k5K.enter (c1:Nat) (c2:Nat) (H:Heap) (R:RR) (h:k5K.W c1 c2 H R):Fn PP fq123 #[(pq c1),(pq c2)] H R:=
 fnE Tryz.func123 (hz [(2,pPtr),(3,pBlk),(6,pPtr),(7,pUn),(8,pPtr),(9,pBlk),(12,pRaw),(13,pUn),(14,pBlk),(17,pIf),(19,pPtr),(20,pBlk),(23,pIf),(24,pUn),(25,pPtr),(26,pBlk),(29,pSlc),(30,pUn)]) (by unfold k5K.W;kernel_rfl) h
def k5L.W (c1:Nat) (c2:Nat) (H:Heap) (R:RR):Prop:=
 lw H c1 0 pPtr fun(x1:OA)=>
 lw H c2 0 pBlk fun(x2:Nat)=>
 lw H x2 3 pPtr fun(x3:OA)=>
 k00 PP fq66 #[(.pointer x1),(.pointer x3)] H pUn fun(_:Unit) H5=>
 lw H5 c1 0 pPtr fun(x6:OA)=>
 lw H5 c2 0 pBlk fun(x7:Nat)=>
 lw H5 x7 4 pRaw fun(x8:Value)=>
 k00 PP fq118 #[(.pointer x6),x8] H5 pUn fun(_:Unit) H10=>
 lw H10 c2 0 pBlk fun(x11:Nat)=>
 lw H10 x11 5 ⟨Unit,fun _=>nI⟩ fun(_x12:Unit)=>
 lw H10 c1 0 pPtr fun(x13:OA)=>
 lw H10 c2 0 pBlk fun(x14:Nat)=>
 lw H10 x14 6 pSlc fun(x15:Sl)=>
 k00 PP fq65 #[(.pointer x13),(.slice x15.1 x15.2.1 x15.2.2)] H10 pUn fun(_:Unit) H17=>
 rk [] H17 R
theorem k5L.enter (c1:Nat) (c2:Nat) (H:Heap) (R:RR) (h:k5L.W c1 c2 H R):Fn PP fq123 #[(pq c1),(pq c2)] H R:=
 fnE Tryz.func123 (hz [(2,pPtr),(3,pBlk),(6,pPtr),(7,pUn),(8,pPtr),(9,pBlk),(12,pRaw),(13,pUn),(14,pBlk),(17,⟨Unit,fun _=>nI⟩),(25,pPtr),(26,pBlk),(29,pSlc),(30,pUn)]) (by unfold k5L.W;kernel_rfl) h
def k65.W (c1:Nat) (c2:Nat) (H:Heap) (R:RR):Prop:=
 lw H c1 0 pPtr fun(x1:OA)=>
 lw H c2 0 pBlk fun(x2:Nat)=>
 lw H x2 3 pRaw fun(x3:Value)=>
 k00 PP fq118 #[(.pointer x1),x3] H pUn fun(_:Unit) H5=>
 lw H5 c2 0 pBlk fun(x6:Nat)=>
 lw H5 x6 4 pIf fun(_x7:(Nat×Nat))=>
 lw H5 c1 0 pPtr fun(x8:OA)=>
 lw H5 c2 0 pBlk fun(x9:Nat)=>
 lw H5 x9 4 pIf fun(x10:(Nat×Nat))=>
 k00 PP fq119 #[(.pointer x8),(.iface x10.1 (pq x10.2))] H5 pUn fun(_:Unit) H12=>
 rk [] H12 R
theorem k65.enter (c1:Nat) (c2:Nat) (H:Heap) (R:RR) (h:k65.W c1 c2 H R):Fn PP fq117 #[(pq c1),(pq c2)] H R:=
 fnE Tryz.func117 (hz [(2,pPtr),(3,pBlk),(6,pRaw),(7,pUn),(8,pBlk),(11,pIf),(13,pPtr),(14,pBlk),(17,pIf),(18,pUn)]) (by unfold k65.W;kernel_rfl) h
def k66.W (c1:Nat) (c2:Nat) (H:Heap) (R:RR):Prop:=
 lw H c1 0 pPtr fun(x1:OA)=>
 lw H c2 0 pBlk fun(x2:Nat)=>
 lw H x2 3 pRaw fun(x3:Value)=>
 k00 PP fq118 #[(.pointer x1),x3] H pUn fun(_:Unit) H5=>
 lw H5 c2 0 pBlk fun(x6:Nat)=>
 lw H5 x6 4 ⟨Unit,fun _=>nI⟩ fun(_x7:Unit)=>
 rk [] H5 R
theorem k66.enter (c1:Nat) (c2:Nat) (H:Heap) (R:RR) (h:k66.W c1 c2 H R):Fn PP fq117 #[(pq c1),(pq c2)] H R:=
 fnE Tryz.func117 (hz [(2,pPtr),(3,pBlk),(6,pRaw),(7,pUn),(8,pBlk),(11,⟨Unit,fun _=>nI⟩)]) (by unfold k66.W;kernel_rfl) h
def k5O.W (c1:Nat) (c2:Nat) (H:Heap) (R:RR):Prop:=
 lw H c1 0 pPtr fun(x1:OA)=>
 lw H c2 0 pBlk fun(x2:Nat)=>
 lw H x2 4 pSlc fun(x3:Sl)=>
 k00 PP fq64 #[(.pointer x1),(.slice x3.1 x3.2.1 x3.2.2)] H pUn fun(_:Unit) H5=>
 lw H5 c1 0 pPtr fun(x6:OA)=>
 lw H5 c2 0 pBlk fun(x7:Nat)=>
 lw H5 x7 5 pSlc fun(x8:Sl)=>
 k00 PP fq65 #[(.pointer x6),(.slice x8.1 x8.2.1 x8.2.2)] H5 pUn fun(_:Unit) H10=>
 lw H10 c1 0 pPtr fun(x11:OA)=>
 lw H10 c2 0 pBlk fun(x12:Nat)=>
 lw H10 x12 6 pPtr fun(x13:OA)=>
 k00 PP fq125 #[(.pointer x11),(.pointer x13)] H10 pUn fun(_:Unit) H15=>
 rk [] H15 R
theorem k5O.enter (c1:Nat) (c2:Nat) (H:Heap) (R:RR) (h:k5O.W c1 c2 H R):Fn PP fq124 #[(pq c1),(pq c2)] H R:=
 fnE Tryz.func124 (hz [(2,pPtr),(3,pBlk),(6,pSlc),(7,pUn),(8,pPtr),(9,pBlk),(12,pSlc),(13,pUn),(14,pPtr),(15,pBlk),(18,pPtr),(19,pUn)]) (by unfold k5O.W;kernel_rfl) h
def k5P.W (c1:Nat) (c2:Nat) (H:Heap) (R:RR):Prop:=
 lw H c1 0 pPtr fun(x1:OA)=>
 lw H c2 0 pBlk fun(x2:Nat)=>
 lw H x2 3 pSlc fun(x3:Sl)=>
 k00 PP fq65 #[(.pointer x1),(.slice x3.1 x3.2.1 x3.2.2)] H pUn fun(_:Unit) H5=>
 rk [] H5 R
theorem k5P.enter (c1:Nat) (c2:Nat) (H:Heap) (R:RR) (h:k5P.W c1 c2 H R):Fn PP fq126 #[(pq c1),(pq c2)] H R:=
 fnE Tryz.func126 (hz [(2,pPtr),(3,pBlk),(6,pSlc),(7,pUn)]) (by unfold k5P.W;kernel_rfl) h
def k5Q.W (c1:Nat) (c2:Nat) (H:Heap) (R:RR):Prop:=
 lw H c1 0 pPtr fun(x1:OA)=>
 lw H c2 0 pBlk fun(x2:Nat)=>
 lw H x2 3 pSlc fun(x3:Sl)=>
 k00 PP fq65 #[(.pointer x1),(.slice x3.1 x3.2.1 x3.2.2)] H pUn fun(_:Unit) H5=>
 lw H5 c1 0 pPtr fun(x6:OA)=>
 lw H5 c2 0 pBlk fun(x7:Nat)=>
 lw H5 x7 4 pPtr fun(x8:OA)=>
 k00 PP fq125 #[(.pointer x6),(.pointer x8)] H5 pUn fun(_:Unit) H10=>
 rk [] H10 R
theorem k5Q.enter (c1:Nat) (c2:Nat) (H:Heap) (R:RR) (h:k5Q.W c1 c2 H R):Fn PP fq127 #[(pq c1),(pq c2)] H R:=
 fnE Tryz.func127 (hz [(2,pPtr),(3,pBlk),(6,pSlc),(7,pUn),(8,pPtr),(9,pBlk),(12,pPtr),(13,pUn)]) (by unfold k5Q.W;kernel_rfl) h
def k5R.W (c1:Nat) (c2:Nat) (H:Heap) (R:RR):Prop:=
 lw H c1 0 pBlk fun(x1:Nat)=>
 lw H x1 2 pSlc fun(x2:Sl)=>
 k0e (Int×Unit) (0,()) H fun z3 H4 next5=>
 k02 (decide (z3.1<((x2.2.1:Nat):Int)))
 ((IxOk x2.1 z3.1 x2.2.1)∧
 k01 H4 false 1 ⟨(k0c x2.1),(k0b x2.1+z3.1.toNat*1),none⟩ pRaw fun(x6:Value)=>
 lw H4 c2 0 pPtr fun(x7:OA)=>
 k00 PP fq73 #[(.pointer x7),x6] H4 pUn fun(_:Unit) H9=>
 next5 ((IntKind.i64.wrap (z3.1+1)),()) H9)
 (rk [] H4 R)
theorem k5R.enter (c1:Nat) (c2:Nat) (H:Heap) (R:RR) (h:k5R.W c1 c2 H R):Fn PP fq184 #[(pq c1),(pq c2)] H R:=
 fnE Tryz.func184 ⟨patL [(4,pBlk),(7,pSlc),(12,pRaw),(13,pPtr),(15,pUn)],k06 [(0,[Slot.int .i64 9])],k03 [],k03 [],k05 []⟩ (by unfold k5R.W;kernel_rfl) h
def k5S.W (c1:Nat) (c2:Nat) (H:Heap) (R:RR):Prop:=
 lw H c1 0 pPtr fun(x1:OA)=>
 lw H c2 0 pBlk fun(x2:Nat)=>
 lw H x2 2 pSlc fun(x3:Sl)=>
 k00 PP fq65 #[(.pointer x1),(.slice x3.1 x3.2.1 x3.2.2)] H pUn fun(_:Unit) H5=>
 lw H5 c2 0 pBlk fun(x6:Nat)=>
 lw H5 x6 3 pSlc fun(x7:Sl)=>
 k0e (Int×Unit) (0,()) H5 fun z8 H9 next10=>
 k02 (decide (z8.1<((x7.2.1:Nat):Int)))
 ((IxOk x7.1 z8.1 x7.2.1)∧
 k01 H9 false 1 ⟨(k0c x7.1),(k0b x7.1+z8.1.toNat*1),none⟩ pBlk fun(x11:Nat)=>
 lw H9 c1 0 pPtr fun(x12:OA)=>
 lw H9 x11 1 pPtr fun(x13:OA)=>
 lw H9 x11 2 pStr fun(x14:BA)=>
 lw H9 x11 3 pPtr fun(x15:OA)=>
 k00 PP fq68 #[(.pointer x15)] H9 pStr fun(x16:BA) H17=>
 lc H17 x11 2 (.string x14)∧
 lc H17 x11 1 (.pointer x13)∧
 lc H17 c1 0 (.pointer x12)∧
 k00 PP fq67 #[(.pointer x12),(.pointer x13),(.agg #[(.int .i64 25),(.string x16),sE,(.string x14),(.int .i64 0),(.int .i64 0)]),.nilFunc] H17 pUn fun(_:Unit) H19=>
 next10 ((IntKind.i64.wrap (z8.1+1)),()) H19)
 (rk [] H9 R)
theorem k5S.enter (c1:Nat) (c2:Nat) (H:Heap) (R:RR) (h:k5S.W c1 c2 H R):Fn PP fq185 #[(pq c1),(pq c2)] H R:=
 fnE Tryz.func185 ⟨patL [(4,pPtr),(5,pBlk),(8,pSlc),(9,pUn),(10,pBlk),(13,pSlc),(18,pBlk),(19,pPtr),(23,pPtr),(27,pStr),(31,pPtr),(32,pStr),(34,pUn)],k06 [(0,[Slot.int .i64 15])],k03 [],k03 [],k05 []⟩ (by unfold k5S.W;kernel_rfl) h
def k4i.W (c1:Nat) (c2:Nat) (H:Heap) (R:RR):Prop:=
 lw H c1 0 pPtr fun(x1:OA)=>
 lw H c2 0 pBlk fun(x2:Nat)=>
 lw H x2 2 pPtr fun(x3:OA)=>
 k00 PP fq66 #[(.pointer x1),(.pointer x3)] H pUn fun(_:Unit) H5=>
 lw H5 c1 0 pPtr fun(x6:OA)=>
 lw H5 c2 0 pBlk fun(x7:Nat)=>
 lw H5 x7 4 pSlc fun(x8:Sl)=>
 k00 PP fq65 #[(.pointer x6),(.slice x8.1 x8.2.1 x8.2.2)] H5 pUn fun(_:Unit) H10=>
 rk [] H10 R
theorem k4i.enter (c1:Nat) (c2:Nat) (H:Heap) (R:RR) (h:k4i.W c1 c2 H R):Fn PP fq186 #[(pq c1),(pq c2)] H R:=
 fnE Tryz.func186 (hz [(2,pPtr),(3,pBlk),(6,pPtr),(7,pUn),(8,pPtr),(9,pBlk),(12,pSlc),(13,pUn)]) (by unfold k4i.W;kernel_rfl) h
def k5T.W (c1:Nat) (c2:Nat) (H:Heap) (R:RR):Prop:=
 lw H c1 0 pPtr fun(x1:OA)=>
 lw H c2 0 pBlk fun(x2:Nat)=>
 lw H x2 3 pPtr fun(x3:OA)=>
 k00 PP fq66 #[(.pointer x1),(.pointer x3)] H pUn fun(_:Unit) H5=>
 lw H5 c1 0 pPtr fun(x6:OA)=>
 lw H5 c2 0 pBlk fun(x7:Nat)=>
 lw H5 x7 4 pSlc fun(x8:Sl)=>
 k00 PP fq65 #[(.pointer x6),(.slice x8.1 x8.2.1 x8.2.2)] H5 pUn fun(_:Unit) H10=>
 lw H10 c1 0 pPtr fun(x11:OA)=>
 lw H10 c2 0 pBlk fun(x12:Nat)=>
 lw H10 x12 5 pSlc fun(x13:Sl)=>
 k00 PP fq70 #[(.pointer x11),(.slice x13.1 x13.2.1 x13.2.2)] H10 pUn fun(_:Unit) H15=>
 rk [] H15 R
theorem k5T.enter (c1:Nat) (c2:Nat) (H:Heap) (R:RR) (h:k5T.W c1 c2 H R):Fn PP fq188 #[(pq c1),(pq c2)] H R:=
 fnE Tryz.func188 (hz [(2,pPtr),(3,pBlk),(6,pPtr),(7,pUn),(8,pPtr),(9,pBlk),(12,pSlc),(13,pUn),(14,pPtr),(15,pBlk),(18,pSlc),(19,pUn)]) (by unfold k5T.W;kernel_rfl) h
def k5U.W (c1:Nat) (c2:Nat) (H:Heap) (R:RR):Prop:=
 lw H c1 0 pPtr fun(x1:OA)=>
 lw H c2 0 pBlk fun(x2:Nat)=>
 lw H x2 3 pPtr fun(x3:OA)=>
 k00 PP fq66 #[(.pointer x1),(.pointer x3)] H pUn fun(_:Unit) H5=>
 lw H5 c1 0 pPtr fun(x6:OA)=>
 lw H5 c2 0 pBlk fun(x7:Nat)=>
 lw H5 x7 4 pSlc fun(x8:Sl)=>
 k00 PP fq65 #[(.pointer x6),(.slice x8.1 x8.2.1 x8.2.2)] H5 pUn fun(_:Unit) H10=>
 lw H10 c2 0 pBlk fun(x11:Nat)=>
 lw H10 x11 5 pSlc fun(x12:Sl)=>
 k0e (Int×Unit) (0,()) H10 fun z13 H14 next15=>
 k02 (decide (z13.1<((x12.2.1:Nat):Int)))
 ((IxOk x12.1 z13.1 x12.2.1)∧
 k01 H14 false 1 ⟨(k0c x12.1),(k0b x12.1+z13.1.toNat*1),none⟩ pBlk fun(x16:Nat)=>
 lw H14 c1 0 pPtr fun(x17:OA)=>
 lw H14 x16 1 pPtr fun(x18:OA)=>
 k00 PP fq68 #[(pq x16)] H14 pStr fun(x19:BA) H20=>
 lc H20 x16 1 (.pointer x18)∧
 lc H20 c1 0 (.pointer x17)∧
 k00 PP fq67 #[(.pointer x17),(.pointer x18),(.agg #[(.int .i64 33),(.string x19),sE,sE,(.int .i64 0),(.int .i64 0)]),.nilFunc] H20 pUn fun(_:Unit) H22=>
 next15 ((IntKind.i64.wrap (z13.1+1)),()) H22)
 (rk [] H14 R)
theorem k5U.enter (c1:Nat) (c2:Nat) (H:Heap) (R:RR) (h:k5U.W c1 c2 H R):Fn PP fq189 #[(pq c1),(pq c2)] H R:=
 fnE Tryz.func189 ⟨patL [(4,pPtr),(5,pBlk),(8,pPtr),(9,pUn),(10,pPtr),(11,pBlk),(14,pSlc),(15,pUn),(16,pBlk),(19,pSlc),(24,pBlk),(25,pPtr),(29,pPtr),(31,pStr),(33,pUn)],k06 [(0,[Slot.int .i64 21])],k03 [],k03 [],k05 []⟩ (by unfold k5U.W;kernel_rfl) h
def k5V.W (c1:Nat) (c2:Nat) (H:Heap) (R:RR):Prop:=
 lw H c1 0 pPtr fun(x1:OA)=>
 lw H c2 0 pBlk fun(x2:Nat)=>
 lw H x2 3 pPtr fun(x3:OA)=>
 k00 PP fq66 #[(.pointer x1),(.pointer x3)] H pUn fun(_:Unit) H5=>
 lw H5 c1 0 pPtr fun(x6:OA)=>
 lw H5 c2 0 pBlk fun(x7:Nat)=>
 lw H5 x7 4 pSlc fun(x8:Sl)=>
 k00 PP fq65 #[(.pointer x6),(.slice x8.1 x8.2.1 x8.2.2)] H5 pUn fun(_:Unit) H10=>
 lw H10 c2 0 pBlk fun(x11:Nat)=>
 lw H10 x11 5 pSlc fun(x12:Sl)=>
 k0e (Int×Unit) (0,()) H10 fun z13 H14 next15=>
 k02 (decide (z13.1<((x12.2.1:Nat):Int)))
 ((IxOk x12.1 z13.1 x12.2.1)∧
 k01 H14 false 1 ⟨(k0c x12.1),(k0b x12.1+z13.1.toNat*1),none⟩ pBlk fun(x16:Nat)=>
 newB H14 (.cells #[(.pointer none)] tq123) fun b17 H18=>
 k08 H18 ⟨b17,0,none⟩ [(pq x16)] fun H19=>
 lw H19 c1 0 pPtr fun(x20:OA)=>
 lw H19 b17 0 pBlk fun(x21:Nat)=>
 lw H19 x21 1 pPtr fun(x22:OA)=>
 lw H19 b17 0 pBlk fun(x23:Nat)=>
 lw H19 x23 2 pPtr fun(x24:OA)=>
 k00 PP fq69 #[(.pointer x24)] H19 pStr fun(x25:BA) H26=>
 lc H26 x21 1 (.pointer x22)∧
 lc H26 b17 0 (pq x21)∧
 lc H26 c1 0 (.pointer x20)∧
 k00 PP fq67 #[(.pointer x20),(.pointer x22),(.agg #[(.int .i64 35),(.string x25),sE,sE,(.int .i64 0),(.int .i64 0)]),(.func (.func fq191) #[] #[(pq c1),(pq b17)])] H26 pUn fun(_:Unit) H28=>
 lc H28 b17 0 (pq x23)∧
 next15 ((IntKind.i64.wrap (z13.1+1)),()) H28)
 (rk [] H14 R)
theorem k5V.enter (c1:Nat) (c2:Nat) (H:Heap) (R:RR) (h:k5V.W c1 c2 H R):Fn PP fq190 #[(pq c1),(pq c2)] H R:=
 fnE Tryz.func190 ⟨patL [(4,pPtr),(5,pBlk),(8,pPtr),(9,pUn),(10,pPtr),(11,pBlk),(14,pSlc),(15,pUn),(16,pBlk),(19,pSlc),(24,pBlk),(25,pPtr),(26,pBlk),(29,pPtr),(30,pBlk),(33,pPtr),(34,pStr),(37,pUn)],k06 [(0,[Slot.int .i64 21])],k03 [],k03 [],k05 []⟩ (by unfold k5V.W;kernel_rfl) h
def k5W.W (c1:Nat) (c2:Nat) (H:Heap) (R:RR):Prop:=
 lw H c1 0 pPtr fun(x1:OA)=>
 lw H c2 0 pBlk fun(x2:Nat)=>
 lw H x2 3 pPtr fun(x3:OA)=>
 k00 PP fq66 #[(.pointer x1),(.pointer x3)] H pUn fun(_:Unit) H5=>
 lw H5 c1 0 pPtr fun(x6:OA)=>
 lw H5 c2 0 pBlk fun(x7:Nat)=>
 lw H5 x7 4 pSlc fun(x8:Sl)=>
 k00 PP fq65 #[(.pointer x6),(.slice x8.1 x8.2.1 x8.2.2)] H5 pUn fun(_:Unit) H10=>
 rk [] H10 R
theorem k5W.enter (c1:Nat) (c2:Nat) (H:Heap) (R:RR) (h:k5W.W c1 c2 H R):Fn PP fq191 #[(pq c1),(pq c2)] H R:=
 fnE Tryz.func191 (hz [(2,pPtr),(3,pBlk),(6,pPtr),(7,pUn),(8,pPtr),(9,pBlk),(12,pSlc),(13,pUn)]) (by unfold k5W.W;kernel_rfl) h
def k5X.W (c1:Nat) (c2:Nat) (H:Heap) (R:RR):Prop:=
 lw H c1 0 pPtr fun(x1:OA)=>
 lw H c2 0 pBlk fun(x2:Nat)=>
 lw H x2 3 pPtr fun(x3:OA)=>
 k00 PP fq66 #[(.pointer x1),(.pointer x3)] H pUn fun(_:Unit) H5=>
 lw H5 c1 0 pPtr fun(x6:OA)=>
 lw H5 c2 0 pBlk fun(x7:Nat)=>
 lw H5 x7 4 pSlc fun(x8:Sl)=>
 k00 PP fq65 #[(.pointer x6),(.slice x8.1 x8.2.1 x8.2.2)] H5 pUn fun(_:Unit) H10=>
 lw H10 c1 0 pPtr fun(x11:OA)=>
 lw H10 c2 0 pBlk fun(x12:Nat)=>
 lw H10 x12 5 pSlc fun(x13:Sl)=>
 k00 PP fq71 #[(.pointer x11),(.slice x13.1 x13.2.1 x13.2.2)] H10 pUn fun(_:Unit) H15=>
 rk [] H15 R
theorem k5X.enter (c1:Nat) (c2:Nat) (H:Heap) (R:RR) (h:k5X.W c1 c2 H R):Fn PP fq192 #[(pq c1),(pq c2)] H R:=
 fnE Tryz.func192 (hz [(2,pPtr),(3,pBlk),(6,pPtr),(7,pUn),(8,pPtr),(9,pBlk),(12,pSlc),(13,pUn),(14,pPtr),(15,pBlk),(18,pSlc),(19,pUn)]) (by unfold k5X.W;kernel_rfl) h
def k5Y.W (c1:Nat) (c2:Nat) (H:Heap) (R:RR):Prop:=
 lw H c1 0 pPtr fun(x1:OA)=>
 lw H c2 0 pBlk fun(x2:Nat)=>
 lw H x2 3 pPtr fun(x3:OA)=>
 k00 PP fq66 #[(.pointer x1),(.pointer x3)] H pUn fun(_:Unit) H5=>
 lw H5 c1 0 pPtr fun(x6:OA)=>
 lw H5 c2 0 pBlk fun(x7:Nat)=>
 lw H5 x7 4 pSlc fun(x8:Sl)=>
 k00 PP fq71 #[(.pointer x6),(.slice x8.1 x8.2.1 x8.2.2)] H5 pUn fun(_:Unit) H10=>
 lw H10 c2 0 pBlk fun(x11:Nat)=>
 lw H10 x11 5 pSlc fun(x12:Sl)=>
 k0e (Int×Unit) (0,()) H10 fun z13 H14 next15=>
 k02 (decide (z13.1<((x12.2.1:Nat):Int)))
 ((IxOk x12.1 z13.1 x12.2.1)∧
 k01 H14 false 1 ⟨(k0c x12.1),(k0b x12.1+z13.1.toNat*1),none⟩ pBlk fun(x16:Nat)=>
 lw H14 c1 0 pPtr fun(x17:OA)=>
 lw H14 x16 1 pPtr fun(x18:OA)=>
 k00 PP fq69 #[(pq x16)] H14 pStr fun(x19:BA) H20=>
 lc H20 x16 1 (.pointer x18)∧
 lc H20 c1 0 (.pointer x17)∧
 k00 PP fq67 #[(.pointer x17),(.pointer x18),(.agg #[(.int .i64 38),(.string x19),sE,sE,(.int .i64 0),(.int .i64 0)]),.nilFunc] H20 pUn fun(_:Unit) H22=>
 next15 ((IntKind.i64.wrap (z13.1+1)),()) H22)
 (rk [] H14 R)
theorem k5Y.enter (c1:Nat) (c2:Nat) (H:Heap) (R:RR) (h:k5Y.W c1 c2 H R):Fn PP fq193 #[(pq c1),(pq c2)] H R:=
 fnE Tryz.func193 ⟨patL [(4,pPtr),(5,pBlk),(8,pPtr),(9,pUn),(10,pPtr),(11,pBlk),(14,pSlc),(15,pUn),(16,pBlk),(19,pSlc),(24,pBlk),(25,pPtr),(29,pPtr),(31,pStr),(33,pUn)],k06 [(0,[Slot.int .i64 21])],k03 [],k03 [],k05 []⟩ (by unfold k5Y.W;kernel_rfl) h
def k5Z.W (c1:Nat) (c2:Nat) (H:Heap) (R:RR):Prop:=
 lw H c1 0 pPtr fun(x1:OA)=>
 lw H c2 0 pBlk fun(x2:Nat)=>
 lw H x2 2 pPtr fun(x3:OA)=>
 k00 PP fq187 #[(.pointer x1),(.pointer x3)] H pUn fun(_:Unit) H5=>
 rk [] H5 R
theorem k5Z.enter (c1:Nat) (c2:Nat) (H:Heap) (R:RR) (h:k5Z.W c1 c2 H R):Fn PP fq194 #[(pq c1),(pq c2)] H R:=
 fnE Tryz.func194 (hz [(2,pPtr),(3,pBlk),(6,pPtr),(7,pUn)]) (by unfold k5Z.W;kernel_rfl) h
def k5M.W (c1:Nat) (c2:Nat) (H:Heap) (R:RR):Prop:=
 lw H c1 0 pPtr fun(x1:OA)=>
 lw H c2 0 pBlk fun(x2:Nat)=>
 lw H x2 3 pPtr fun(x3:OA)=>
 k00 PP fq66 #[(.pointer x1),(.pointer x3)] H pUn fun(_:Unit) H5=>
 lw H5 c2 0 pBlk fun(x6:Nat)=>
 lw H5 x6 4 pSlc fun(x7:Sl)=>
 k0e (Int×Unit) (0,()) H5 fun z8 H9 next10=>
 k02 (decide (z8.1<((x7.2.1:Nat):Int)))
 ((IxOk x7.1 z8.1 x7.2.1)∧
 k01 H9 false 1 ⟨(k0c x7.1),(k0b x7.1+z8.1.toNat*1),none⟩ pBlk fun(x11:Nat)=>
 lw H9 c1 0 pPtr fun(x12:OA)=>
 lw H9 x11 1 pPtr fun(x13:OA)=>
 k00 PP fq68 #[(pq x11)] H9 pStr fun(x14:BA) H15=>
 lc H15 x11 1 (.pointer x13)∧
 lc H15 c1 0 (.pointer x12)∧
 k00 PP fq67 #[(.pointer x12),(.pointer x13),(.agg #[(.int .i64 28),(.string x14),sE,sE,(.int .i64 0),(.int .i64 0)]),.nilFunc] H15 pUn fun(_:Unit) H17=>
 next10 ((IntKind.i64.wrap (z8.1+1)),()) H17)
 (lw H9 c1 0 pPtr fun(x18:OA)=>
 lw H9 c2 0 pBlk fun(x19:Nat)=>
 lw H9 x19 5 pSlc fun(x20:Sl)=>
 k00 PP fq65 #[(.pointer x18),(.slice x20.1 x20.2.1 x20.2.2)] H9 pUn fun(_:Unit) H22=>
 lw H22 c1 0 pPtr fun(x23:OA)=>
 lw H22 c2 0 pBlk fun(x24:Nat)=>
 lw H22 x24 6 pSlc fun(x25:Sl)=>
 k00 PP fq70 #[(.pointer x23),(.slice x25.1 x25.2.1 x25.2.2)] H22 pUn fun(_:Unit) H27=>
 rk [] H27 R)
theorem k5M.enter (c1:Nat) (c2:Nat) (H:Heap) (R:RR) (h:k5M.W c1 c2 H R):Fn PP fq216 #[(pq c1),(pq c2)] H R:=
 fnE Tryz.func216 ⟨patL [(4,pPtr),(5,pBlk),(8,pPtr),(9,pUn),(10,pBlk),(13,pSlc),(18,pBlk),(19,pPtr),(23,pPtr),(25,pStr),(27,pUn),(29,pPtr),(30,pBlk),(33,pSlc),(34,pUn),(35,pPtr),(36,pBlk),(39,pSlc),(40,pUn)],k06 [(0,[Slot.int .i64 15])],k03 [],k03 [],k05 []⟩ (by unfold k5M.W;kernel_rfl) h
def k62.W (c1:Nat) (c2:Nat) (H:Heap) (R:RR):Prop:=
 lw H c1 0 pBlk fun(x1:Nat)=>
 lw H x1 2 pSlc fun(x2:Sl)=>
 k0e (Int×Unit) (0,()) H fun z3 H4 next5=>
 k02 (decide (z3.1<((x2.2.1:Nat):Int)))
 ((IxOk x2.1 z3.1 x2.2.1)∧
 k01 H4 false 1 ⟨(k0c x2.1),(k0b x2.1+z3.1.toNat*1),none⟩ pRaw fun(x6:Value)=>
 lw H4 c2 0 pPtr fun(x7:OA)=>
 k00 PP fq119 #[(.pointer x7),x6] H4 pUn fun(_:Unit) H9=>
 next5 ((IntKind.i64.wrap (z3.1+1)),()) H9)
 (rk [] H4 R)
theorem k62.enter (c1:Nat) (c2:Nat) (H:Heap) (R:RR) (h:k62.W c1 c2 H R):Fn PP fq181 #[(pq c1),(pq c2)] H R:=
 fnE Tryz.func181 ⟨patL [(4,pBlk),(7,pSlc),(12,pRaw),(13,pPtr),(15,pUn)],k06 [(0,[Slot.int .i64 9])],k03 [],k03 [],k05 []⟩ (by unfold k62.W;kernel_rfl) h
def k63.W (c1:Nat) (c2:Nat) (H:Heap) (R:RR):Prop:=
 lw H c1 0 pBlk fun(x1:Nat)=>
 lw H x1 2 pSlc fun(x2:Sl)=>
 k0e (Int×Unit) (0,()) H fun z3 H4 next5=>
 k02 (decide (z3.1<((x2.2.1:Nat):Int)))
 ((IxOk x2.1 z3.1 x2.2.1)∧
 k01 H4 false 1 ⟨(k0c x2.1),(k0b x2.1+z3.1.toNat*1),none⟩ pBlk fun(x6:Nat)=>
 newB H4 (.cells #[(.pointer none)] tq317) fun b7 H8=>
 k08 H8 ⟨b7,0,none⟩ [(pq x6)] fun H9=>
 lw H9 c2 0 pPtr fun(x10:OA)=>
 lw H9 b7 0 pBlk fun(x11:Nat)=>
 lw H9 x11 2 pPtr fun(x12:OA)=>
 lw H9 b7 0 pBlk fun(x13:Nat)=>
 lw H9 x13 1 pPtr fun(x14:OA)=>
 k00 PP fq69 #[(.pointer x14)] H9 pStr fun(x15:BA) H16=>
 lc H16 x11 2 (.pointer x12)∧
 lc H16 b7 0 (pq x11)∧
 lc H16 c2 0 (.pointer x10)∧
 k00 PP fq67 #[(.pointer x10),(.pointer x12),(.agg #[(.int .i64 19),(.string x15),sE,sE,(.int .i64 0),(.int .i64 0)]),(.func (.func fq183) #[] #[(pq c2),(pq b7)])] H16 pUn fun(_:Unit) H18=>
 lc H18 b7 0 (pq x13)∧
 next5 ((IntKind.i64.wrap (z3.1+1)),()) H18)
 (rk [] H4 R)
theorem k63.enter (c1:Nat) (c2:Nat) (H:Heap) (R:RR) (h:k63.W c1 c2 H R):Fn PP fq182 #[(pq c1),(pq c2)] H R:=
 fnE Tryz.func182 ⟨patL [(4,pBlk),(7,pSlc),(12,pBlk),(13,pPtr),(14,pBlk),(17,pPtr),(18,pBlk),(21,pPtr),(22,pStr),(25,pUn)],k06 [(0,[Slot.int .i64 9])],k03 [],k03 [],k05 []⟩ (by unfold k63.W;kernel_rfl) h
def k64.W (c1:Nat) (c2:Nat) (H:Heap) (R:RR):Prop:=
 lw H c1 0 pPtr fun(x1:OA)=>
 lw H c2 0 pBlk fun(x2:Nat)=>
 lw H x2 3 pRaw fun(x3:Value)=>
 k00 PP fq119 #[(.pointer x1),x3] H pUn fun(_:Unit) H5=>
 rk [] H5 R
theorem k64.enter (c1:Nat) (c2:Nat) (H:Heap) (R:RR) (h:k64.W c1 c2 H R):Fn PP fq183 #[(pq c1),(pq c2)] H R:=
 fnE Tryz.func183 (hz [(2,pPtr),(3,pBlk),(6,pRaw),(7,pUn)]) (by unfold k64.W;kernel_rfl) h
def k60.W (c1:Nat) (c2:Nat) (H:Heap) (R:RR):Prop:=
 lw H c1 0 pPtr fun(x1:OA)=>
 lw H c2 0 pBlk fun(x2:Nat)=>
 lw H x2 2 pRaw fun(x3:Value)=>
 k00 PP fq118 #[(.pointer x1),x3] H pUn fun(_:Unit) H5=>
 rk [] H5 R
theorem k60.enter (c1:Nat) (c2:Nat) (H:Heap) (R:RR) (h:k60.W c1 c2 H R):Fn PP fq179 #[(pq c1),(pq c2)] H R:=
 fnE Tryz.func179 (hz [(2,pPtr),(3,pBlk),(6,pRaw),(7,pUn)]) (by unfold k60.W;kernel_rfl) h
def k61.W (c1:Nat) (c2:Nat) (H:Heap) (R:RR):Prop:=
 lw H c1 0 pPtr fun(x1:OA)=>
 lw H c2 0 pBlk fun(x2:Nat)=>
 lw H x2 2 pRaw fun(x3:Value)=>
 k00 PP fq118 #[(.pointer x1),x3] H pUn fun(_:Unit) H5=>
 rk [] H5 R
theorem k61.enter (c1:Nat) (c2:Nat) (H:Heap) (R:RR) (h:k61.W c1 c2 H R):Fn PP fq180 #[(pq c1),(pq c2)] H R:=
 fnE Tryz.func180 (hz [(2,pPtr),(3,pBlk),(6,pRaw),(7,pUn)]) (by unfold k61.W;kernel_rfl) h
def k5H.W (c1:Nat) (c2:Nat) (H:Heap) (R:RR):Prop:=
 lw H c1 0 pPtr fun(x1:OA)=>
 lw H c2 0 pBlk fun(x2:Nat)=>
 lw H x2 4 pSlc fun(x3:Sl)=>
 k00 PP fq63 #[(.pointer x1),(.slice x3.1 x3.2.1 x3.2.2)] H pUn fun(_:Unit) H5=>
 lw H5 c1 0 pPtr fun(x6:OA)=>
 lw H5 c2 0 pBlk fun(x7:Nat)=>
 lw H5 x7 5 pSlc fun(x8:Sl)=>
 k00 PP fq65 #[(.pointer x6),(.slice x8.1 x8.2.1 x8.2.2)] H5 pUn fun(_:Unit) H10=>
 lw H10 c1 0 pPtr fun(x11:OA)=>
 lw H10 c2 0 pBlk fun(x12:Nat)=>
 lw H10 x12 6 pPtr fun(x13:OA)=>
 k00 PP fq125 #[(.pointer x11),(.pointer x13)] H10 pUn fun(_:Unit) H15=>
 rk [] H15 R
theorem k5H.enter (c1:Nat) (c2:Nat) (H:Heap) (R:RR) (h:k5H.W c1 c2 H R):Fn PP fq128 #[(pq c1),(pq c2)] H R:=
 fnE Tryz.func128 (hz [(2,pPtr),(3,pBlk),(6,pSlc),(7,pUn),(8,pPtr),(9,pBlk),(12,pSlc),(13,pUn),(14,pPtr),(15,pBlk),(18,pPtr),(19,pUn)]) (by unfold k5H.W;kernel_rfl) h
def k5I.W (c1:Nat) (c2:Nat) (H:Heap) (R:RR):Prop:=
 lw H c1 0 pPtr fun(x1:OA)=>
 lw H c2 0 pBlk fun(x2:Nat)=>
 lw H x2 6 pSlc fun(x3:Sl)=>
 k00 PP fq65 #[(.pointer x1),(.slice x3.1 x3.2.1 x3.2.2)] H pUn fun(_:Unit) H5=>
 lw H5 c1 0 pPtr fun(x6:OA)=>
 lw H5 c2 0 pBlk fun(x7:Nat)=>
 lw H5 x7 7 pPtr fun(x8:OA)=>
 k00 PP fq125 #[(.pointer x6),(.pointer x8)] H5 pUn fun(_:Unit) H10=>
 rk [] H10 R
theorem k5I.enter (c1:Nat) (c2:Nat) (H:Heap) (R:RR) (h:k5I.W c1 c2 H R):Fn PP fq129 #[(pq c1),(pq c2)] H R:=
 fnE Tryz.func129 (hz [(2,pPtr),(3,pBlk),(6,pSlc),(7,pUn),(8,pPtr),(9,pBlk),(12,pPtr),(13,pUn)]) (by unfold k5I.W;kernel_rfl) h
def k5C.W (t:Nat) (s:Nat) (H:Heap) (R:RR):Prop:=
 lw H s 1 pPtr fun(x1:OA)=>
 lw H s 2 pStr fun(x2:BA)=>
 k00 PP fq67 #[(pq t),(.pointer x1),(.agg #[(.int .i64 23),sE,sE,(.string x2),(.int .i64 0),(.int .i64 0)]),.nilFunc] H pUn fun(_:Unit) H4=>
 rk [] H4 R
theorem k5C.enter (t:Nat) (s:Nat) (H:Heap) (R:RR) (h:k5C.W t s H R):Fn PP fq66 #[(pq t),(pq s)] H R:=
 fnE Tryz.func66 (hz [(10,pPtr),(14,pStr),(16,pUn)]) (by unfold k5C.W;kernel_rfl) h
def k49.W (_t:Nat) (H:Heap) (R:RR):Prop:=
 rk [] H R
theorem k49.enter (t:Nat) (H:Heap) (R:RR) (h:k49.W t H R):Fn PP fq66 #[(pq t),(.pointer none)] H R:=
 fnE Tryz.func66 (hz []) (by unfold k49.W;kernel_rfl) h
def k4D.W (t:Nat) (l:OA) (lN _lC:Nat) (H:Heap) (R:RR):Prop:=
 newB H (.cells #[(pq t)] tq60) fun b1 H2=>
 k0e (Int×Unit) (0,()) H2 fun z3 H4 next5=>
 k02 (decide (z3.1<((lN:Nat):Int)))
 ((IxOk l z3.1 lN)∧
 k01 H4 false 1 ⟨(k0c l),(k0b l+z3.1.toNat*1),none⟩ pBlk fun(x6:Nat)=>
 newB H4 (.cells #[(.pointer none)] tq96) fun b7 H8=>
 k08 H8 ⟨b7,0,none⟩ [(pq x6)] fun H9=>
 lw H9 b1 0 pPtr fun(x10:OA)=>
 lw H9 b7 0 pBlk fun(x11:Nat)=>
 lw H9 x11 1 pPtr fun(x12:OA)=>
 lw H9 b7 0 pBlk fun(x13:Nat)=>
 lw H9 x13 2 pPtr fun(x14:OA)=>
 k00 PP fq69 #[(.pointer x14)] H9 pStr fun(x15:BA) H16=>
 lc H16 x11 1 (.pointer x12)∧
 lc H16 b7 0 (pq x11)∧
 lc H16 b1 0 (.pointer x10)∧
 k00 PP fq67 #[(.pointer x10),(.pointer x12),(.agg #[(.int .i64 9),(.string x15),sE,sE,(.int .i64 0),(.int .i64 0)]),(.func (.func fq120) #[] #[(pq b1),(pq b7)])] H16 pUn fun(_:Unit) H18=>
 lc H18 b7 0 (pq x13)∧
 next5 ((IntKind.i64.wrap (z3.1+1)),()) H18)
 (rk [] H4 R)
theorem k4D.enter (t:Nat) (l:OA) (lN lC:Nat) (H:Heap) (R:RR) (h:k4D.W t l lN lC H R):Fn PP fq64 #[(pq t),(.slice l lN lC)] H R:=
 fnE Tryz.func64 ⟨patL [(11,pBlk),(12,pPtr),(13,pBlk),(16,pPtr),(17,pBlk),(20,pPtr),(21,pStr),(24,pUn)],k06 [(0,[Slot.int .i64 8])],k03 [],k03 [],k05 []⟩ (by unfold k4D.W;kernel_rfl) h
def k3F.W (t:Nat) (l:OA) (lN _lC:Nat) (H:Heap) (R:RR):Prop:=
 newB H (.cells #[(pq t)] tq60) fun b1 H2=>
 k0e (Int×Unit) (0,()) H2 fun z3 H4 next5=>
 k02 (decide (z3.1<((lN:Nat):Int)))
 ((IxOk l z3.1 lN)∧
 k01 H4 false 1 ⟨(k0c l),(k0b l+z3.1.toNat*1),none⟩ pBlk fun(x6:Nat)=>
 newB H4 (.cells #[(.pointer none)] tq99) fun b7 H8=>
 k08 H8 ⟨b7,0,none⟩ [(pq x6)] fun H9=>
 lw H9 b1 0 pPtr fun(x10:OA)=>
 lw H9 b7 0 pBlk fun(x11:Nat)=>
 lw H9 x11 1 pPtr fun(x12:OA)=>
 lw H9 b7 0 pBlk fun(x13:Nat)=>
 lw H9 x13 2 pPtr fun(x14:OA)=>
 k00 PP fq69 #[(.pointer x14)] H9 pStr fun(x15:BA) H16=>
 lc H16 x11 1 (.pointer x12)∧
 lc H16 b7 0 (pq x11)∧
 lc H16 b1 0 (.pointer x10)∧
 k00 PP fq67 #[(.pointer x10),(.pointer x12),(.agg #[(.int .i64 10),(.string x15),sE,sE,(.int .i64 0),(.int .i64 0)]),(.func (.func fq121) #[] #[(pq b1),(pq b7)])] H16 pUn fun(_:Unit) H18=>
 lc H18 b7 0 (pq x13)∧
 next5 ((IntKind.i64.wrap (z3.1+1)),()) H18)
 (rk [] H4 R)
theorem k3F.enter (t:Nat) (l:OA) (lN lC:Nat) (H:Heap) (R:RR) (h:k3F.W t l lN lC H R):Fn PP fq65 #[(pq t),(.slice l lN lC)] H R:=
 fnE Tryz.func65 ⟨patL [(11,pBlk),(12,pPtr),(13,pBlk),(16,pPtr),(17,pBlk),(20,pPtr),(21,pStr),(24,pUn)],k06 [(0,[Slot.int .i64 8])],k03 [],k03 [],k05 []⟩ (by unfold k3F.W;kernel_rfl) h
def k7w.W (t:Nat) (l:OA) (lN _lC:Nat) (H:Heap) (R:RR):Prop:=
 newB H (.cells #[(pq t)] tq60) fun b1 H2=>
 k0e (Int×Unit) (0,()) H2 fun z3 H4 next5=>
 k02 (decide (z3.1<((lN:Nat):Int)))
 ((IxOk l z3.1 lN)∧
 k01 H4 false 1 ⟨(k0c l),(k0b l+z3.1.toNat*1),none⟩ pBlk fun(x6:Nat)=>
 newB H4 (.cells #[(.pointer none)] tq93) fun b7 H8=>
 k08 H8 ⟨b7,0,none⟩ [(pq x6)] fun H9=>
 lw H9 b7 0 pBlk fun(x10:Nat)=>
 lw H9 x10 2 pBlk fun(_x11:Nat)=>
 lw H9 b7 0 pBlk fun(x12:Nat)=>
 lw H9 x12 2 pBlk fun(x13:Nat)=>
 lw H9 x13 2 pPtr fun(x14:OA)=>
 k00 PP fq69 #[(.pointer x14)] H9 pStr fun(x15:BA) H16=>
 lw H16 b1 0 pPtr fun(x17:OA)=>
 lw H16 b7 0 pBlk fun(x18:Nat)=>
 lw H16 x18 1 pPtr fun(x19:OA)=>
 k00 PP fq67 #[(.pointer x17),(.pointer x19),(.agg #[(.int .i64 4),(.string x15),sE,sE,(.int .i64 0),(.int .i64 0)]),(.func (.func fq117) #[] #[(pq b1),(pq b7)])] H16 pUn fun(_:Unit) H21=>
 next5 ((IntKind.i64.wrap (z3.1+1)),()) H21)
 (rk [] H4 R)
theorem k7w.enter (t:Nat) (l:OA) (lN lC:Nat) (H:Heap) (R:RR) (h:k7w.W t l lN lC H R):Fn PP fq63 #[(pq t),(.slice l lN lC)] H R:=
 fnE Tryz.func63 ⟨patL [(12,pBlk),(13,pBlk),(16,pBlk),(18,pBlk),(21,pBlk),(24,pPtr),(25,pStr),(26,pPtr),(27,pBlk),(30,pPtr),(34,pUn)],k06 [(0,[Slot.int .i64 9])],k03 [],k03 [],k05 []⟩ (by unfold k7w.W;kernel_rfl) h
def k7V.W (t:Nat) (l:OA) (lN _lC:Nat) (H:Heap) (R:RR):Prop:=
 newB H (.cells #[(pq t)] tq60) fun b1 H2=>
 k0e (Int×Unit) (0,()) H2 fun z3 H4 next5=>
 k02 (decide (z3.1<((lN:Nat):Int)))
 ((IxOk l z3.1 lN)∧
 k01 H4 false 1 ⟨(k0c l),(k0b l+z3.1.toNat*1),none⟩ pBlk fun(x6:Nat)=>
 newB H4 (.cells #[(.pointer none)] tq120) fun b7 H8=>
 k08 H8 ⟨b7,0,none⟩ [(pq x6)] fun H9=>
 lw H9 b1 0 pPtr fun(x10:OA)=>
 lw H9 b7 0 pBlk fun(x11:Nat)=>
 lw H9 x11 1 pPtr fun(x12:OA)=>
 lw H9 b7 0 pBlk fun(x13:Nat)=>
 lw H9 x13 2 pPtr fun(x14:OA)=>
 k00 PP fq69 #[(.pointer x14)] H9 pStr fun(x15:BA) H16=>
 lc H16 x11 1 (.pointer x12)∧
 lc H16 b7 0 (pq x11)∧
 lc H16 b1 0 (.pointer x10)∧
 k00 PP fq67 #[(.pointer x10),(.pointer x12),(.agg #[(.int .i64 30),(.string x15),sE,sE,(.int .i64 0),(.int .i64 0)]),(.func (.func fq123) #[] #[(pq b1),(pq b7)])] H16 pUn fun(_:Unit) H18=>
 lc H18 b7 0 (pq x13)∧
 next5 ((IntKind.i64.wrap (z3.1+1)),()) H18)
 (rk [] H4 R)
theorem k7V.enter (t:Nat) (l:OA) (lN lC:Nat) (H:Heap) (R:RR) (h:k7V.W t l lN lC H R):Fn PP fq71 #[(pq t),(.slice l lN lC)] H R:=
 fnE Tryz.func71 ⟨patL [(11,pBlk),(12,pPtr),(13,pBlk),(16,pPtr),(17,pBlk),(20,pPtr),(21,pStr),(24,pUn)],k06 [(0,[Slot.int .i64 8])],k03 [],k03 [],k05 []⟩ (by unfold k7V.W;kernel_rfl) h
def k7R.W (t:Nat) (l:OA) (lN _lC:Nat) (H:Heap) (R:RR):Prop:=
 newB H (.cells #[(pq t)] tq60) fun b1 H2=>
 k0e (Int×Unit) (0,()) H2 fun z3 H4 next5=>
 k02 (decide (z3.1<((lN:Nat):Int)))
 ((IxOk l z3.1 lN)∧
 k01 H4 false 1 ⟨(k0c l),(k0b l+z3.1.toNat*1),none⟩ pBlk fun(x6:Nat)=>
 newB H4 (.cells #[(.pointer none)] tq117) fun b7 H8=>
 k08 H8 ⟨b7,0,none⟩ [(pq x6)] fun H9=>
 lw H9 b1 0 pPtr fun(x10:OA)=>
 lw H9 b7 0 pBlk fun(x11:Nat)=>
 lw H9 x11 1 pPtr fun(x12:OA)=>
 lw H9 b7 0 pBlk fun(x13:Nat)=>
 lw H9 x13 2 pPtr fun(x14:OA)=>
 k00 PP fq69 #[(.pointer x14)] H9 pStr fun(x15:BA) H16=>
 lc H16 x11 1 (.pointer x12)∧
 lc H16 b7 0 (pq x11)∧
 lc H16 b1 0 (.pointer x10)∧
 k00 PP fq67 #[(.pointer x10),(.pointer x12),(.agg #[(.int .i64 29),(.string x15),sE,sE,(.int .i64 0),(.int .i64 0)]),(.func (.func fq122) #[] #[(pq b1),(pq b7)])] H16 pUn fun(_:Unit) H18=>
 lc H18 b7 0 (pq x13)∧
 next5 ((IntKind.i64.wrap (z3.1+1)),()) H18)
 (rk [] H4 R)
theorem k7R.enter (t:Nat) (l:OA) (lN lC:Nat) (H:Heap) (R:RR) (h:k7R.W t l lN lC H R):Fn PP fq70 #[(pq t),(.slice l lN lC)] H R:=
 fnE Tryz.func70 ⟨patL [(11,pBlk),(12,pPtr),(13,pBlk),(16,pPtr),(17,pBlk),(20,pPtr),(21,pStr),(24,pUn)],k06 [(0,[Slot.int .i64 8])],k03 [],k03 [],k05 []⟩ (by unfold k7R.W;kernel_rfl) h
def k6U.W (t:Nat) (s:Nat) (H:Heap) (R:RR):Prop:=
 newB H (.cells #[(pq t)] tq60) fun b1 H2=>
 newB H2 (.cells #[(pq s)] tq192) fun b3 H4=>
 lw H4 b3 0 pBlk fun(_x5:Nat)=>
 lw H4 b1 0 pPtr fun(x6:OA)=>
 lw H4 b3 0 pBlk fun(x7:Nat)=>
 lw H4 x7 1 pPtr fun(x8:OA)=>
 k00 PP fq67 #[(.pointer x6),(.pointer x8),(.agg #[(.int .i64 5),sE,sE,sE,(.int .i64 0),(.int .i64 0)]),(.func (.func fq184) #[] #[(pq b3),(pq b1)])] H4 pUn fun(_:Unit) H10=>
 rk [] H10 R
theorem k6U.enter (t:Nat) (s:Nat) (H:Heap) (R:RR) (h:k6U.W t s H R):Fn PP fq125 #[(pq t),(pq s)] H R:=
 fnE Tryz.func125 (hz [(4,pBlk),(6,pPtr),(7,pBlk),(10,pPtr),(13,pUn)]) (by unfold k6U.W;kernel_rfl) h
def k6t.W (t:Nat) (n:Nat) (H:Heap) (R:RR):Prop:=
 newB H (.cells #[(pq t)] tq60) fun b1 H2=>
 newB H2 (.cells #[(pq n)] tq235) fun b3 H4=>
 lw H4 b1 0 pPtr fun(x5:OA)=>
 lw H4 b3 0 pBlk fun(x6:Nat)=>
 lw H4 x6 1 pPtr fun(x7:OA)=>
 lw H4 b3 0 pBlk fun(x8:Nat)=>
 lw H4 x8 2 pPtr fun(x9:OA)=>
 k00 PP fq69 #[(.pointer x9)] H4 pStr fun(x10:BA) H11=>
 lc H11 x6 1 (.pointer x7)∧
 lc H11 b3 0 (pq x6)∧
 lc H11 b1 0 (.pointer x5)∧
 k00 PP fq67 #[(.pointer x5),(.pointer x7),(.agg #[(.int .i64 27),(.string x10),sE,sE,(.int .i64 0),(.int .i64 0)]),(.func (.func fq216) #[] #[(pq b1),(pq b3)])] H11 pUn fun(_:Unit) H13=>
 lc H13 b3 0 (pq x8)∧
 rk [] H13 R
theorem k6t.enter (t:Nat) (n:Nat) (H:Heap) (R:RR) (h:k6t.W t n H R):Fn PP fq187 #[(pq t),(pq n)] H R:=
 fnE Tryz.func187 (hz [(4,pPtr),(5,pBlk),(8,pPtr),(9,pBlk),(12,pPtr),(13,pStr),(16,pUn)]) (by unfold k6t.W;kernel_rfl) h
def k7v.W (t:Nat) (v:Nat) (H:Heap) (R:RR):Prop:=
 newB H (.cells #[(pq t)] tq60) fun b1 H2=>
 lw H2 b1 0 pPtr fun(x3:OA)=>
 lw H2 v 1 pPtr fun(x4:OA)=>
 lw H2 v 2 pPtr fun(x5:OA)=>
 k00 PP fq69 #[(.pointer x5)] H2 pStr fun(x6:BA) H7=>
 lc H7 v 1 (.pointer x4)∧
 lc H7 b1 0 (.pointer x3)∧
 k00 PP fq67 #[(.pointer x3),(.pointer x4),(.agg #[(.int .i64 11),(.string x6),sE,sE,(.int .i64 0),(.int .i64 0)]),.nilFunc] H7 pUn fun(_:Unit) H9=>
 rk [] H9 R
theorem k7v.enter (t:Nat) (v:Nat) (H:Heap) (R:RR) (h:k7v.W t v H R):Fn PP fq119 #[(pq t),(.iface tq169 (pq v))] H R:=
 fnE Tryz.func119 (hz [(21,pPtr),(25,pPtr),(29,pPtr),(30,pStr),(32,pUn)]) (by unfold k7v.W;kernel_rfl) h
def k7r.W (t:Nat) (v:Nat) (H:Heap) (R:RR):Prop:=
 newB H (.cells #[(pq t)] tq60) fun b1 H2=>
 lw H2 b1 0 pPtr fun(x3:OA)=>
 lw H2 v 1 pPtr fun(x4:OA)=>
 lw H2 v 2 pStr fun(x5:BA)=>
 k00 PP fq67 #[(.pointer x3),(.pointer x4),(.agg #[(.int .i64 12),sE,sE,(.string x5),(.int .i64 0),(.int .i64 0)]),.nilFunc] H2 pUn fun(_:Unit) H7=>
 rk [] H7 R
theorem k7r.enter (t:Nat) (v:Nat) (H:Heap) (R:RR) (h:k7r.W t v H R):Fn PP fq119 #[(pq t),(.iface tq300 (pq v))] H R:=
 fnE Tryz.func119 (hz [(36,pPtr),(40,pPtr),(44,pStr),(46,pUn)]) (by unfold k7r.W;kernel_rfl) h
def k7q.W (t:Nat) (v:Nat) (H:Heap) (R:RR):Prop:=
 newB H (.cells #[(pq t)] tq60) fun b1 H2=>
 lw H2 b1 0 pPtr fun(x3:OA)=>
 lw H2 v 1 pPtr fun(x4:OA)=>
 lw H2 v 2 pStr fun(x5:BA)=>
 k00 PP fq67 #[(.pointer x3),(.pointer x4),(.agg #[(.int .i64 13),sE,sE,(.string x5),(.int .i64 0),(.int .i64 0)]),.nilFunc] H2 pUn fun(_:Unit) H7=>
 rk [] H7 R
theorem k7q.enter (t:Nat) (v:Nat) (H:Heap) (R:RR) (h:k7q.W t v H R):Fn PP fq119 #[(pq t),(.iface tq302 (pq v))] H R:=
 fnE Tryz.func119 (hz [(50,pPtr),(54,pPtr),(58,pStr),(60,pUn)]) (by unfold k7q.W;kernel_rfl) h
def k7u.W (t:Nat) (v:Nat) (H:Heap) (R:RR):Prop:=
 newB H (.cells #[(pq t)] tq60) fun b1 H2=>
 lw H2 b1 0 pPtr fun(x3:OA)=>
 lw H2 v 1 pPtr fun(x4:OA)=>
 lw H2 v 2 pStr fun(x5:BA)=>
 k00 PP fq67 #[(.pointer x3),(.pointer x4),(.agg #[(.int .i64 14),sE,sE,(.string x5),(.int .i64 0),(.int .i64 0)]),.nilFunc] H2 pUn fun(_:Unit) H7=>
 rk [] H7 R
theorem k7u.enter (t:Nat) (v:Nat) (H:Heap) (R:RR) (h:k7u.W t v H R):Fn PP fq119 #[(pq t),(.iface tq102 (pq v))] H R:=
 fnE Tryz.func119 (hz [(64,pPtr),(68,pPtr),(72,pStr),(74,pUn)]) (by unfold k7u.W;kernel_rfl) h
def k7o.W (t:Nat) (v:Nat) (H:Heap) (R:RR):Prop:=
 newB H (.cells #[(pq t)] tq60) fun b1 H2=>
 newB H2 (.cells #[(.int .i64 0),sE,sE,sE,(.int .i64 0),(.int .i64 0)] tq41) fun b3 H4=>
 k08 H4 ⟨b3,0,none⟩ [(.int .i64 15),sE,sE,sE,(.int .i64 0),(.int .i64 0)] fun H5=>
 lw H5 v 2 k04 fun(x6:Bool)=>
 k02 x6
 (k08 H5 ⟨b3,4,none⟩ [(.int .i64 1)] fun H7=>
 lw H7 b1 0 pPtr fun(x8:OA)=>
 lw H7 v 1 pPtr fun(x9:OA)=>
 k01 H7 true 6 ⟨b3,0,none⟩ pNd fun(x10:Int×BA×BA×BA×Int×Int)=>
 k00 PP fq67 #[(.pointer x8),(.pointer x9),(.agg #[(.int .i64 x10.1),(.string x10.2.1),(.string x10.2.2.1),(.string x10.2.2.2.1),(.int .i64 x10.2.2.2.2.1),(.int .i64 x10.2.2.2.2.2)]),.nilFunc] H7 pUn fun(_:Unit) H12=>
 rk [] H12 R)
 (lw H5 b1 0 pPtr fun(x13:OA)=>
 lw H5 v 1 pPtr fun(x14:OA)=>
 k01 H5 true 6 ⟨b3,0,none⟩ pNd fun(x15:Int×BA×BA×BA×Int×Int)=>
 k00 PP fq67 #[(.pointer x13),(.pointer x14),(.agg #[(.int .i64 x15.1),(.string x15.2.1),(.string x15.2.2.1),(.string x15.2.2.2.1),(.int .i64 x15.2.2.2.2.1),(.int .i64 x15.2.2.2.2.2)]),.nilFunc] H5 pUn fun(_:Unit) H17=>
 rk [] H17 R)
theorem k7o.enter (t:Nat) (v:Nat) (H:Heap) (R:RR) (h:k7o.W t v H R):Fn PP fq119 #[(pq t),(.iface tq304 (pq v))] H R:=
 fnE Tryz.func119 (hz [(82,k04),(84,pPtr),(88,pPtr),(89,pNd),(90,pUn)]) (by unfold k7o.W;kernel_rfl) h
def k7p.W (t:Nat) (v:Nat) (H:Heap) (R:RR):Prop:=
 newB H (.cells #[(pq t)] tq60) fun b1 H2=>
 lw H2 b1 0 pPtr fun(x3:OA)=>
 lw H2 v 1 pPtr fun(x4:OA)=>
 lw H2 v 2 pStr fun(x5:BA)=>
 k00 PP fq67 #[(.pointer x3),(.pointer x4),(.agg #[(.int .i64 16),(.string x5),sE,sE,(.int .i64 0),(.int .i64 0)]),.nilFunc] H2 pUn fun(_:Unit) H7=>
 rk [] H7 R
theorem k7p.enter (t:Nat) (v:Nat) (H:Heap) (R:RR) (h:k7p.W t v H R):Fn PP fq119 #[(pq t),(.iface tq307 (pq v))] H R:=
 fnE Tryz.func119 (hz [(94,pPtr),(98,pPtr),(102,pStr),(104,pUn)]) (by unfold k7p.W;kernel_rfl) h
def k7s.W (t:Nat) (v:Nat) (H:Heap) (R:RR):Prop:=
 newB H (.cells #[(pq t)] tq60) fun b1 H2=>
 newB H2 (.cells #[(.pointer none)] tq309) fun b3 H4=>
 k08 H4 ⟨b3,0,none⟩ [(pq v)] fun H5=>
 lw H5 b1 0 pPtr fun(x6:OA)=>
 lw H5 b3 0 pBlk fun(x7:Nat)=>
 lw H5 x7 1 pPtr fun(x8:OA)=>
 k00 PP fq67 #[(.pointer x6),(.pointer x8),(.agg #[(.int .i64 17),sE,sE,sE,(.int .i64 0),(.int .i64 0)]),(.func (.func fq181) #[] #[(pq b3),(pq b1)])] H5 pUn fun(_:Unit) H10=>
 rk [] H10 R
theorem k7s.enter (t:Nat) (v:Nat) (H:Heap) (R:RR) (h:k7s.W t v H R):Fn PP fq119 #[(pq t),(.iface tq309 (pq v))] H R:=
 fnE Tryz.func119 (hz [(108,pPtr),(109,pBlk),(112,pPtr),(115,pUn)]) (by unfold k7s.W;kernel_rfl) h
def k7t.W (t:Nat) (v:Nat) (H:Heap) (R:RR):Prop:=
 newB H (.cells #[(pq t)] tq60) fun b1 H2=>
 newB H2 (.cells #[(.pointer none)] tq313) fun b3 H4=>
 k08 H4 ⟨b3,0,none⟩ [(pq v)] fun H5=>
 lw H5 b1 0 pPtr fun(x6:OA)=>
 lw H5 b3 0 pBlk fun(x7:Nat)=>
 lw H5 x7 1 pPtr fun(x8:OA)=>
 k00 PP fq67 #[(.pointer x6),(.pointer x8),(.agg #[(.int .i64 18),sE,sE,sE,(.int .i64 0),(.int .i64 0)]),(.func (.func fq182) #[] #[(pq b3),(pq b1)])] H5 pUn fun(_:Unit) H10=>
 rk [] H10 R
theorem k7t.enter (t:Nat) (v:Nat) (H:Heap) (R:RR) (h:k7t.W t v H R):Fn PP fq119 #[(pq t),(.iface tq313 (pq v))] H R:=
 fnE Tryz.func119 (hz [(119,pPtr),(120,pBlk),(123,pPtr),(126,pUn)]) (by unfold k7t.W;kernel_rfl) h
def k7l.W (t:Nat) (v:Nat) (H:Heap) (R:RR):Prop:=
 newB H (.cells #[(pq t)] tq60) fun b1 H2=>
 lw H2 b1 0 pPtr fun(x3:OA)=>
 lw H2 v 1 pPtr fun(x4:OA)=>
 k00 PP fq68 #[(pq v)] H2 pStr fun(x5:BA) H6=>
 lc H6 v 1 (.pointer x4)∧
 lc H6 b1 0 (.pointer x3)∧
 k00 PP fq67 #[(.pointer x3),(.pointer x4),(.agg #[(.int .i64 20),(.string x5),sE,sE,(.int .i64 0),(.int .i64 0)]),.nilFunc] H6 pUn fun(_:Unit) H8=>
 rk [] H8 R
theorem k7l.enter (t:Nat) (v:Nat) (H:Heap) (R:RR) (h:k7l.W t v H R):Fn PP fq118 #[(pq t),(.iface tq107 (pq v))] H R:=
 fnE Tryz.func118 (hz [(15,pPtr),(19,pPtr),(21,pStr),(23,pUn)]) (by unfold k7l.W;kernel_rfl) h
def k7k.W (t:Nat) (v:Nat) (H:Heap) (R:RR):Prop:=
 newB H (.cells #[(pq t)] tq60) fun b1 H2=>
 newB H2 (.cells #[(.pointer none)] tq295) fun b3 H4=>
 k08 H4 ⟨b3,0,none⟩ [(pq v)] fun H5=>
 lw H5 b1 0 pPtr fun(x6:OA)=>
 lw H5 b3 0 pBlk fun(x7:Nat)=>
 lw H5 x7 1 pPtr fun(x8:OA)=>
 k00 PP fq67 #[(.pointer x6),(.pointer x8),(.agg #[(.int .i64 21),sE,sE,sE,(.int .i64 0),(.int .i64 0)]),(.func (.func fq179) #[] #[(pq b1),(pq b3)])] H5 pUn fun(_:Unit) H10=>
 rk [] H10 R
theorem k7k.enter (t:Nat) (v:Nat) (H:Heap) (R:RR) (h:k7k.W t v H R):Fn PP fq118 #[(pq t),(.iface tq295 (pq v))] H R:=
 fnE Tryz.func118 (hz [(27,pPtr),(28,pBlk),(31,pPtr),(34,pUn)]) (by unfold k7k.W;kernel_rfl) h
def k7m.W (t:Nat) (v:Nat) (H:Heap) (R:RR):Prop:=
 newB H (.cells #[(pq t)] tq60) fun b1 H2=>
 newB H2 (.cells #[(.pointer none)] tq298) fun b3 H4=>
 k08 H4 ⟨b3,0,none⟩ [(pq v)] fun H5=>
 lw H5 b1 0 pPtr fun(x6:OA)=>
 lw H5 b3 0 pBlk fun(x7:Nat)=>
 lw H5 x7 1 pPtr fun(x8:OA)=>
 k00 PP fq67 #[(.pointer x6),(.pointer x8),(.agg #[(.int .i64 22),sE,sE,sE,(.int .i64 0),(.int .i64 0)]),(.func (.func fq180) #[] #[(pq b1),(pq b3)])] H5 pUn fun(_:Unit) H10=>
 rk [] H10 R
theorem k7m.enter (t:Nat) (v:Nat) (H:Heap) (R:RR) (h:k7m.W t v H R):Fn PP fq118 #[(pq t),(.iface tq298 (pq v))] H R:=
 fnE Tryz.func118 (hz [(38,pPtr),(39,pBlk),(42,pPtr),(45,pUn)]) (by unfold k7m.W;kernel_rfl) h
def k6Q.W (t:Nat) (v:Nat) (H:Heap) (R:RR):Prop:=
 newB H (.cells #[(pq t)] tq60) fun b1 H2=>
 newB H2 (.cells #[(.pointer none)] tq126) fun b3 H4=>
 k08 H4 ⟨b3,0,none⟩ [(pq v)] fun H5=>
 lw H5 b1 0 pPtr fun(x6:OA)=>
 lw H5 b3 0 pBlk fun(x7:Nat)=>
 lw H5 x7 1 pPtr fun(x8:OA)=>
 lw H5 b3 0 pBlk fun(x9:Nat)=>
 lw H5 x9 3 pPtr fun(x10:OA)=>
 lw H5 b3 0 pBlk fun(x11:Nat)=>
 lw H5 x11 2 pPtr fun(x12:OA)=>
 k00 PP fq69 #[(.pointer x10)] H5 pStr fun(x13:BA) H14=>
 lc H14 x11 2 (.pointer x12)∧
 lc H14 b3 0 (pq x11)∧
 lc H14 x7 1 (.pointer x8)∧
 lc H14 b3 0 (pq x7)∧
 lc H14 b1 0 (.pointer x6)∧
 k00 PP fq69 #[(.pointer x12)] H14 pStr fun(x15:BA) H16=>
 lc H16 b3 0 (pq x9)∧
 lc H16 x7 1 (.pointer x8)∧
 lc H16 b3 0 (pq x7)∧
 lc H16 b1 0 (.pointer x6)∧
 k00 PP fq67 #[(.pointer x6),(.pointer x8),(.agg #[(.int .i64 6),(.string x13),(.string x15),sE,(.int .i64 0),(.int .i64 0)]),(.func (.func fq124) #[] #[(pq b1),(pq b3)])] H16 pUn fun(_:Unit) H18=>
 lc H18 b3 0 (pq x11)∧
 lc H18 b3 0 (pq x9)∧
 rk [] H18 R
theorem k6Q.enter (t:Nat) (v:Nat) (H:Heap) (R:RR) (h:k6Q.W t v H R):Fn PP fq73 #[(pq t),(.iface tq126 (pq v))] H R:=
 fnE Tryz.func73 (hz [(15,pPtr),(16,pBlk),(19,pPtr),(20,pBlk),(23,pPtr),(24,pStr),(25,pBlk),(28,pPtr),(29,pStr),(32,pUn)]) (by unfold k6Q.W;kernel_rfl) h
def k6R.W (t:Nat) (v:Nat) (H:Heap) (R:RR):Prop:=
 newB H (.cells #[(pq t)] tq60) fun b1 H2=>
 newB H2 (.cells #[(.pointer none)] tq128) fun b3 H4=>
 k08 H4 ⟨b3,0,none⟩ [(pq v)] fun H5=>
 lw H5 b1 0 pPtr fun(x6:OA)=>
 lw H5 b3 0 pBlk fun(x7:Nat)=>
 lw H5 x7 1 pPtr fun(x8:OA)=>
 lw H5 b3 0 pBlk fun(x9:Nat)=>
 lw H5 x9 2 pPtr fun(x10:OA)=>
 k00 PP fq69 #[(.pointer x10)] H5 pStr fun(x11:BA) H12=>
 lc H12 x7 1 (.pointer x8)∧
 lc H12 b3 0 (pq x7)∧
 lc H12 b1 0 (.pointer x6)∧
 k00 PP fq67 #[(.pointer x6),(.pointer x8),(.agg #[(.int .i64 7),(.string x11),sE,sE,(.int .i64 0),(.int .i64 0)]),(.func (.func fq126) #[] #[(pq b1),(pq b3)])] H12 pUn fun(_:Unit) H14=>
 lc H14 b3 0 (pq x9)∧
 rk [] H14 R
theorem k6R.enter (t:Nat) (v:Nat) (H:Heap) (R:RR) (h:k6R.W t v H R):Fn PP fq73 #[(pq t),(.iface tq128 (pq v))] H R:=
 fnE Tryz.func73 (hz [(36,pPtr),(37,pBlk),(40,pPtr),(41,pBlk),(44,pPtr),(45,pStr),(48,pUn)]) (by unfold k6R.W;kernel_rfl) h
def k6S.W (t:Nat) (v:Nat) (H:Heap) (R:RR):Prop:=
 newB H (.cells #[(pq t)] tq60) fun b1 H2=>
 newB H2 (.cells #[(.pointer none)] tq129) fun b3 H4=>
 k08 H4 ⟨b3,0,none⟩ [(pq v)] fun H5=>
 lw H5 b1 0 pPtr fun(x6:OA)=>
 lw H5 b3 0 pBlk fun(x7:Nat)=>
 lw H5 x7 1 pPtr fun(x8:OA)=>
 lw H5 b3 0 pBlk fun(x9:Nat)=>
 lw H5 x9 2 pPtr fun(x10:OA)=>
 k00 PP fq68 #[(.pointer x10)] H5 pStr fun(x11:BA) H12=>
 lc H12 x7 1 (.pointer x8)∧
 lc H12 b3 0 (pq x7)∧
 lc H12 b1 0 (.pointer x6)∧
 k00 PP fq67 #[(.pointer x6),(.pointer x8),(.agg #[(.int .i64 8),sE,sE,(.string x11),(.int .i64 0),(.int .i64 0)]),(.func (.func fq127) #[] #[(pq b1),(pq b3)])] H12 pUn fun(_:Unit) H14=>
 lc H14 b3 0 (pq x9)∧
 rk [] H14 R
theorem k6S.enter (t:Nat) (v:Nat) (H:Heap) (R:RR) (h:k6S.W t v H R):Fn PP fq73 #[(pq t),(.iface tq129 (pq v))] H R:=
 fnE Tryz.func73 (hz [(52,pPtr),(53,pBlk),(56,pPtr),(57,pBlk),(60,pPtr),(61,pStr),(64,pUn)]) (by unfold k6S.W;kernel_rfl) h
def k5y.W (t:Nat) (v:Nat) (H:Heap) (R:RR):Prop:=
 newB H (.cells #[(pq t)] tq60) fun b1 H2=>
 newB H2 (.cells #[(.pointer none)] tq200) fun b3 H4=>
 k08 H4 ⟨b3,0,none⟩ [(pq v)] fun H5=>
 lw H5 b1 0 pPtr fun(x6:OA)=>
 lw H5 b3 0 pBlk fun(x7:Nat)=>
 lw H5 x7 1 pPtr fun(x8:OA)=>
 lw H5 b3 0 pBlk fun(x9:Nat)=>
 lw H5 x9 2 pStr fun(x10:BA)=>
 lw H5 b3 0 pBlk fun(x11:Nat)=>
 lw H5 x11 3 pPtr fun(x12:OA)=>
 k00 PP fq69 #[(.pointer x12)] H5 pStr fun(x13:BA) H14=>
 lc H14 x9 2 (.string x10)∧
 lc H14 b3 0 (pq x9)∧
 lc H14 x7 1 (.pointer x8)∧
 lc H14 b3 0 (pq x7)∧
 lc H14 b1 0 (.pointer x6)∧
 k00 PP fq67 #[(.pointer x6),(.pointer x8),(.agg #[(.int .i64 2),(.string x13),sE,(.string x10),(.int .i64 0),(.int .i64 0)]),(.func (.func fq128) #[] #[(pq b1),(pq b3)])] H14 pUn fun(_:Unit) H16=>
 lc H16 b3 0 (pq x11)∧
 lc H16 b3 0 (pq x9)∧
 rk [] H16 R
theorem k5y.enter (t:Nat) (v:Nat) (H:Heap) (R:RR) (h:k5y.W t v H R):Fn PP fq74 #[(pq t),(.iface tq200 (pq v))] H R:=
 fnE Tryz.func74 (hz [(14,pPtr),(15,pBlk),(18,pPtr),(19,pBlk),(22,pStr),(23,pBlk),(26,pPtr),(27,pStr),(30,pUn)]) (by unfold k5y.W;kernel_rfl) h
def k5u.W (t:Nat) (v:Nat) (H:Heap) (R:RR):Prop:=
 newB H (.cells #[(pq t)] tq60) fun b1 H2=>
 newB H2 (.cells #[(.pointer none)] tq203) fun b3 H4=>
 k08 H4 ⟨b3,0,none⟩ [(pq v)] fun H5=>
 lw H5 b1 0 pPtr fun(x6:OA)=>
 lw H5 b3 0 pBlk fun(x7:Nat)=>
 lw H5 x7 1 pPtr fun(x8:OA)=>
 lw H5 b3 0 pBlk fun(x9:Nat)=>
 lw H5 x9 3 pPtr fun(x10:OA)=>
 lw H5 b3 0 pBlk fun(x11:Nat)=>
 lw H5 x11 5 pPtr fun(x12:OA)=>
 k00 PP fq69 #[(.pointer x10)] H5 pStr fun(x13:BA) H14=>
 lc H14 x11 5 (.pointer x12)∧
 lc H14 b3 0 (pq x11)∧
 lc H14 x7 1 (.pointer x8)∧
 lc H14 b3 0 (pq x7)∧
 lc H14 b1 0 (.pointer x6)∧
 k00 PP fq68 #[(.pointer x12)] H14 pStr fun(x15:BA) H16=>
 lc H16 b3 0 (pq x9)∧
 lc H16 x7 1 (.pointer x8)∧
 lc H16 b3 0 (pq x7)∧
 lc H16 b1 0 (.pointer x6)∧
 k00 PP fq67 #[(.pointer x6),(.pointer x8),(.agg #[(.int .i64 3),(.string x13),sE,(.string x15),(.int .i64 0),(.int .i64 0)]),(.func (.func fq129) #[] #[(pq b1),(pq b3)])] H16 pUn fun(_:Unit) H18=>
 lc H18 b3 0 (pq x11)∧
 lc H18 b3 0 (pq x9)∧
 rk [] H18 R
theorem k5u.enter (t:Nat) (v:Nat) (H:Heap) (R:RR) (h:k5u.W t v H R):Fn PP fq74 #[(pq t),(.iface tq203 (pq v))] H R:=
 fnE Tryz.func74 (hz [(34,pPtr),(35,pBlk),(38,pPtr),(39,pBlk),(42,pPtr),(43,pStr),(44,pBlk),(47,pPtr),(48,pStr),(51,pUn)]) (by unfold k5u.W;kernel_rfl) h
def k5z.W (t:Nat) (v:Nat) (H:Heap) (R:RR):Prop:=
 newB H (.cells #[(pq t)] tq60) fun b1 H2=>
 lw H2 b1 0 pPtr fun(x3:OA)=>
 k00 PP fq130 #[(.pointer x3),(.iface tq218 (pq v))] H2 pUn fun(_:Unit) H5=>
 rk [] H5 R
theorem k5z.enter (t:Nat) (v:Nat) (H:Heap) (R:RR) (h:k5z.W t v H R):Fn PP fq74 #[(pq t),(.iface tq218 (pq v))] H R:=
 fnE Tryz.func74 (hz [(8,pPtr),(10,pUn)]) (by unfold k5z.W;kernel_rfl) h
def k6Z.W (t:Nat) (v:Nat) (H:Heap) (R:RR):Prop:=
 newB H (.cells #[(pq t)] tq60) fun b1 H2=>
 newB H2 (.cells #[(.pointer none)] tq218) fun b3 H4=>
 k08 H4 ⟨b3,0,none⟩ [(pq v)] fun H5=>
 lw H5 b1 0 pPtr fun(x6:OA)=>
 lw H5 b3 0 pBlk fun(x7:Nat)=>
 lw H5 x7 1 pPtr fun(x8:OA)=>
 k00 PP fq67 #[(.pointer x6),(.pointer x8),(.agg #[(.int .i64 24),sE,sE,sE,(.int .i64 0),(.int .i64 0)]),(.func (.func fq185) #[] #[(pq b1),(pq b3)])] H5 pUn fun(_:Unit) H10=>
 rk [] H10 R
theorem k6Z.enter (t:Nat) (v:Nat) (H:Heap) (R:RR) (h:k6Z.W t v H R):Fn PP fq130 #[(pq t),(.iface tq218 (pq v))] H R:=
 fnE Tryz.func130 (hz [(21,pPtr),(22,pBlk),(25,pPtr),(28,pUn)]) (by unfold k6Z.W;kernel_rfl) h
def k47.W (t:Nat) (v:Nat) (H:Heap) (R:RR):Prop:=
 newB H (.cells #[(pq t)] tq60) fun b1 H2=>
 lw H2 b1 0 pPtr fun(x3:OA)=>
 k00 PP fq130 #[(.pointer x3),(.iface tq231 (pq v))] H2 pUn fun(_:Unit) H5=>
 rk [] H5 R
theorem k47.enter (t:Nat) (v:Nat) (H:Heap) (R:RR) (h:k47.W t v H R):Fn PP fq74 #[(pq t),(.iface tq231 (pq v))] H R:=
 fnE Tryz.func74 (hz [(8,pPtr),(10,pUn)]) (by unfold k47.W;kernel_rfl) h
def k59.W (t:Nat) (v:Nat) (H:Heap) (R:RR):Prop:=
 newB H (.cells #[(pq t)] tq60) fun b1 H2=>
 newB H2 (.cells #[(.pointer none)] tq231) fun b3 H4=>
 k08 H4 ⟨b3,0,none⟩ [(pq v)] fun H5=>
 lw H5 b1 0 pPtr fun(x6:OA)=>
 lw H5 b3 0 pBlk fun(x7:Nat)=>
 lw H5 x7 1 pPtr fun(x8:OA)=>
 lw H5 b3 0 pBlk fun(x9:Nat)=>
 lw H5 x9 3 pPtr fun(x10:OA)=>
 k00 PP fq69 #[(.pointer x10)] H5 pStr fun(x11:BA) H12=>
 lc H12 x7 1 (.pointer x8)∧
 lc H12 b3 0 (pq x7)∧
 lc H12 b1 0 (.pointer x6)∧
 k00 PP fq67 #[(.pointer x6),(.pointer x8),(.agg #[(.int .i64 26),(.string x11),sE,sE,(.int .i64 0),(.int .i64 0)]),(.func (.func fq186) #[] #[(pq b1),(pq b3)])] H12 pUn fun(_:Unit) H14=>
 lc H14 b3 0 (pq x9)∧
 rk [] H14 R
theorem k59.enter (t:Nat) (v:Nat) (H:Heap) (R:RR) (h:k59.W t v H R):Fn PP fq130 #[(pq t),(.iface tq231 (pq v))] H R:=
 fnE Tryz.func130 (hz [(32,pPtr),(33,pBlk),(36,pPtr),(37,pBlk),(40,pPtr),(41,pStr),(44,pUn)]) (by unfold k59.W;kernel_rfl) h
def k5x.W (t:Nat) (v:Nat) (H:Heap) (R:RR):Prop:=
 newB H (.cells #[(pq t)] tq60) fun b1 H2=>
 lw H2 b1 0 pPtr fun(x3:OA)=>
 k00 PP fq130 #[(.pointer x3),(.iface tq235 (pq v))] H2 pUn fun(_:Unit) H5=>
 rk [] H5 R
theorem k5x.enter (t:Nat) (v:Nat) (H:Heap) (R:RR) (h:k5x.W t v H R):Fn PP fq74 #[(pq t),(.iface tq235 (pq v))] H R:=
 fnE Tryz.func74 (hz [(8,pPtr),(10,pUn)]) (by unfold k5x.W;kernel_rfl) h
def k6Y.W (t:Nat) (v:Nat) (H:Heap) (R:RR):Prop:=
 newB H (.cells #[(pq t)] tq60) fun b1 H2=>
 lw H2 b1 0 pPtr fun(x3:OA)=>
 k00 PP fq187 #[(.pointer x3),(pq v)] H2 pUn fun(_:Unit) H5=>
 rk [] H5 R
theorem k6Y.enter (t:Nat) (v:Nat) (H:Heap) (R:RR) (h:k6Y.W t v H R):Fn PP fq130 #[(pq t),(.iface tq235 (pq v))] H R:=
 fnE Tryz.func130 (hz [(48,pPtr),(50,pUn)]) (by unfold k6Y.W;kernel_rfl) h
def k5w.W (t:Nat) (v:Nat) (H:Heap) (R:RR):Prop:=
 newB H (.cells #[(pq t)] tq60) fun b1 H2=>
 lw H2 b1 0 pPtr fun(x3:OA)=>
 k00 PP fq130 #[(.pointer x3),(.iface tq248 (pq v))] H2 pUn fun(_:Unit) H5=>
 rk [] H5 R
theorem k5w.enter (t:Nat) (v:Nat) (H:Heap) (R:RR) (h:k5w.W t v H R):Fn PP fq74 #[(pq t),(.iface tq248 (pq v))] H R:=
 fnE Tryz.func74 (hz [(8,pPtr),(10,pUn)]) (by unfold k5w.W;kernel_rfl) h
def k8A.W (t:Nat) (v:Nat) (H:Heap) (R:RR):Prop:=
 newB H (.cells #[(pq t)] tq60) fun b1 H2=>
 newB H2 (.cells #[(.pointer none)] tq248) fun b3 H4=>
 k08 H4 ⟨b3,0,none⟩ [(pq v)] fun H5=>
 lw H5 b1 0 pPtr fun(x6:OA)=>
 lw H5 b3 0 pBlk fun(x7:Nat)=>
 lw H5 x7 1 pPtr fun(x8:OA)=>
 lw H5 b3 0 pBlk fun(x9:Nat)=>
 lw H5 x9 2 pPtr fun(x10:OA)=>
 k00 PP fq69 #[(.pointer x10)] H5 pStr fun(x11:BA) H12=>
 lc H12 x7 1 (.pointer x8)∧
 lc H12 b3 0 (pq x7)∧
 lc H12 b1 0 (.pointer x6)∧
 k00 PP fq67 #[(.pointer x6),(.pointer x8),(.agg #[(.int .i64 31),(.string x11),sE,sE,(.int .i64 0),(.int .i64 0)]),(.func (.func fq188) #[] #[(pq b1),(pq b3)])] H12 pUn fun(_:Unit) H14=>
 lc H14 b3 0 (pq x9)∧
 rk [] H14 R
theorem k8A.enter (t:Nat) (v:Nat) (H:Heap) (R:RR) (h:k8A.W t v H R):Fn PP fq130 #[(pq t),(.iface tq248 (pq v))] H R:=
 fnE Tryz.func130 (hz [(54,pPtr),(55,pBlk),(58,pPtr),(59,pBlk),(62,pPtr),(63,pStr),(66,pUn)]) (by unfold k8A.W;kernel_rfl) h
def k5B.W (t:Nat) (v:Nat) (H:Heap) (R:RR):Prop:=
 newB H (.cells #[(pq t)] tq60) fun b1 H2=>
 lw H2 b1 0 pPtr fun(x3:OA)=>
 k00 PP fq130 #[(.pointer x3),(.iface tq252 (pq v))] H2 pUn fun(_:Unit) H5=>
 rk [] H5 R
theorem k5B.enter (t:Nat) (v:Nat) (H:Heap) (R:RR) (h:k5B.W t v H R):Fn PP fq74 #[(pq t),(.iface tq252 (pq v))] H R:=
 fnE Tryz.func74 (hz [(8,pPtr),(10,pUn)]) (by unfold k5B.W;kernel_rfl) h
def k8B.W (t:Nat) (v:Nat) (H:Heap) (R:RR):Prop:=
 newB H (.cells #[(pq t)] tq60) fun b1 H2=>
 newB H2 (.cells #[(.pointer none)] tq252) fun b3 H4=>
 k08 H4 ⟨b3,0,none⟩ [(pq v)] fun H5=>
 lw H5 b1 0 pPtr fun(x6:OA)=>
 lw H5 b3 0 pBlk fun(x7:Nat)=>
 lw H5 x7 1 pPtr fun(x8:OA)=>
 lw H5 b3 0 pBlk fun(x9:Nat)=>
 lw H5 x9 2 pPtr fun(x10:OA)=>
 k00 PP fq69 #[(.pointer x10)] H5 pStr fun(x11:BA) H12=>
 lc H12 x7 1 (.pointer x8)∧
 lc H12 b3 0 (pq x7)∧
 lc H12 b1 0 (.pointer x6)∧
 k00 PP fq67 #[(.pointer x6),(.pointer x8),(.agg #[(.int .i64 32),(.string x11),sE,sE,(.int .i64 0),(.int .i64 0)]),(.func (.func fq189) #[] #[(pq b1),(pq b3)])] H12 pUn fun(_:Unit) H14=>
 lc H14 b3 0 (pq x9)∧
 rk [] H14 R
theorem k8B.enter (t:Nat) (v:Nat) (H:Heap) (R:RR) (h:k8B.W t v H R):Fn PP fq130 #[(pq t),(.iface tq252 (pq v))] H R:=
 fnE Tryz.func130 (hz [(70,pPtr),(71,pBlk),(74,pPtr),(75,pBlk),(78,pPtr),(79,pStr),(82,pUn)]) (by unfold k8B.W;kernel_rfl) h
def k5t.W (t:Nat) (v:Nat) (H:Heap) (R:RR):Prop:=
 newB H (.cells #[(pq t)] tq60) fun b1 H2=>
 lw H2 b1 0 pPtr fun(x3:OA)=>
 k00 PP fq130 #[(.pointer x3),(.iface tq257 (pq v))] H2 pUn fun(_:Unit) H5=>
 rk [] H5 R
theorem k5t.enter (t:Nat) (v:Nat) (H:Heap) (R:RR) (h:k5t.W t v H R):Fn PP fq74 #[(pq t),(.iface tq257 (pq v))] H R:=
 fnE Tryz.func74 (hz [(8,pPtr),(10,pUn)]) (by unfold k5t.W;kernel_rfl) h
def k8y.W (t:Nat) (v:Nat) (H:Heap) (R:RR):Prop:=
 newB H (.cells #[(pq t)] tq60) fun b1 H2=>
 newB H2 (.cells #[(.pointer none)] tq257) fun b3 H4=>
 k08 H4 ⟨b3,0,none⟩ [(pq v)] fun H5=>
 lw H5 b1 0 pPtr fun(x6:OA)=>
 lw H5 b3 0 pBlk fun(x7:Nat)=>
 lw H5 x7 1 pPtr fun(x8:OA)=>
 lw H5 b3 0 pBlk fun(x9:Nat)=>
 lw H5 x9 2 pPtr fun(x10:OA)=>
 k00 PP fq69 #[(.pointer x10)] H5 pStr fun(x11:BA) H12=>
 lc H12 x7 1 (.pointer x8)∧
 lc H12 b3 0 (pq x7)∧
 lc H12 b1 0 (.pointer x6)∧
 k00 PP fq67 #[(.pointer x6),(.pointer x8),(.agg #[(.int .i64 34),(.string x11),sE,sE,(.int .i64 0),(.int .i64 0)]),(.func (.func fq190) #[] #[(pq b1),(pq b3)])] H12 pUn fun(_:Unit) H14=>
 lc H14 b3 0 (pq x9)∧
 rk [] H14 R
theorem k8y.enter (t:Nat) (v:Nat) (H:Heap) (R:RR) (h:k8y.W t v H R):Fn PP fq130 #[(pq t),(.iface tq257 (pq v))] H R:=
 fnE Tryz.func130 (hz [(86,pPtr),(87,pBlk),(90,pPtr),(91,pBlk),(94,pPtr),(95,pStr),(98,pUn)]) (by unfold k8y.W;kernel_rfl) h
def k5v.W (t:Nat) (v:Nat) (H:Heap) (R:RR):Prop:=
 newB H (.cells #[(pq t)] tq60) fun b1 H2=>
 lw H2 b1 0 pPtr fun(x3:OA)=>
 k00 PP fq130 #[(.pointer x3),(.iface tq262 (pq v))] H2 pUn fun(_:Unit) H5=>
 rk [] H5 R
theorem k5v.enter (t:Nat) (v:Nat) (H:Heap) (R:RR) (h:k5v.W t v H R):Fn PP fq74 #[(pq t),(.iface tq262 (pq v))] H R:=
 fnE Tryz.func74 (hz [(8,pPtr),(10,pUn)]) (by unfold k5v.W;kernel_rfl) h
def k8z.W (t:Nat) (v:Nat) (H:Heap) (R:RR):Prop:=
 newB H (.cells #[(pq t)] tq60) fun b1 H2=>
 newB H2 (.cells #[(.pointer none)] tq262) fun b3 H4=>
 k08 H4 ⟨b3,0,none⟩ [(pq v)] fun H5=>
 lw H5 b1 0 pPtr fun(x6:OA)=>
 lw H5 b3 0 pBlk fun(x7:Nat)=>
 lw H5 x7 1 pPtr fun(x8:OA)=>
 lw H5 b3 0 pBlk fun(x9:Nat)=>
 lw H5 x9 2 pPtr fun(x10:OA)=>
 k00 PP fq69 #[(.pointer x10)] H5 pStr fun(x11:BA) H12=>
 lc H12 x7 1 (.pointer x8)∧
 lc H12 b3 0 (pq x7)∧
 lc H12 b1 0 (.pointer x6)∧
 k00 PP fq67 #[(.pointer x6),(.pointer x8),(.agg #[(.int .i64 36),(.string x11),sE,sE,(.int .i64 0),(.int .i64 0)]),(.func (.func fq192) #[] #[(pq b1),(pq b3)])] H12 pUn fun(_:Unit) H14=>
 lc H14 b3 0 (pq x9)∧
 rk [] H14 R
theorem k8z.enter (t:Nat) (v:Nat) (H:Heap) (R:RR) (h:k8z.W t v H R):Fn PP fq130 #[(pq t),(.iface tq262 (pq v))] H R:=
 fnE Tryz.func130 (hz [(102,pPtr),(103,pBlk),(106,pPtr),(107,pBlk),(110,pPtr),(111,pStr),(114,pUn)]) (by unfold k8z.W;kernel_rfl) h
def k5s.W (t:Nat) (v:Nat) (H:Heap) (R:RR):Prop:=
 newB H (.cells #[(pq t)] tq60) fun b1 H2=>
 lw H2 b1 0 pPtr fun(x3:OA)=>
 k00 PP fq130 #[(.pointer x3),(.iface tq270 (pq v))] H2 pUn fun(_:Unit) H5=>
 rk [] H5 R
theorem k5s.enter (t:Nat) (v:Nat) (H:Heap) (R:RR) (h:k5s.W t v H R):Fn PP fq74 #[(pq t),(.iface tq270 (pq v))] H R:=
 fnE Tryz.func74 (hz [(8,pPtr),(10,pUn)]) (by unfold k5s.W;kernel_rfl) h
def k8x.W (t:Nat) (v:Nat) (H:Heap) (R:RR):Prop:=
 newB H (.cells #[(pq t)] tq60) fun b1 H2=>
 newB H2 (.cells #[(.pointer none)] tq270) fun b3 H4=>
 k08 H4 ⟨b3,0,none⟩ [(pq v)] fun H5=>
 lw H5 b1 0 pPtr fun(x6:OA)=>
 lw H5 b3 0 pBlk fun(x7:Nat)=>
 lw H5 x7 1 pPtr fun(x8:OA)=>
 lw H5 b3 0 pBlk fun(x9:Nat)=>
 lw H5 x9 2 pPtr fun(x10:OA)=>
 k00 PP fq69 #[(.pointer x10)] H5 pStr fun(x11:BA) H12=>
 lc H12 x7 1 (.pointer x8)∧
 lc H12 b3 0 (pq x7)∧
 lc H12 b1 0 (.pointer x6)∧
 k00 PP fq67 #[(.pointer x6),(.pointer x8),(.agg #[(.int .i64 37),(.string x11),sE,sE,(.int .i64 0),(.int .i64 0)]),(.func (.func fq193) #[] #[(pq b1),(pq b3)])] H12 pUn fun(_:Unit) H14=>
 lc H14 b3 0 (pq x9)∧
 rk [] H14 R
theorem k8x.enter (t:Nat) (v:Nat) (H:Heap) (R:RR) (h:k8x.W t v H R):Fn PP fq130 #[(pq t),(.iface tq270 (pq v))] H R:=
 fnE Tryz.func130 (hz [(118,pPtr),(119,pBlk),(122,pPtr),(123,pBlk),(126,pPtr),(127,pStr),(130,pUn)]) (by unfold k8x.W;kernel_rfl) h
def k5A.W (t:Nat) (v:Nat) (H:Heap) (R:RR):Prop:=
 newB H (.cells #[(pq t)] tq60) fun b1 H2=>
 lw H2 b1 0 pPtr fun(x3:OA)=>
 k00 PP fq130 #[(.pointer x3),(.iface tq266 (pq v))] H2 pUn fun(_:Unit) H5=>
 rk [] H5 R
theorem k5A.enter (t:Nat) (v:Nat) (H:Heap) (R:RR) (h:k5A.W t v H R):Fn PP fq74 #[(pq t),(.iface tq266 (pq v))] H R:=
 fnE Tryz.func74 (hz [(8,pPtr),(10,pUn)]) (by unfold k5A.W;kernel_rfl) h
def k70.W (t:Nat) (v:Nat) (H:Heap) (R:RR):Prop:=
 newB H (.cells #[(pq t)] tq60) fun b1 H2=>
 newB H2 (.cells #[(.pointer none)] tq266) fun b3 H4=>
 k08 H4 ⟨b3,0,none⟩ [(pq v)] fun H5=>
 lw H5 b1 0 pPtr fun(x6:OA)=>
 lw H5 b3 0 pBlk fun(x7:Nat)=>
 lw H5 x7 1 pPtr fun(x8:OA)=>
 k00 PP fq67 #[(.pointer x6),(.pointer x8),(.agg #[(.int .i64 39),sE,sE,sE,(.int .i64 0),(.int .i64 0)]),(.func (.func fq194) #[] #[(pq b1),(pq b3)])] H5 pUn fun(_:Unit) H10=>
 rk [] H10 R
theorem k70.enter (t:Nat) (v:Nat) (H:Heap) (R:RR) (h:k70.W t v H R):Fn PP fq130 #[(pq t),(.iface tq266 (pq v))] H R:=
 fnE Tryz.func130 (hz [(134,pPtr),(135,pBlk),(138,pPtr),(141,pUn)]) (by unfold k70.W;kernel_rfl) h
def readPart.W (step:BA) (kind:Int) (text:BA) (H:Heap) (R:RR):Prop:=
 k00 PP fq37 #[(.string step),(.string text)] H ⟨Sl×Int,fun x=>(.tuple #[(.slice x.1.1 x.1.2.1 x.1.2.2),(.int .i64 x.2),nI])⟩ fun(x1:Sl×Int) H2=>
 newB H2 (.cells #[(.slice none 0 0),(.slice none 0 0),(.bool false)] tq63) fun b3 H4=>
 k0e (Int×Unit) (0,()) H4 fun z5 H6 next7=>
 k02 (decide (z5.1<((x1.1.2.1:Nat):Int)))
 ((IxOk x1.1.1 z5.1 x1.1.2.1)∧
 k01 H6 false 1 ⟨(k0c x1.1.1),(k0b x1.1.1+z5.1.toNat*1),none⟩ pIf fun(x8:(Nat×Nat))=>
 k00 PP fq38 #[(pq b3),(.iface x8.1 (pq x8.2)),(.int .i64 kind)] H6 pUn fun(_:Unit) H10=>
 next7 ((IntKind.i64.wrap (z5.1+1)),()) H10)
 (lw H6 b3 2 k04 fun(x11:Bool)=>
 k02 x11
 (rk [(.slice none 0 0),(.int .i64 0),(.bool false)] H6 R)
 (lw H6 b3 0 pSlc fun(x12:Sl)=>
 rk [(.slice x12.1 x12.2.1 x12.2.2),(.int .i64 x1.2),(.bool true)] H6 R))
theorem readPart.enter (step:BA) (kind:Int) (text:BA) (H:Heap) (R:RR) (h:readPart.W step kind text H R):Fn PP fq30 #[(.string step),(.int .i64 kind),(.string text)] H R:=
 fnE Tryz.func30 ⟨patL [(17,⟨Sl×Int,fun x=>(.tuple #[(.slice x.1.1 x.1.2.1 x.1.2.2),(.int .i64 x.2),nI])⟩),(30,pIf),(34,pUn),(39,k04),(43,pSlc)],k06 [(0,[Slot.int .i64 27])],k03 [],k03 [],k05 []⟩ (by unfold readPart.W;kernel_rfl) h
end Go.Vx
