/- A part of the proof of what the last text of this claim says: WB4. Conditions: none. -/
import Derived.Test.YtkopcepfeeemhaaGreatDoorZAc
namespace Go.Vx
open Go Go.Proofs
set_option maxRecDepth 100000
def putG.W (f:FuncId) (t:Nat) (l:Nat) (x:Nd) (c1:Nat) (c2:Nat) (H:Heap) (R:RR):Prop:=
 newB H (.cells #[(.int .i64 x.kind),(.string x.name),(.string x.alias),(.string x.text),(.int .i64 x.flag),(.int .i64 x.size)] tq41) fun b1 H2=>
 lw H2 t 0 pSlc fun(x3:Sl)=>
 lw H2 t 0 pSlc fun(x4:Sl)=>
 loadW H2 true 6 ⟨b1,0,none⟩ pNd fun(x5:Int×ByteArray×ByteArray×ByteArray×Int×Int)=>
 newB H2 (.cells #[(.int .i64 x5.1),(.string x5.2.1),(.string x5.2.2.1),(.string x5.2.2.2.1),(.int .i64 x5.2.2.2.2.1),(.int .i64 x5.2.2.2.2.2)] tq41) fun b6 H7=>
 lc H7 t 0 (.slice x4.1 x4.2.1 x4.2.2)∧
 appK H7 tq41 6 72 x4.1 x4.2.1 x4.2.2 (some ⟨b6,0,none⟩) 1 fun a8 c9 H10=>
 storeW H10 ⟨t,0,none⟩ [(.slice a8 (x4.2.1+1) c9)] fun H11=>
 lw H11 t 1 pSlc fun(x12:Sl)=>
 lw H11 l 0 (pInt .i64) fun(x13:Int)=>
 lw H11 l 1 (pInt .i64) fun(x14:Int)=>
 newB H11 (.cells #[(.int .i64 x13),(.int .i64 x14)] tq65) fun b15 H16=>
 lc H16 t 1 (.slice x12.1 x12.2.1 x12.2.2)∧
 appK H16 tq65 2 16 x12.1 x12.2.1 x12.2.2 (some ⟨b15,0,none⟩) 1 fun a17 c18 H19=>
 storeW H19 ⟨t,1,none⟩ [(.slice a17 (x12.2.1+1) c18)] fun H20=>
 callW PP f #[(pq c1),(pq c2)] H20 pUn fun(_:Unit) H22=>
 lw H22 t 0 pSlc fun(x23:Sl)=>
 lw H22 t 0 pSlc fun(x24:Sl)=>
 (IxOk x23.1 ((x3.2.1:Nat):Int) x23.2.1)∧
 storeW H22 ⟨(blkOf x23.1),((offOf x23.1+((x3.2.1:Nat):Int).toNat*6)+5),none⟩ [(.int .i64 (IntKind.i64.wrap (((x24.2.1:Nat):Int) -((x3.2.1:Nat):Int))))] fun H25=>
 retK (some []) H25 R
theorem putArg.enter (t:Nat) (l:Nat) (x:Nd) (c1:Nat) (c2:Nat) (H:Heap) (R:RR) (h:putG.W fq120 t l x c1 c2 H R):Fn PP fq67 #[(pq t),(pq l),(.agg #[(.int .i64 x.kind),(.string x.name),(.string x.alias),(.string x.text),(.int .i64 x.flag),(.int .i64 x.size)]),(.func (.func fq120) #[] #[(pq c1),(pq c2)])] H R:=
 fnS mixed Tryz.func67 (hz [(12,pSlc),(18,pSlc),(19,pNd),(32,pSlc),(36,(pInt .i64)),(40,(pInt .i64)),(49,pUn),(53,pSlc),(58,pSlc)]) _ H R (Eq.mp (by unfold putG.W;kernel_rfl) h)
theorem putDir.enter (t:Nat) (l:Nat) (x:Nd) (c1:Nat) (c2:Nat) (H:Heap) (R:RR) (h:putG.W fq121 t l x c1 c2 H R):Fn PP fq67 #[(pq t),(pq l),(.agg #[(.int .i64 x.kind),(.string x.name),(.string x.alias),(.string x.text),(.int .i64 x.flag),(.int .i64 x.size)]),(.func (.func fq121) #[] #[(pq c1),(pq c2)])] H R:=
 fnS mixed Tryz.func67 (hz [(12,pSlc),(18,pSlc),(19,pNd),(32,pSlc),(36,(pInt .i64)),(40,(pInt .i64)),(49,pUn),(53,pSlc),(58,pSlc)]) _ H R (Eq.mp (by unfold putG.W;kernel_rfl) h)
theorem putFieldD.enter (t:Nat) (l:Nat) (x:Nd) (c1:Nat) (c2:Nat) (H:Heap) (R:RR) (h:putG.W fq122 t l x c1 c2 H R):Fn PP fq67 #[(pq t),(pq l),(.agg #[(.int .i64 x.kind),(.string x.name),(.string x.alias),(.string x.text),(.int .i64 x.flag),(.int .i64 x.size)]),(.func (.func fq122) #[] #[(pq c1),(pq c2)])] H R:=
 fnS mixed Tryz.func67 (hz [(12,pSlc),(18,pSlc),(19,pNd),(32,pSlc),(36,(pInt .i64)),(40,(pInt .i64)),(49,pUn),(53,pSlc),(58,pSlc)]) _ H R (Eq.mp (by unfold putG.W;kernel_rfl) h)
theorem putInputD.enter (t:Nat) (l:Nat) (x:Nd) (c1:Nat) (c2:Nat) (H:Heap) (R:RR) (h:putG.W fq123 t l x c1 c2 H R):Fn PP fq67 #[(pq t),(pq l),(.agg #[(.int .i64 x.kind),(.string x.name),(.string x.alias),(.string x.text),(.int .i64 x.flag),(.int .i64 x.size)]),(.func (.func fq123) #[] #[(pq c1),(pq c2)])] H R:=
 fnS mixed Tryz.func67 (hz [(12,pSlc),(18,pSlc),(19,pNd),(32,pSlc),(36,(pInt .i64)),(40,(pInt .i64)),(49,pUn),(53,pSlc),(58,pSlc)]) _ H R (Eq.mp (by unfold putG.W;kernel_rfl) h)
theorem putSys2.enter (t:Nat) (l:Nat) (x:Nd) (c1:Nat) (c2:Nat) (H:Heap) (R:RR) (h:putG.W fq186 t l x c1 c2 H R):Fn PP fq67 #[(pq t),(pq l),(.agg #[(.int .i64 x.kind),(.string x.name),(.string x.alias),(.string x.text),(.int .i64 x.flag),(.int .i64 x.size)]),(.func (.func fq186) #[] #[(pq c1),(pq c2)])] H R:=
 fnS mixed Tryz.func67 (hz [(12,pSlc),(18,pSlc),(19,pNd),(32,pSlc),(36,(pInt .i64)),(40,(pInt .i64)),(49,pUn),(53,pSlc),(58,pSlc)]) _ H R (Eq.mp (by unfold putG.W;kernel_rfl) h)
theorem putSys3.enter (t:Nat) (l:Nat) (x:Nd) (c1:Nat) (c2:Nat) (H:Heap) (R:RR) (h:putG.W fq188 t l x c1 c2 H R):Fn PP fq67 #[(pq t),(pq l),(.agg #[(.int .i64 x.kind),(.string x.name),(.string x.alias),(.string x.text),(.int .i64 x.flag),(.int .i64 x.size)]),(.func (.func fq188) #[] #[(pq c1),(pq c2)])] H R:=
 fnS mixed Tryz.func67 (hz [(12,pSlc),(18,pSlc),(19,pNd),(32,pSlc),(36,(pInt .i64)),(40,(pInt .i64)),(49,pUn),(53,pSlc),(58,pSlc)]) _ H R (Eq.mp (by unfold putG.W;kernel_rfl) h)
theorem putSys5.enter (t:Nat) (l:Nat) (x:Nd) (c1:Nat) (c2:Nat) (H:Heap) (R:RR) (h:putG.W fq190 t l x c1 c2 H R):Fn PP fq67 #[(pq t),(pq l),(.agg #[(.int .i64 x.kind),(.string x.name),(.string x.alias),(.string x.text),(.int .i64 x.flag),(.int .i64 x.size)]),(.func (.func fq190) #[] #[(pq c1),(pq c2)])] H R:=
 fnS mixed Tryz.func67 (hz [(12,pSlc),(18,pSlc),(19,pNd),(32,pSlc),(36,(pInt .i64)),(40,(pInt .i64)),(49,pUn),(53,pSlc),(58,pSlc)]) _ H R (Eq.mp (by unfold putG.W;kernel_rfl) h)
theorem putSys51.enter (t:Nat) (l:Nat) (x:Nd) (c1:Nat) (c2:Nat) (H:Heap) (R:RR) (h:putG.W fq191 t l x c1 c2 H R):Fn PP fq67 #[(pq t),(pq l),(.agg #[(.int .i64 x.kind),(.string x.name),(.string x.alias),(.string x.text),(.int .i64 x.flag),(.int .i64 x.size)]),(.func (.func fq191) #[] #[(pq c1),(pq c2)])] H R:=
 fnS mixed Tryz.func67 (hz [(12,pSlc),(18,pSlc),(19,pNd),(32,pSlc),(36,(pInt .i64)),(40,(pInt .i64)),(49,pUn),(53,pSlc),(58,pSlc)]) _ H R (Eq.mp (by unfold putG.W;kernel_rfl) h)
theorem putSys6.enter (t:Nat) (l:Nat) (x:Nd) (c1:Nat) (c2:Nat) (H:Heap) (R:RR) (h:putG.W fq192 t l x c1 c2 H R):Fn PP fq67 #[(pq t),(pq l),(.agg #[(.int .i64 x.kind),(.string x.name),(.string x.alias),(.string x.text),(.int .i64 x.flag),(.int .i64 x.size)]),(.func (.func fq192) #[] #[(pq c1),(pq c2)])] H R:=
 fnS mixed Tryz.func67 (hz [(12,pSlc),(18,pSlc),(19,pNd),(32,pSlc),(36,(pInt .i64)),(40,(pInt .i64)),(49,pUn),(53,pSlc),(58,pSlc)]) _ H R (Eq.mp (by unfold putG.W;kernel_rfl) h)
theorem putSys7.enter (t:Nat) (l:Nat) (x:Nd) (c1:Nat) (c2:Nat) (H:Heap) (R:RR) (h:putG.W fq193 t l x c1 c2 H R):Fn PP fq67 #[(pq t),(pq l),(.agg #[(.int .i64 x.kind),(.string x.name),(.string x.alias),(.string x.text),(.int .i64 x.flag),(.int .i64 x.size)]),(.func (.func fq193) #[] #[(pq c1),(pq c2)])] H R:=
 fnS mixed Tryz.func67 (hz [(12,pSlc),(18,pSlc),(19,pNd),(32,pSlc),(36,(pInt .i64)),(40,(pInt .i64)),(49,pUn),(53,pSlc),(58,pSlc)]) _ H R (Eq.mp (by unfold putG.W;kernel_rfl) h)
theorem putSys8.enter (t:Nat) (l:Nat) (x:Nd) (c1:Nat) (c2:Nat) (H:Heap) (R:RR) (h:putG.W fq194 t l x c1 c2 H R):Fn PP fq67 #[(pq t),(pq l),(.agg #[(.int .i64 x.kind),(.string x.name),(.string x.alias),(.string x.text),(.int .i64 x.flag),(.int .i64 x.size)]),(.func (.func fq194) #[] #[(pq c1),(pq c2)])] H R:=
 fnS mixed Tryz.func67 (hz [(12,pSlc),(18,pSlc),(19,pNd),(32,pSlc),(36,(pInt .i64)),(40,(pInt .i64)),(49,pUn),(53,pSlc),(58,pSlc)]) _ H R (Eq.mp (by unfold putG.W;kernel_rfl) h)
theorem putObj.enter (t:Nat) (l:Nat) (x:Nd) (c1:Nat) (c2:Nat) (H:Heap) (R:RR) (h:putG.W fq216 t l x c1 c2 H R):Fn PP fq67 #[(pq t),(pq l),(.agg #[(.int .i64 x.kind),(.string x.name),(.string x.alias),(.string x.text),(.int .i64 x.flag),(.int .i64 x.size)]),(.func (.func fq216) #[] #[(pq c1),(pq c2)])] H R:=
 fnS mixed Tryz.func67 (hz [(12,pSlc),(18,pSlc),(19,pNd),(32,pSlc),(36,(pInt .i64)),(40,(pInt .i64)),(49,pUn),(53,pSlc),(58,pSlc)]) _ H R (Eq.mp (by unfold putG.W;kernel_rfl) h)
theorem putVal1.enter (t:Nat) (l:Nat) (x:Nd) (c1:Nat) (c2:Nat) (H:Heap) (R:RR) (h:putG.W fq181 t l x c1 c2 H R):Fn PP fq67 #[(pq t),(pq l),(.agg #[(.int .i64 x.kind),(.string x.name),(.string x.alias),(.string x.text),(.int .i64 x.flag),(.int .i64 x.size)]),(.func (.func fq181) #[] #[(pq c1),(pq c2)])] H R:=
 fnS mixed Tryz.func67 (hz [(12,pSlc),(18,pSlc),(19,pNd),(32,pSlc),(36,(pInt .i64)),(40,(pInt .i64)),(49,pUn),(53,pSlc),(58,pSlc)]) _ H R (Eq.mp (by unfold putG.W;kernel_rfl) h)
theorem putVal2.enter (t:Nat) (l:Nat) (x:Nd) (c1:Nat) (c2:Nat) (H:Heap) (R:RR) (h:putG.W fq182 t l x c1 c2 H R):Fn PP fq67 #[(pq t),(pq l),(.agg #[(.int .i64 x.kind),(.string x.name),(.string x.alias),(.string x.text),(.int .i64 x.flag),(.int .i64 x.size)]),(.func (.func fq182) #[] #[(pq c1),(pq c2)])] H R:=
 fnS mixed Tryz.func67 (hz [(12,pSlc),(18,pSlc),(19,pNd),(32,pSlc),(36,(pInt .i64)),(40,(pInt .i64)),(49,pUn),(53,pSlc),(58,pSlc)]) _ H R (Eq.mp (by unfold putG.W;kernel_rfl) h)
theorem putVal21.enter (t:Nat) (l:Nat) (x:Nd) (c1:Nat) (c2:Nat) (H:Heap) (R:RR) (h:putG.W fq183 t l x c1 c2 H R):Fn PP fq67 #[(pq t),(pq l),(.agg #[(.int .i64 x.kind),(.string x.name),(.string x.alias),(.string x.text),(.int .i64 x.flag),(.int .i64 x.size)]),(.func (.func fq183) #[] #[(pq c1),(pq c2)])] H R:=
 fnS mixed Tryz.func67 (hz [(12,pSlc),(18,pSlc),(19,pNd),(32,pSlc),(36,(pInt .i64)),(40,(pInt .i64)),(49,pUn),(53,pSlc),(58,pSlc)]) _ H R (Eq.mp (by unfold putG.W;kernel_rfl) h)
theorem putTyp1.enter (t:Nat) (l:Nat) (x:Nd) (c1:Nat) (c2:Nat) (H:Heap) (R:RR) (h:putG.W fq179 t l x c1 c2 H R):Fn PP fq67 #[(pq t),(pq l),(.agg #[(.int .i64 x.kind),(.string x.name),(.string x.alias),(.string x.text),(.int .i64 x.flag),(.int .i64 x.size)]),(.func (.func fq179) #[] #[(pq c1),(pq c2)])] H R:=
 fnS mixed Tryz.func67 (hz [(12,pSlc),(18,pSlc),(19,pNd),(32,pSlc),(36,(pInt .i64)),(40,(pInt .i64)),(49,pUn),(53,pSlc),(58,pSlc)]) _ H R (Eq.mp (by unfold putG.W;kernel_rfl) h)
theorem putTyp2.enter (t:Nat) (l:Nat) (x:Nd) (c1:Nat) (c2:Nat) (H:Heap) (R:RR) (h:putG.W fq180 t l x c1 c2 H R):Fn PP fq67 #[(pq t),(pq l),(.agg #[(.int .i64 x.kind),(.string x.name),(.string x.alias),(.string x.text),(.int .i64 x.flag),(.int .i64 x.size)]),(.func (.func fq180) #[] #[(pq c1),(pq c2)])] H R:=
 fnS mixed Tryz.func67 (hz [(12,pSlc),(18,pSlc),(19,pNd),(32,pSlc),(36,(pInt .i64)),(40,(pInt .i64)),(49,pUn),(53,pSlc),(58,pSlc)]) _ H R (Eq.mp (by unfold putG.W;kernel_rfl) h)
def textOf.W (n:Nat) (H:Heap) (R:RR):Prop:=
 lw H n 2 pStr fun(x1:ByteArray)=>
 retK (some [(.string x1)]) H R
theorem textOf.enter (n:Nat) (H:Heap) (R:RR) (h:textOf.W n H R):Fn PP fq69 #[(pq n)] H R:=
 fnS mixed Tryz.func69 (hz [(8,pStr)]) _ H R (Eq.mp (by unfold textOf.W;kernel_rfl) h)
def onOf.W (n:Nat) (H:Heap) (R:RR):Prop:=
 lw H n 2 pPtr fun(x1:Option Addr)=>
 callW PP fq69 #[(.pointer x1)] H pStr fun(x2:ByteArray) H3=>
 retK (some [(.string x2)]) H3 R
theorem onOf.enter (n:Nat) (H:Heap) (R:RR) (h:onOf.W n H R):Fn PP fq68 #[(pq n)] H R:=
 fnS mixed Tryz.func68 (hz [(8,pPtr),(9,pStr)]) _ H R (Eq.mp (by unfold onOf.W;kernel_rfl) h)
def putNil.W (t:Nat) (l:Nat) (x:Nd) (H:Heap) (R:RR):Prop:=
 newB H (.cells #[(.int .i64 x.kind),(.string x.name),(.string x.alias),(.string x.text),(.int .i64 x.flag),(.int .i64 x.size)] tq41) fun b1 H2=>
 lw H2 t 0 pSlc fun(x3:Sl)=>
 lw H2 t 0 pSlc fun(x4:Sl)=>
 loadW H2 true 6 ⟨b1,0,none⟩ pNd fun(x5:Int×ByteArray×ByteArray×ByteArray×Int×Int)=>
 newB H2 (.cells #[(.int .i64 x5.1),(.string x5.2.1),(.string x5.2.2.1),(.string x5.2.2.2.1),(.int .i64 x5.2.2.2.2.1),(.int .i64 x5.2.2.2.2.2)] tq41) fun b6 H7=>
 lc H7 t 0 (.slice x4.1 x4.2.1 x4.2.2)∧
 appK H7 tq41 6 72 x4.1 x4.2.1 x4.2.2 (some ⟨b6,0,none⟩) 1 fun a8 c9 H10=>
 storeW H10 ⟨t,0,none⟩ [(.slice a8 (x4.2.1+1) c9)] fun H11=>
 lw H11 t 1 pSlc fun(x12:Sl)=>
 lw H11 l 0 (pInt .i64) fun(x13:Int)=>
 lw H11 l 1 (pInt .i64) fun(x14:Int)=>
 newB H11 (.cells #[(.int .i64 x13),(.int .i64 x14)] tq65) fun b15 H16=>
 lc H16 t 1 (.slice x12.1 x12.2.1 x12.2.2)∧
 appK H16 tq65 2 16 x12.1 x12.2.1 x12.2.2 (some ⟨b15,0,none⟩) 1 fun a17 c18 H19=>
 storeW H19 ⟨t,1,none⟩ [(.slice a17 (x12.2.1+1) c18)] fun H20=>
 lw H20 t 0 pSlc fun(x21:Sl)=>
 lw H20 t 0 pSlc fun(x22:Sl)=>
 (IxOk x21.1 ((x3.2.1:Nat):Int) x21.2.1)∧
 storeW H20 ⟨(blkOf x21.1),((offOf x21.1+((x3.2.1:Nat):Int).toNat*6)+5),none⟩ [(.int .i64 (IntKind.i64.wrap (((x22.2.1:Nat):Int) -((x3.2.1:Nat):Int))))] fun H23=>
 retK (some []) H23 R
theorem putNil.enter (t:Nat) (l:Nat) (x:Nd) (H:Heap) (R:RR) (h:putNil.W t l x H R):Fn PP fq67 #[(pq t),(pq l),(.agg #[(.int .i64 x.kind),(.string x.name),(.string x.alias),(.string x.text),(.int .i64 x.flag),(.int .i64 x.size)]),.nilFunc] H R:=
 fnS mixed Tryz.func67 (hz [(12,pSlc),(18,pSlc),(19,pNd),(32,pSlc),(36,(pInt .i64)),(40,(pInt .i64)),(53,pSlc),(58,pSlc)]) _ H R (Eq.mp (by unfold putNil.W;kernel_rfl) h)
def inArg.W (c1:Nat) (c2:Nat) (H:Heap) (R:RR):Prop:=
 lw H c1 0 pPtr fun(x1:Option Addr)=>
 lw H c2 0 pBlk fun(x2:Nat)=>
 lw H x2 3 pRaw fun(x3:Value)=>
 callW PP fq119 #[(.pointer x1),x3] H pUn fun(_:Unit) H5=>
 retK (some []) H5 R
theorem inArg.enter (c1:Nat) (c2:Nat) (H:Heap) (R:RR) (h:inArg.W c1 c2 H R):Fn PP fq120 #[(pq c1),(pq c2)] H R:=
 fnS mixed Tryz.func120 (hz [(2,pPtr),(3,pBlk),(6,pRaw),(7,pUn)]) _ H R (Eq.mp (by unfold inArg.W;kernel_rfl) h)
def inDir.W (c1:Nat) (c2:Nat) (H:Heap) (R:RR):Prop:=
 lw H c1 0 pPtr fun(x1:Option Addr)=>
 lw H c2 0 pBlk fun(x2:Nat)=>
 lw H x2 3 pSlc fun(x3:Sl)=>
 callW PP fq64 #[(.pointer x1),(.slice x3.1 x3.2.1 x3.2.2)] H pUn fun(_:Unit) H5=>
 retK (some []) H5 R
theorem inDir.enter (c1:Nat) (c2:Nat) (H:Heap) (R:RR) (h:inDir.W c1 c2 H R):Fn PP fq121 #[(pq c1),(pq c2)] H R:=
 fnS mixed Tryz.func121 (hz [(2,pPtr),(3,pBlk),(6,pSlc),(7,pUn)]) _ H R (Eq.mp (by unfold inDir.W;kernel_rfl) h)
def inFieldD.W (c1:Nat) (c2:Nat) (H:Heap) (R:RR):Prop:=
 lw H c1 0 pPtr fun(x1:Option Addr)=>
 lw H c2 0 pBlk fun(x2:Nat)=>
 lw H x2 3 pPtr fun(x3:Option Addr)=>
 callW PP fq66 #[(.pointer x1),(.pointer x3)] H pUn fun(_:Unit) H5=>
 lw H5 c1 0 pPtr fun(x6:Option Addr)=>
 lw H5 c2 0 pBlk fun(x7:Nat)=>
 lw H5 x7 4 pSlc fun(x8:Sl)=>
 callW PP fq71 #[(.pointer x6),(.slice x8.1 x8.2.1 x8.2.2)] H5 pUn fun(_:Unit) H10=>
 lw H10 c1 0 pPtr fun(x11:Option Addr)=>
 lw H10 c2 0 pBlk fun(x12:Nat)=>
 lw H10 x12 5 pRaw fun(x13:Value)=>
 callW PP fq118 #[(.pointer x11),x13] H10 pUn fun(_:Unit) H15=>
 lw H15 c1 0 pPtr fun(x16:Option Addr)=>
 lw H15 c2 0 pBlk fun(x17:Nat)=>
 lw H15 x17 6 pSlc fun(x18:Sl)=>
 callW PP fq65 #[(.pointer x16),(.slice x18.1 x18.2.1 x18.2.2)] H15 pUn fun(_:Unit) H20=>
 retK (some []) H20 R
theorem inFieldD.enter (c1:Nat) (c2:Nat) (H:Heap) (R:RR) (h:inFieldD.W c1 c2 H R):Fn PP fq122 #[(pq c1),(pq c2)] H R:=
 fnS mixed Tryz.func122 (hz [(2,pPtr),(3,pBlk),(6,pPtr),(7,pUn),(8,pPtr),(9,pBlk),(12,pSlc),(13,pUn),(14,pPtr),(15,pBlk),(18,pRaw),(19,pUn),(20,pPtr),(21,pBlk),(24,pSlc),(25,pUn)]) _ H R (Eq.mp (by unfold inFieldD.W;kernel_rfl) h)
def inInputD.W (c1:Nat) (c2:Nat) (H:Heap) (R:RR):Prop:=
 lw H c1 0 pPtr fun(x1:Option Addr)=>
 lw H c2 0 pBlk fun(x2:Nat)=>
 lw H x2 3 pPtr fun(x3:Option Addr)=>
 callW PP fq66 #[(.pointer x1),(.pointer x3)] H pUn fun(_:Unit) H5=>
 lw H5 c1 0 pPtr fun(x6:Option Addr)=>
 lw H5 c2 0 pBlk fun(x7:Nat)=>
 lw H5 x7 4 pRaw fun(x8:Value)=>
 callW PP fq118 #[(.pointer x6),x8] H5 pUn fun(_:Unit) H10=>
 lw H10 c2 0 pBlk fun(x11:Nat)=>
 lw H10 x11 5 pIf fun(_x12:(Nat×Nat))=>
 lw H10 c1 0 pPtr fun(x13:Option Addr)=>
 lw H10 c2 0 pBlk fun(x14:Nat)=>
 lw H10 x14 5 pIf fun(x15:(Nat×Nat))=>
 callW PP fq119 #[(.pointer x13),(.iface x15.1 (pq x15.2))] H10 pUn fun(_:Unit) H17=>
 lw H17 c1 0 pPtr fun(x18:Option Addr)=>
 lw H17 c2 0 pBlk fun(x19:Nat)=>
 lw H17 x19 6 pSlc fun(x20:Sl)=>
 callW PP fq65 #[(.pointer x18),(.slice x20.1 x20.2.1 x20.2.2)] H17 pUn fun(_:Unit) H22=>
 retK (some []) H22 R
theorem inInputD.enter (c1:Nat) (c2:Nat) (H:Heap) (R:RR) (h:inInputD.W c1 c2 H R):Fn PP fq123 #[(pq c1),(pq c2)] H R:=
 fnS mixed Tryz.func123 (hz [(2,pPtr),(3,pBlk),(6,pPtr),(7,pUn),(8,pPtr),(9,pBlk),(12,pRaw),(13,pUn),(14,pBlk),(17,pIf),(19,pPtr),(20,pBlk),(23,pIf),(24,pUn),(25,pPtr),(26,pBlk),(29,pSlc),(30,pUn)]) _ H R (Eq.mp (by unfold inInputD.W;kernel_rfl) h)
def inInputD0.W (c1:Nat) (c2:Nat) (H:Heap) (R:RR):Prop:=
 lw H c1 0 pPtr fun(x1:Option Addr)=>
 lw H c2 0 pBlk fun(x2:Nat)=>
 lw H x2 3 pPtr fun(x3:Option Addr)=>
 callW PP fq66 #[(.pointer x1),(.pointer x3)] H pUn fun(_:Unit) H5=>
 lw H5 c1 0 pPtr fun(x6:Option Addr)=>
 lw H5 c2 0 pBlk fun(x7:Nat)=>
 lw H5 x7 4 pRaw fun(x8:Value)=>
 callW PP fq118 #[(.pointer x6),x8] H5 pUn fun(_:Unit) H10=>
 lw H10 c2 0 pBlk fun(x11:Nat)=>
 lw H10 x11 5 ⟨Unit,fun _=> .nilIface⟩ fun(_x12:Unit)=>
 lw H10 c1 0 pPtr fun(x13:Option Addr)=>
 lw H10 c2 0 pBlk fun(x14:Nat)=>
 lw H10 x14 6 pSlc fun(x15:Sl)=>
 callW PP fq65 #[(.pointer x13),(.slice x15.1 x15.2.1 x15.2.2)] H10 pUn fun(_:Unit) H17=>
 retK (some []) H17 R
theorem inInputD0.enter (c1:Nat) (c2:Nat) (H:Heap) (R:RR) (h:inInputD0.W c1 c2 H R):Fn PP fq123 #[(pq c1),(pq c2)] H R:=
 fnS mixed Tryz.func123 (hz [(2,pPtr),(3,pBlk),(6,pPtr),(7,pUn),(8,pPtr),(9,pBlk),(12,pRaw),(13,pUn),(14,pBlk),(17,⟨Unit,fun _=> .nilIface⟩),(25,pPtr),(26,pBlk),(29,pSlc),(30,pUn)]) _ H R (Eq.mp (by unfold inInputD0.W;kernel_rfl) h)
def inSys2.W (c1:Nat) (c2:Nat) (H:Heap) (R:RR):Prop:=
 lw H c1 0 pPtr fun(x1:Option Addr)=>
 lw H c2 0 pBlk fun(x2:Nat)=>
 lw H x2 2 pPtr fun(x3:Option Addr)=>
 callW PP fq66 #[(.pointer x1),(.pointer x3)] H pUn fun(_:Unit) H5=>
 lw H5 c1 0 pPtr fun(x6:Option Addr)=>
 lw H5 c2 0 pBlk fun(x7:Nat)=>
 lw H5 x7 4 pSlc fun(x8:Sl)=>
 callW PP fq65 #[(.pointer x6),(.slice x8.1 x8.2.1 x8.2.2)] H5 pUn fun(_:Unit) H10=>
 retK (some []) H10 R
theorem inSys2.enter (c1:Nat) (c2:Nat) (H:Heap) (R:RR) (h:inSys2.W c1 c2 H R):Fn PP fq186 #[(pq c1),(pq c2)] H R:=
 fnS mixed Tryz.func186 (hz [(2,pPtr),(3,pBlk),(6,pPtr),(7,pUn),(8,pPtr),(9,pBlk),(12,pSlc),(13,pUn)]) _ H R (Eq.mp (by unfold inSys2.W;kernel_rfl) h)
def inSys3.W (c1:Nat) (c2:Nat) (H:Heap) (R:RR):Prop:=
 lw H c1 0 pPtr fun(x1:Option Addr)=>
 lw H c2 0 pBlk fun(x2:Nat)=>
 lw H x2 3 pPtr fun(x3:Option Addr)=>
 callW PP fq66 #[(.pointer x1),(.pointer x3)] H pUn fun(_:Unit) H5=>
 lw H5 c1 0 pPtr fun(x6:Option Addr)=>
 lw H5 c2 0 pBlk fun(x7:Nat)=>
 lw H5 x7 4 pSlc fun(x8:Sl)=>
 callW PP fq65 #[(.pointer x6),(.slice x8.1 x8.2.1 x8.2.2)] H5 pUn fun(_:Unit) H10=>
 lw H10 c1 0 pPtr fun(x11:Option Addr)=>
 lw H10 c2 0 pBlk fun(x12:Nat)=>
 lw H10 x12 5 pSlc fun(x13:Sl)=>
 callW PP fq70 #[(.pointer x11),(.slice x13.1 x13.2.1 x13.2.2)] H10 pUn fun(_:Unit) H15=>
 retK (some []) H15 R
theorem inSys3.enter (c1:Nat) (c2:Nat) (H:Heap) (R:RR) (h:inSys3.W c1 c2 H R):Fn PP fq188 #[(pq c1),(pq c2)] H R:=
 fnS mixed Tryz.func188 (hz [(2,pPtr),(3,pBlk),(6,pPtr),(7,pUn),(8,pPtr),(9,pBlk),(12,pSlc),(13,pUn),(14,pPtr),(15,pBlk),(18,pSlc),(19,pUn)]) _ H R (Eq.mp (by unfold inSys3.W;kernel_rfl) h)
def inSys5.W (c1:Nat) (c2:Nat) (H:Heap) (R:RR):Prop:=
 lw H c1 0 pPtr fun(x1:Option Addr)=>
 lw H c2 0 pBlk fun(x2:Nat)=>
 lw H x2 3 pPtr fun(x3:Option Addr)=>
 callW PP fq66 #[(.pointer x1),(.pointer x3)] H pUn fun(_:Unit) H5=>
 lw H5 c1 0 pPtr fun(x6:Option Addr)=>
 lw H5 c2 0 pBlk fun(x7:Nat)=>
 lw H5 x7 4 pSlc fun(x8:Sl)=>
 callW PP fq65 #[(.pointer x6),(.slice x8.1 x8.2.1 x8.2.2)] H5 pUn fun(_:Unit) H10=>
 lw H10 c2 0 pBlk fun(x11:Nat)=>
 lw H10 x11 5 pSlc fun(x12:Sl)=>
 loopK (Int×Unit) (0,()) H10 fun z13 H14 next15=>
 forkB (decide (z13.1<((x12.2.1:Nat):Int)))
 ((IxOk x12.1 z13.1 x12.2.1)∧
 loadW H14 false 1 ⟨(blkOf x12.1),(offOf x12.1+z13.1.toNat*1),none⟩ pBlk fun(x16:Nat)=>
 newB H14 (.cells #[(.pointer none)] tq123) fun b17 H18=>
 storeW H18 ⟨b17,0,none⟩ [(pq x16)] fun H19=>
 lw H19 c1 0 pPtr fun(x20:Option Addr)=>
 lw H19 b17 0 pBlk fun(x21:Nat)=>
 lw H19 x21 1 pPtr fun(x22:Option Addr)=>
 lw H19 b17 0 pBlk fun(x23:Nat)=>
 lw H19 x23 2 pPtr fun(x24:Option Addr)=>
 callW PP fq69 #[(.pointer x24)] H19 pStr fun(x25:ByteArray) H26=>
 lc H26 x21 1 (.pointer x22)∧
 lc H26 b17 0 (pq x21)∧
 lc H26 c1 0 (.pointer x20)∧
 callW PP fq67 #[(.pointer x20),(.pointer x22),(.agg #[(.int .i64 35),(.string x25),(.string (bs [])),(.string (bs [])),(.int .i64 0),(.int .i64 0)]),(.func (.func fq191) #[] #[(pq c1),(pq b17)])] H26 pUn fun(_:Unit) H28=>
 lc H28 b17 0 (pq x23)∧
 next15 ((IntKind.i64.wrap (z13.1+1)),()) H28)
 (retK (some []) H14 R)
theorem inSys5.enter (c1:Nat) (c2:Nat) (H:Heap) (R:RR) (h:inSys5.W c1 c2 H R):Fn PP fq190 #[(pq c1),(pq c2)] H R:=
 fnS mixed Tryz.func190 ⟨patL [(4,pPtr),(5,pBlk),(8,pPtr),(9,pUn),(10,pPtr),(11,pBlk),(14,pSlc),(15,pUn),(16,pBlk),(19,pSlc),(24,pBlk),(25,pPtr),(26,pBlk),(29,pPtr),(30,pBlk),(33,pPtr),(34,pStr),(37,pUn)],loopL [(0,[Slot.int .i64 21])],joinL [],joinL [],joinRL []⟩ _ H R (Eq.mp (by unfold inSys5.W;kernel_rfl) h)
def inSys51.W (c1:Nat) (c2:Nat) (H:Heap) (R:RR):Prop:=
 lw H c1 0 pPtr fun(x1:Option Addr)=>
 lw H c2 0 pBlk fun(x2:Nat)=>
 lw H x2 3 pPtr fun(x3:Option Addr)=>
 callW PP fq66 #[(.pointer x1),(.pointer x3)] H pUn fun(_:Unit) H5=>
 lw H5 c1 0 pPtr fun(x6:Option Addr)=>
 lw H5 c2 0 pBlk fun(x7:Nat)=>
 lw H5 x7 4 pSlc fun(x8:Sl)=>
 callW PP fq65 #[(.pointer x6),(.slice x8.1 x8.2.1 x8.2.2)] H5 pUn fun(_:Unit) H10=>
 retK (some []) H10 R
theorem inSys51.enter (c1:Nat) (c2:Nat) (H:Heap) (R:RR) (h:inSys51.W c1 c2 H R):Fn PP fq191 #[(pq c1),(pq c2)] H R:=
 fnS mixed Tryz.func191 (hz [(2,pPtr),(3,pBlk),(6,pPtr),(7,pUn),(8,pPtr),(9,pBlk),(12,pSlc),(13,pUn)]) _ H R (Eq.mp (by unfold inSys51.W;kernel_rfl) h)
def inSys6.W (c1:Nat) (c2:Nat) (H:Heap) (R:RR):Prop:=
 lw H c1 0 pPtr fun(x1:Option Addr)=>
 lw H c2 0 pBlk fun(x2:Nat)=>
 lw H x2 3 pPtr fun(x3:Option Addr)=>
 callW PP fq66 #[(.pointer x1),(.pointer x3)] H pUn fun(_:Unit) H5=>
 lw H5 c1 0 pPtr fun(x6:Option Addr)=>
 lw H5 c2 0 pBlk fun(x7:Nat)=>
 lw H5 x7 4 pSlc fun(x8:Sl)=>
 callW PP fq65 #[(.pointer x6),(.slice x8.1 x8.2.1 x8.2.2)] H5 pUn fun(_:Unit) H10=>
 lw H10 c1 0 pPtr fun(x11:Option Addr)=>
 lw H10 c2 0 pBlk fun(x12:Nat)=>
 lw H10 x12 5 pSlc fun(x13:Sl)=>
 callW PP fq71 #[(.pointer x11),(.slice x13.1 x13.2.1 x13.2.2)] H10 pUn fun(_:Unit) H15=>
 retK (some []) H15 R
theorem inSys6.enter (c1:Nat) (c2:Nat) (H:Heap) (R:RR) (h:inSys6.W c1 c2 H R):Fn PP fq192 #[(pq c1),(pq c2)] H R:=
 fnS mixed Tryz.func192 (hz [(2,pPtr),(3,pBlk),(6,pPtr),(7,pUn),(8,pPtr),(9,pBlk),(12,pSlc),(13,pUn),(14,pPtr),(15,pBlk),(18,pSlc),(19,pUn)]) _ H R (Eq.mp (by unfold inSys6.W;kernel_rfl) h)
def inSys7.W (c1:Nat) (c2:Nat) (H:Heap) (R:RR):Prop:=
 lw H c1 0 pPtr fun(x1:Option Addr)=>
 lw H c2 0 pBlk fun(x2:Nat)=>
 lw H x2 3 pPtr fun(x3:Option Addr)=>
 callW PP fq66 #[(.pointer x1),(.pointer x3)] H pUn fun(_:Unit) H5=>
 lw H5 c1 0 pPtr fun(x6:Option Addr)=>
 lw H5 c2 0 pBlk fun(x7:Nat)=>
 lw H5 x7 4 pSlc fun(x8:Sl)=>
 callW PP fq71 #[(.pointer x6),(.slice x8.1 x8.2.1 x8.2.2)] H5 pUn fun(_:Unit) H10=>
 lw H10 c2 0 pBlk fun(x11:Nat)=>
 lw H10 x11 5 pSlc fun(x12:Sl)=>
 loopK (Int×Unit) (0,()) H10 fun z13 H14 next15=>
 forkB (decide (z13.1<((x12.2.1:Nat):Int)))
 ((IxOk x12.1 z13.1 x12.2.1)∧
 loadW H14 false 1 ⟨(blkOf x12.1),(offOf x12.1+z13.1.toNat*1),none⟩ pBlk fun(x16:Nat)=>
 lw H14 c1 0 pPtr fun(x17:Option Addr)=>
 lw H14 x16 1 pPtr fun(x18:Option Addr)=>
 callW PP fq69 #[(pq x16)] H14 pStr fun(x19:ByteArray) H20=>
 lc H20 x16 1 (.pointer x18)∧
 lc H20 c1 0 (.pointer x17)∧
 callW PP fq67 #[(.pointer x17),(.pointer x18),(.agg #[(.int .i64 38),(.string x19),(.string (bs [])),(.string (bs [])),(.int .i64 0),(.int .i64 0)]),.nilFunc] H20 pUn fun(_:Unit) H22=>
 next15 ((IntKind.i64.wrap (z13.1+1)),()) H22)
 (retK (some []) H14 R)
theorem inSys7.enter (c1:Nat) (c2:Nat) (H:Heap) (R:RR) (h:inSys7.W c1 c2 H R):Fn PP fq193 #[(pq c1),(pq c2)] H R:=
 fnS mixed Tryz.func193 ⟨patL [(4,pPtr),(5,pBlk),(8,pPtr),(9,pUn),(10,pPtr),(11,pBlk),(14,pSlc),(15,pUn),(16,pBlk),(19,pSlc),(24,pBlk),(25,pPtr),(29,pPtr),(31,pStr),(33,pUn)],loopL [(0,[Slot.int .i64 21])],joinL [],joinL [],joinRL []⟩ _ H R (Eq.mp (by unfold inSys7.W;kernel_rfl) h)
def inSys8.W (c1:Nat) (c2:Nat) (H:Heap) (R:RR):Prop:=
 lw H c1 0 pPtr fun(x1:Option Addr)=>
 lw H c2 0 pBlk fun(x2:Nat)=>
 lw H x2 2 pPtr fun(x3:Option Addr)=>
 callW PP fq187 #[(.pointer x1),(.pointer x3)] H pUn fun(_:Unit) H5=>
 retK (some []) H5 R
theorem inSys8.enter (c1:Nat) (c2:Nat) (H:Heap) (R:RR) (h:inSys8.W c1 c2 H R):Fn PP fq194 #[(pq c1),(pq c2)] H R:=
 fnS mixed Tryz.func194 (hz [(2,pPtr),(3,pBlk),(6,pPtr),(7,pUn)]) _ H R (Eq.mp (by unfold inSys8.W;kernel_rfl) h)
def inObj.W (c1:Nat) (c2:Nat) (H:Heap) (R:RR):Prop:=
 lw H c1 0 pPtr fun(x1:Option Addr)=>
 lw H c2 0 pBlk fun(x2:Nat)=>
 lw H x2 3 pPtr fun(x3:Option Addr)=>
 callW PP fq66 #[(.pointer x1),(.pointer x3)] H pUn fun(_:Unit) H5=>
 lw H5 c2 0 pBlk fun(x6:Nat)=>
 lw H5 x6 4 pSlc fun(x7:Sl)=>
 loopK (Int×Unit) (0,()) H5 fun z8 H9 next10=>
 forkB (decide (z8.1<((x7.2.1:Nat):Int)))
 ((IxOk x7.1 z8.1 x7.2.1)∧
 loadW H9 false 1 ⟨(blkOf x7.1),(offOf x7.1+z8.1.toNat*1),none⟩ pBlk fun(x11:Nat)=>
 lw H9 c1 0 pPtr fun(x12:Option Addr)=>
 lw H9 x11 1 pPtr fun(x13:Option Addr)=>
 callW PP fq68 #[(pq x11)] H9 pStr fun(x14:ByteArray) H15=>
 lc H15 x11 1 (.pointer x13)∧
 lc H15 c1 0 (.pointer x12)∧
 callW PP fq67 #[(.pointer x12),(.pointer x13),(.agg #[(.int .i64 28),(.string x14),(.string (bs [])),(.string (bs [])),(.int .i64 0),(.int .i64 0)]),.nilFunc] H15 pUn fun(_:Unit) H17=>
 next10 ((IntKind.i64.wrap (z8.1+1)),()) H17)
 (lw H9 c1 0 pPtr fun(x18:Option Addr)=>
 lw H9 c2 0 pBlk fun(x19:Nat)=>
 lw H9 x19 5 pSlc fun(x20:Sl)=>
 callW PP fq65 #[(.pointer x18),(.slice x20.1 x20.2.1 x20.2.2)] H9 pUn fun(_:Unit) H22=>
 lw H22 c1 0 pPtr fun(x23:Option Addr)=>
 lw H22 c2 0 pBlk fun(x24:Nat)=>
 lw H22 x24 6 pSlc fun(x25:Sl)=>
 callW PP fq70 #[(.pointer x23),(.slice x25.1 x25.2.1 x25.2.2)] H22 pUn fun(_:Unit) H27=>
 retK (some []) H27 R)
theorem inObj.enter (c1:Nat) (c2:Nat) (H:Heap) (R:RR) (h:inObj.W c1 c2 H R):Fn PP fq216 #[(pq c1),(pq c2)] H R:=
 fnS mixed Tryz.func216 ⟨patL [(4,pPtr),(5,pBlk),(8,pPtr),(9,pUn),(10,pBlk),(13,pSlc),(18,pBlk),(19,pPtr),(23,pPtr),(25,pStr),(27,pUn),(29,pPtr),(30,pBlk),(33,pSlc),(34,pUn),(35,pPtr),(36,pBlk),(39,pSlc),(40,pUn)],loopL [(0,[Slot.int .i64 15])],joinL [],joinL [],joinRL []⟩ _ H R (Eq.mp (by unfold inObj.W;kernel_rfl) h)
def inVal1.W (c1:Nat) (c2:Nat) (H:Heap) (R:RR):Prop:=
 lw H c1 0 pBlk fun(x1:Nat)=>
 lw H x1 2 pSlc fun(x2:Sl)=>
 loopK (Int×Unit) (0,()) H fun z3 H4 next5=>
 forkB (decide (z3.1<((x2.2.1:Nat):Int)))
 ((IxOk x2.1 z3.1 x2.2.1)∧
 loadW H4 false 1 ⟨(blkOf x2.1),(offOf x2.1+z3.1.toNat*1),none⟩ pRaw fun(x6:Value)=>
 lw H4 c2 0 pPtr fun(x7:Option Addr)=>
 callW PP fq119 #[(.pointer x7),x6] H4 pUn fun(_:Unit) H9=>
 next5 ((IntKind.i64.wrap (z3.1+1)),()) H9)
 (retK (some []) H4 R)
theorem inVal1.enter (c1:Nat) (c2:Nat) (H:Heap) (R:RR) (h:inVal1.W c1 c2 H R):Fn PP fq181 #[(pq c1),(pq c2)] H R:=
 fnS mixed Tryz.func181 ⟨patL [(4,pBlk),(7,pSlc),(12,pRaw),(13,pPtr),(15,pUn)],loopL [(0,[Slot.int .i64 9])],joinL [],joinL [],joinRL []⟩ _ H R (Eq.mp (by unfold inVal1.W;kernel_rfl) h)
def inVal2.W (c1:Nat) (c2:Nat) (H:Heap) (R:RR):Prop:=
 lw H c1 0 pBlk fun(x1:Nat)=>
 lw H x1 2 pSlc fun(x2:Sl)=>
 loopK (Int×Unit) (0,()) H fun z3 H4 next5=>
 forkB (decide (z3.1<((x2.2.1:Nat):Int)))
 ((IxOk x2.1 z3.1 x2.2.1)∧
 loadW H4 false 1 ⟨(blkOf x2.1),(offOf x2.1+z3.1.toNat*1),none⟩ pBlk fun(x6:Nat)=>
 newB H4 (.cells #[(.pointer none)] tq317) fun b7 H8=>
 storeW H8 ⟨b7,0,none⟩ [(pq x6)] fun H9=>
 lw H9 c2 0 pPtr fun(x10:Option Addr)=>
 lw H9 b7 0 pBlk fun(x11:Nat)=>
 lw H9 x11 2 pPtr fun(x12:Option Addr)=>
 lw H9 b7 0 pBlk fun(x13:Nat)=>
 lw H9 x13 1 pPtr fun(x14:Option Addr)=>
 callW PP fq69 #[(.pointer x14)] H9 pStr fun(x15:ByteArray) H16=>
 lc H16 x11 2 (.pointer x12)∧
 lc H16 b7 0 (pq x11)∧
 lc H16 c2 0 (.pointer x10)∧
 callW PP fq67 #[(.pointer x10),(.pointer x12),(.agg #[(.int .i64 19),(.string x15),(.string (bs [])),(.string (bs [])),(.int .i64 0),(.int .i64 0)]),(.func (.func fq183) #[] #[(pq c2),(pq b7)])] H16 pUn fun(_:Unit) H18=>
 lc H18 b7 0 (pq x13)∧
 next5 ((IntKind.i64.wrap (z3.1+1)),()) H18)
 (retK (some []) H4 R)
theorem inVal2.enter (c1:Nat) (c2:Nat) (H:Heap) (R:RR) (h:inVal2.W c1 c2 H R):Fn PP fq182 #[(pq c1),(pq c2)] H R:=
 fnS mixed Tryz.func182 ⟨patL [(4,pBlk),(7,pSlc),(12,pBlk),(13,pPtr),(14,pBlk),(17,pPtr),(18,pBlk),(21,pPtr),(22,pStr),(25,pUn)],loopL [(0,[Slot.int .i64 9])],joinL [],joinL [],joinRL []⟩ _ H R (Eq.mp (by unfold inVal2.W;kernel_rfl) h)
def inVal21.W (c1:Nat) (c2:Nat) (H:Heap) (R:RR):Prop:=
 lw H c1 0 pPtr fun(x1:Option Addr)=>
 lw H c2 0 pBlk fun(x2:Nat)=>
 lw H x2 3 pRaw fun(x3:Value)=>
 callW PP fq119 #[(.pointer x1),x3] H pUn fun(_:Unit) H5=>
 retK (some []) H5 R
theorem inVal21.enter (c1:Nat) (c2:Nat) (H:Heap) (R:RR) (h:inVal21.W c1 c2 H R):Fn PP fq183 #[(pq c1),(pq c2)] H R:=
 fnS mixed Tryz.func183 (hz [(2,pPtr),(3,pBlk),(6,pRaw),(7,pUn)]) _ H R (Eq.mp (by unfold inVal21.W;kernel_rfl) h)
def inTyp1.W (c1:Nat) (c2:Nat) (H:Heap) (R:RR):Prop:=
 lw H c1 0 pPtr fun(x1:Option Addr)=>
 lw H c2 0 pBlk fun(x2:Nat)=>
 lw H x2 2 pRaw fun(x3:Value)=>
 callW PP fq118 #[(.pointer x1),x3] H pUn fun(_:Unit) H5=>
 retK (some []) H5 R
theorem inTyp1.enter (c1:Nat) (c2:Nat) (H:Heap) (R:RR) (h:inTyp1.W c1 c2 H R):Fn PP fq179 #[(pq c1),(pq c2)] H R:=
 fnS mixed Tryz.func179 (hz [(2,pPtr),(3,pBlk),(6,pRaw),(7,pUn)]) _ H R (Eq.mp (by unfold inTyp1.W;kernel_rfl) h)
def inTyp2.W (c1:Nat) (c2:Nat) (H:Heap) (R:RR):Prop:=
 lw H c1 0 pPtr fun(x1:Option Addr)=>
 lw H c2 0 pBlk fun(x2:Nat)=>
 lw H x2 2 pRaw fun(x3:Value)=>
 callW PP fq118 #[(.pointer x1),x3] H pUn fun(_:Unit) H5=>
 retK (some []) H5 R
theorem inTyp2.enter (c1:Nat) (c2:Nat) (H:Heap) (R:RR) (h:inTyp2.W c1 c2 H R):Fn PP fq180 #[(pq c1),(pq c2)] H R:=
 fnS mixed Tryz.func180 (hz [(2,pPtr),(3,pBlk),(6,pRaw),(7,pUn)]) _ H R (Eq.mp (by unfold inTyp2.W;kernel_rfl) h)
def description1.W (t:Nat) (s:Nat) (H:Heap) (R:RR):Prop:=
 lw H s 1 pPtr fun(x1:Option Addr)=>
 lw H s 2 pStr fun(x2:ByteArray)=>
 callW PP fq67 #[(pq t),(.pointer x1),(.agg #[(.int .i64 23),(.string (bs [])),(.string (bs [])),(.string x2),(.int .i64 0),(.int .i64 0)]),.nilFunc] H pUn fun(_:Unit) H4=>
 retK (some []) H4 R
theorem description1.enter (t:Nat) (s:Nat) (H:Heap) (R:RR) (h:description1.W t s H R):Fn PP fq66 #[(pq t),(pq s)] H R:=
 fnS mixed Tryz.func66 (hz [(10,pPtr),(14,pStr),(16,pUn)]) _ H R (Eq.mp (by unfold description1.W;kernel_rfl) h)
def description0.W (_t:Nat) (H:Heap) (R:RR):Prop:=
 retK (some []) H R
theorem description0.enter (t:Nat) (H:Heap) (R:RR) (h:description0.W t H R):Fn PP fq66 #[(pq t),(.pointer none)] H R:=
 fnS mixed Tryz.func66 (hz []) _ H R (Eq.mp (by unfold description0.W;kernel_rfl) h)
def argumentsT.W (t:Nat) (l:Option Addr) (lN _lC:Nat) (H:Heap) (R:RR):Prop:=
 newB H (.cells #[(pq t)] tq60) fun b1 H2=>
 loopK (Int×Unit) (0,()) H2 fun z3 H4 next5=>
 forkB (decide (z3.1<((lN:Nat):Int)))
 ((IxOk l z3.1 lN)∧
 loadW H4 false 1 ⟨(blkOf l),(offOf l+z3.1.toNat*1),none⟩ pBlk fun(x6:Nat)=>
 newB H4 (.cells #[(.pointer none)] tq96) fun b7 H8=>
 storeW H8 ⟨b7,0,none⟩ [(pq x6)] fun H9=>
 lw H9 b1 0 pPtr fun(x10:Option Addr)=>
 lw H9 b7 0 pBlk fun(x11:Nat)=>
 lw H9 x11 1 pPtr fun(x12:Option Addr)=>
 lw H9 b7 0 pBlk fun(x13:Nat)=>
 lw H9 x13 2 pPtr fun(x14:Option Addr)=>
 callW PP fq69 #[(.pointer x14)] H9 pStr fun(x15:ByteArray) H16=>
 lc H16 x11 1 (.pointer x12)∧
 lc H16 b7 0 (pq x11)∧
 lc H16 b1 0 (.pointer x10)∧
 callW PP fq67 #[(.pointer x10),(.pointer x12),(.agg #[(.int .i64 9),(.string x15),(.string (bs [])),(.string (bs [])),(.int .i64 0),(.int .i64 0)]),(.func (.func fq120) #[] #[(pq b1),(pq b7)])] H16 pUn fun(_:Unit) H18=>
 lc H18 b7 0 (pq x13)∧
 next5 ((IntKind.i64.wrap (z3.1+1)),()) H18)
 (retK (some []) H4 R)
theorem argumentsT.enter (t:Nat) (l:Option Addr) (lN lC:Nat) (H:Heap) (R:RR) (h:argumentsT.W t l lN lC H R):Fn PP fq64 #[(pq t),(.slice l lN lC)] H R:=
 fnS mixed Tryz.func64 ⟨patL [(11,pBlk),(12,pPtr),(13,pBlk),(16,pPtr),(17,pBlk),(20,pPtr),(21,pStr),(24,pUn)],loopL [(0,[Slot.int .i64 8])],joinL [],joinL [],joinRL []⟩ _ H R (Eq.mp (by unfold argumentsT.W;kernel_rfl) h)
def directivesT.W (t:Nat) (l:Option Addr) (lN _lC:Nat) (H:Heap) (R:RR):Prop:=
 newB H (.cells #[(pq t)] tq60) fun b1 H2=>
 loopK (Int×Unit) (0,()) H2 fun z3 H4 next5=>
 forkB (decide (z3.1<((lN:Nat):Int)))
 ((IxOk l z3.1 lN)∧
 loadW H4 false 1 ⟨(blkOf l),(offOf l+z3.1.toNat*1),none⟩ pBlk fun(x6:Nat)=>
 newB H4 (.cells #[(.pointer none)] tq99) fun b7 H8=>
 storeW H8 ⟨b7,0,none⟩ [(pq x6)] fun H9=>
 lw H9 b1 0 pPtr fun(x10:Option Addr)=>
 lw H9 b7 0 pBlk fun(x11:Nat)=>
 lw H9 x11 1 pPtr fun(x12:Option Addr)=>
 lw H9 b7 0 pBlk fun(x13:Nat)=>
 lw H9 x13 2 pPtr fun(x14:Option Addr)=>
 callW PP fq69 #[(.pointer x14)] H9 pStr fun(x15:ByteArray) H16=>
 lc H16 x11 1 (.pointer x12)∧
 lc H16 b7 0 (pq x11)∧
 lc H16 b1 0 (.pointer x10)∧
 callW PP fq67 #[(.pointer x10),(.pointer x12),(.agg #[(.int .i64 10),(.string x15),(.string (bs [])),(.string (bs [])),(.int .i64 0),(.int .i64 0)]),(.func (.func fq121) #[] #[(pq b1),(pq b7)])] H16 pUn fun(_:Unit) H18=>
 lc H18 b7 0 (pq x13)∧
 next5 ((IntKind.i64.wrap (z3.1+1)),()) H18)
 (retK (some []) H4 R)
theorem directivesT.enter (t:Nat) (l:Option Addr) (lN lC:Nat) (H:Heap) (R:RR) (h:directivesT.W t l lN lC H R):Fn PP fq65 #[(pq t),(.slice l lN lC)] H R:=
 fnS mixed Tryz.func65 ⟨patL [(11,pBlk),(12,pPtr),(13,pBlk),(16,pPtr),(17,pBlk),(20,pPtr),(21,pStr),(24,pUn)],loopL [(0,[Slot.int .i64 8])],joinL [],joinL [],joinRL []⟩ _ H R (Eq.mp (by unfold directivesT.W;kernel_rfl) h)
def inputsT.W (t:Nat) (l:Option Addr) (lN _lC:Nat) (H:Heap) (R:RR):Prop:=
 newB H (.cells #[(pq t)] tq60) fun b1 H2=>
 loopK (Int×Unit) (0,()) H2 fun z3 H4 next5=>
 forkB (decide (z3.1<((lN:Nat):Int)))
 ((IxOk l z3.1 lN)∧
 loadW H4 false 1 ⟨(blkOf l),(offOf l+z3.1.toNat*1),none⟩ pBlk fun(x6:Nat)=>
 newB H4 (.cells #[(.pointer none)] tq120) fun b7 H8=>
 storeW H8 ⟨b7,0,none⟩ [(pq x6)] fun H9=>
 lw H9 b1 0 pPtr fun(x10:Option Addr)=>
 lw H9 b7 0 pBlk fun(x11:Nat)=>
 lw H9 x11 1 pPtr fun(x12:Option Addr)=>
 lw H9 b7 0 pBlk fun(x13:Nat)=>
 lw H9 x13 2 pPtr fun(x14:Option Addr)=>
 callW PP fq69 #[(.pointer x14)] H9 pStr fun(x15:ByteArray) H16=>
 lc H16 x11 1 (.pointer x12)∧
 lc H16 b7 0 (pq x11)∧
 lc H16 b1 0 (.pointer x10)∧
 callW PP fq67 #[(.pointer x10),(.pointer x12),(.agg #[(.int .i64 30),(.string x15),(.string (bs [])),(.string (bs [])),(.int .i64 0),(.int .i64 0)]),(.func (.func fq123) #[] #[(pq b1),(pq b7)])] H16 pUn fun(_:Unit) H18=>
 lc H18 b7 0 (pq x13)∧
 next5 ((IntKind.i64.wrap (z3.1+1)),()) H18)
 (retK (some []) H4 R)
theorem inputsT.enter (t:Nat) (l:Option Addr) (lN lC:Nat) (H:Heap) (R:RR) (h:inputsT.W t l lN lC H R):Fn PP fq71 #[(pq t),(.slice l lN lC)] H R:=
 fnS mixed Tryz.func71 ⟨patL [(11,pBlk),(12,pPtr),(13,pBlk),(16,pPtr),(17,pBlk),(20,pPtr),(21,pStr),(24,pUn)],loopL [(0,[Slot.int .i64 8])],joinL [],joinL [],joinRL []⟩ _ H R (Eq.mp (by unfold inputsT.W;kernel_rfl) h)
def fieldsT.W (t:Nat) (l:Option Addr) (lN _lC:Nat) (H:Heap) (R:RR):Prop:=
 newB H (.cells #[(pq t)] tq60) fun b1 H2=>
 loopK (Int×Unit) (0,()) H2 fun z3 H4 next5=>
 forkB (decide (z3.1<((lN:Nat):Int)))
 ((IxOk l z3.1 lN)∧
 loadW H4 false 1 ⟨(blkOf l),(offOf l+z3.1.toNat*1),none⟩ pBlk fun(x6:Nat)=>
 newB H4 (.cells #[(.pointer none)] tq117) fun b7 H8=>
 storeW H8 ⟨b7,0,none⟩ [(pq x6)] fun H9=>
 lw H9 b1 0 pPtr fun(x10:Option Addr)=>
 lw H9 b7 0 pBlk fun(x11:Nat)=>
 lw H9 x11 1 pPtr fun(x12:Option Addr)=>
 lw H9 b7 0 pBlk fun(x13:Nat)=>
 lw H9 x13 2 pPtr fun(x14:Option Addr)=>
 callW PP fq69 #[(.pointer x14)] H9 pStr fun(x15:ByteArray) H16=>
 lc H16 x11 1 (.pointer x12)∧
 lc H16 b7 0 (pq x11)∧
 lc H16 b1 0 (.pointer x10)∧
 callW PP fq67 #[(.pointer x10),(.pointer x12),(.agg #[(.int .i64 29),(.string x15),(.string (bs [])),(.string (bs [])),(.int .i64 0),(.int .i64 0)]),(.func (.func fq122) #[] #[(pq b1),(pq b7)])] H16 pUn fun(_:Unit) H18=>
 lc H18 b7 0 (pq x13)∧
 next5 ((IntKind.i64.wrap (z3.1+1)),()) H18)
 (retK (some []) H4 R)
theorem fieldsT.enter (t:Nat) (l:Option Addr) (lN lC:Nat) (H:Heap) (R:RR) (h:fieldsT.W t l lN lC H R):Fn PP fq70 #[(pq t),(.slice l lN lC)] H R:=
 fnS mixed Tryz.func70 ⟨patL [(11,pBlk),(12,pPtr),(13,pBlk),(16,pPtr),(17,pBlk),(20,pPtr),(21,pStr),(24,pUn)],loopL [(0,[Slot.int .i64 8])],joinL [],joinL [],joinRL []⟩ _ H R (Eq.mp (by unfold fieldsT.W;kernel_rfl) h)
def objectT.W (t:Nat) (n:Nat) (H:Heap) (R:RR):Prop:=
 newB H (.cells #[(pq t)] tq60) fun b1 H2=>
 newB H2 (.cells #[(pq n)] tq235) fun b3 H4=>
 lw H4 b1 0 pPtr fun(x5:Option Addr)=>
 lw H4 b3 0 pBlk fun(x6:Nat)=>
 lw H4 x6 1 pPtr fun(x7:Option Addr)=>
 lw H4 b3 0 pBlk fun(x8:Nat)=>
 lw H4 x8 2 pPtr fun(x9:Option Addr)=>
 callW PP fq69 #[(.pointer x9)] H4 pStr fun(x10:ByteArray) H11=>
 lc H11 x6 1 (.pointer x7)∧
 lc H11 b3 0 (pq x6)∧
 lc H11 b1 0 (.pointer x5)∧
 callW PP fq67 #[(.pointer x5),(.pointer x7),(.agg #[(.int .i64 27),(.string x10),(.string (bs [])),(.string (bs [])),(.int .i64 0),(.int .i64 0)]),(.func (.func fq216) #[] #[(pq b1),(pq b3)])] H11 pUn fun(_:Unit) H13=>
 lc H13 b3 0 (pq x8)∧
 retK (some []) H13 R
theorem objectT.enter (t:Nat) (n:Nat) (H:Heap) (R:RR) (h:objectT.W t n H R):Fn PP fq187 #[(pq t),(pq n)] H R:=
 fnS mixed Tryz.func187 (hz [(4,pPtr),(5,pBlk),(8,pPtr),(9,pBlk),(12,pPtr),(13,pStr),(16,pUn)]) _ H R (Eq.mp (by unfold objectT.W;kernel_rfl) h)
def valueVariable.W (t:Nat) (v:Nat) (H:Heap) (R:RR):Prop:=
 newB H (.cells #[(pq t)] tq60) fun b1 H2=>
 lw H2 b1 0 pPtr fun(x3:Option Addr)=>
 lw H2 v 1 pPtr fun(x4:Option Addr)=>
 lw H2 v 2 pPtr fun(x5:Option Addr)=>
 callW PP fq69 #[(.pointer x5)] H2 pStr fun(x6:ByteArray) H7=>
 lc H7 v 1 (.pointer x4)∧
 lc H7 b1 0 (.pointer x3)∧
 callW PP fq67 #[(.pointer x3),(.pointer x4),(.agg #[(.int .i64 11),(.string x6),(.string (bs [])),(.string (bs [])),(.int .i64 0),(.int .i64 0)]),.nilFunc] H7 pUn fun(_:Unit) H9=>
 retK (some []) H9 R
theorem valueVariable.enter (t:Nat) (v:Nat) (H:Heap) (R:RR) (h:valueVariable.W t v H R):Fn PP fq119 #[(pq t),(.iface tq169 (pq v))] H R:=
 fnS mixed Tryz.func119 (hz [(21,pPtr),(25,pPtr),(29,pPtr),(30,pStr),(32,pUn)]) _ H R (Eq.mp (by unfold valueVariable.W;kernel_rfl) h)
def valueIntValue.W (t:Nat) (v:Nat) (H:Heap) (R:RR):Prop:=
 newB H (.cells #[(pq t)] tq60) fun b1 H2=>
 lw H2 b1 0 pPtr fun(x3:Option Addr)=>
 lw H2 v 1 pPtr fun(x4:Option Addr)=>
 lw H2 v 2 pStr fun(x5:ByteArray)=>
 callW PP fq67 #[(.pointer x3),(.pointer x4),(.agg #[(.int .i64 12),(.string (bs [])),(.string (bs [])),(.string x5),(.int .i64 0),(.int .i64 0)]),.nilFunc] H2 pUn fun(_:Unit) H7=>
 retK (some []) H7 R
theorem valueIntValue.enter (t:Nat) (v:Nat) (H:Heap) (R:RR) (h:valueIntValue.W t v H R):Fn PP fq119 #[(pq t),(.iface tq300 (pq v))] H R:=
 fnS mixed Tryz.func119 (hz [(36,pPtr),(40,pPtr),(44,pStr),(46,pUn)]) _ H R (Eq.mp (by unfold valueIntValue.W;kernel_rfl) h)
def valueFloatValue.W (t:Nat) (v:Nat) (H:Heap) (R:RR):Prop:=
 newB H (.cells #[(pq t)] tq60) fun b1 H2=>
 lw H2 b1 0 pPtr fun(x3:Option Addr)=>
 lw H2 v 1 pPtr fun(x4:Option Addr)=>
 lw H2 v 2 pStr fun(x5:ByteArray)=>
 callW PP fq67 #[(.pointer x3),(.pointer x4),(.agg #[(.int .i64 13),(.string (bs [])),(.string (bs [])),(.string x5),(.int .i64 0),(.int .i64 0)]),.nilFunc] H2 pUn fun(_:Unit) H7=>
 retK (some []) H7 R
theorem valueFloatValue.enter (t:Nat) (v:Nat) (H:Heap) (R:RR) (h:valueFloatValue.W t v H R):Fn PP fq119 #[(pq t),(.iface tq302 (pq v))] H R:=
 fnS mixed Tryz.func119 (hz [(50,pPtr),(54,pPtr),(58,pStr),(60,pUn)]) _ H R (Eq.mp (by unfold valueFloatValue.W;kernel_rfl) h)
def valueStringValue.W (t:Nat) (v:Nat) (H:Heap) (R:RR):Prop:=
 newB H (.cells #[(pq t)] tq60) fun b1 H2=>
 lw H2 b1 0 pPtr fun(x3:Option Addr)=>
 lw H2 v 1 pPtr fun(x4:Option Addr)=>
 lw H2 v 2 pStr fun(x5:ByteArray)=>
 callW PP fq67 #[(.pointer x3),(.pointer x4),(.agg #[(.int .i64 14),(.string (bs [])),(.string (bs [])),(.string x5),(.int .i64 0),(.int .i64 0)]),.nilFunc] H2 pUn fun(_:Unit) H7=>
 retK (some []) H7 R
theorem valueStringValue.enter (t:Nat) (v:Nat) (H:Heap) (R:RR) (h:valueStringValue.W t v H R):Fn PP fq119 #[(pq t),(.iface tq102 (pq v))] H R:=
 fnS mixed Tryz.func119 (hz [(64,pPtr),(68,pPtr),(72,pStr),(74,pUn)]) _ H R (Eq.mp (by unfold valueStringValue.W;kernel_rfl) h)
def valueBooleanValue.W (t:Nat) (v:Nat) (H:Heap) (R:RR):Prop:=
 newB H (.cells #[(pq t)] tq60) fun b1 H2=>
 newB H2 (.cells #[(.int .i64 0),(.string (bs [])),(.string (bs [])),(.string (bs [])),(.int .i64 0),(.int .i64 0)] tq41) fun b3 H4=>
 storeW H4 ⟨b3,0,none⟩ [(.int .i64 15),(.string (bs [])),(.string (bs [])),(.string (bs [])),(.int .i64 0),(.int .i64 0)] fun H5=>
 lw H5 v 2 pBool fun(x6:Bool)=>
 forkB x6
 (storeW H5 ⟨b3,4,none⟩ [(.int .i64 1)] fun H7=>
 lw H7 b1 0 pPtr fun(x8:Option Addr)=>
 lw H7 v 1 pPtr fun(x9:Option Addr)=>
 loadW H7 true 6 ⟨b3,0,none⟩ pNd fun(x10:Int×ByteArray×ByteArray×ByteArray×Int×Int)=>
 callW PP fq67 #[(.pointer x8),(.pointer x9),(.agg #[(.int .i64 x10.1),(.string x10.2.1),(.string x10.2.2.1),(.string x10.2.2.2.1),(.int .i64 x10.2.2.2.2.1),(.int .i64 x10.2.2.2.2.2)]),.nilFunc] H7 pUn fun(_:Unit) H12=>
 retK (some []) H12 R)
 (lw H5 b1 0 pPtr fun(x13:Option Addr)=>
 lw H5 v 1 pPtr fun(x14:Option Addr)=>
 loadW H5 true 6 ⟨b3,0,none⟩ pNd fun(x15:Int×ByteArray×ByteArray×ByteArray×Int×Int)=>
 callW PP fq67 #[(.pointer x13),(.pointer x14),(.agg #[(.int .i64 x15.1),(.string x15.2.1),(.string x15.2.2.1),(.string x15.2.2.2.1),(.int .i64 x15.2.2.2.2.1),(.int .i64 x15.2.2.2.2.2)]),.nilFunc] H5 pUn fun(_:Unit) H17=>
 retK (some []) H17 R)
theorem valueBooleanValue.enter (t:Nat) (v:Nat) (H:Heap) (R:RR) (h:valueBooleanValue.W t v H R):Fn PP fq119 #[(pq t),(.iface tq304 (pq v))] H R:=
 fnS mixed Tryz.func119 (hz [(82,pBool),(84,pPtr),(88,pPtr),(89,pNd),(90,pUn)]) _ H R (Eq.mp (by unfold valueBooleanValue.W;kernel_rfl) h)
def valueEnumValue.W (t:Nat) (v:Nat) (H:Heap) (R:RR):Prop:=
 newB H (.cells #[(pq t)] tq60) fun b1 H2=>
 lw H2 b1 0 pPtr fun(x3:Option Addr)=>
 lw H2 v 1 pPtr fun(x4:Option Addr)=>
 lw H2 v 2 pStr fun(x5:ByteArray)=>
 callW PP fq67 #[(.pointer x3),(.pointer x4),(.agg #[(.int .i64 16),(.string x5),(.string (bs [])),(.string (bs [])),(.int .i64 0),(.int .i64 0)]),.nilFunc] H2 pUn fun(_:Unit) H7=>
 retK (some []) H7 R
theorem valueEnumValue.enter (t:Nat) (v:Nat) (H:Heap) (R:RR) (h:valueEnumValue.W t v H R):Fn PP fq119 #[(pq t),(.iface tq307 (pq v))] H R:=
 fnS mixed Tryz.func119 (hz [(94,pPtr),(98,pPtr),(102,pStr),(104,pUn)]) _ H R (Eq.mp (by unfold valueEnumValue.W;kernel_rfl) h)
def valueListValue.W (t:Nat) (v:Nat) (H:Heap) (R:RR):Prop:=
 newB H (.cells #[(pq t)] tq60) fun b1 H2=>
 newB H2 (.cells #[(.pointer none)] tq309) fun b3 H4=>
 storeW H4 ⟨b3,0,none⟩ [(pq v)] fun H5=>
 lw H5 b1 0 pPtr fun(x6:Option Addr)=>
 lw H5 b3 0 pBlk fun(x7:Nat)=>
 lw H5 x7 1 pPtr fun(x8:Option Addr)=>
 callW PP fq67 #[(.pointer x6),(.pointer x8),(.agg #[(.int .i64 17),(.string (bs [])),(.string (bs [])),(.string (bs [])),(.int .i64 0),(.int .i64 0)]),(.func (.func fq181) #[] #[(pq b3),(pq b1)])] H5 pUn fun(_:Unit) H10=>
 retK (some []) H10 R
theorem valueListValue.enter (t:Nat) (v:Nat) (H:Heap) (R:RR) (h:valueListValue.W t v H R):Fn PP fq119 #[(pq t),(.iface tq309 (pq v))] H R:=
 fnS mixed Tryz.func119 (hz [(108,pPtr),(109,pBlk),(112,pPtr),(115,pUn)]) _ H R (Eq.mp (by unfold valueListValue.W;kernel_rfl) h)
def valueObjectValue.W (t:Nat) (v:Nat) (H:Heap) (R:RR):Prop:=
 newB H (.cells #[(pq t)] tq60) fun b1 H2=>
 newB H2 (.cells #[(.pointer none)] tq313) fun b3 H4=>
 storeW H4 ⟨b3,0,none⟩ [(pq v)] fun H5=>
 lw H5 b1 0 pPtr fun(x6:Option Addr)=>
 lw H5 b3 0 pBlk fun(x7:Nat)=>
 lw H5 x7 1 pPtr fun(x8:Option Addr)=>
 callW PP fq67 #[(.pointer x6),(.pointer x8),(.agg #[(.int .i64 18),(.string (bs [])),(.string (bs [])),(.string (bs [])),(.int .i64 0),(.int .i64 0)]),(.func (.func fq182) #[] #[(pq b3),(pq b1)])] H5 pUn fun(_:Unit) H10=>
 retK (some []) H10 R
theorem valueObjectValue.enter (t:Nat) (v:Nat) (H:Heap) (R:RR) (h:valueObjectValue.W t v H R):Fn PP fq119 #[(pq t),(.iface tq313 (pq v))] H R:=
 fnS mixed Tryz.func119 (hz [(119,pPtr),(120,pBlk),(123,pPtr),(126,pUn)]) _ H R (Eq.mp (by unfold valueObjectValue.W;kernel_rfl) h)
def typNamed.W (t:Nat) (v:Nat) (H:Heap) (R:RR):Prop:=
 newB H (.cells #[(pq t)] tq60) fun b1 H2=>
 lw H2 b1 0 pPtr fun(x3:Option Addr)=>
 lw H2 v 1 pPtr fun(x4:Option Addr)=>
 callW PP fq68 #[(pq v)] H2 pStr fun(x5:ByteArray) H6=>
 lc H6 v 1 (.pointer x4)∧
 lc H6 b1 0 (.pointer x3)∧
 callW PP fq67 #[(.pointer x3),(.pointer x4),(.agg #[(.int .i64 20),(.string x5),(.string (bs [])),(.string (bs [])),(.int .i64 0),(.int .i64 0)]),.nilFunc] H6 pUn fun(_:Unit) H8=>
 retK (some []) H8 R
theorem typNamed.enter (t:Nat) (v:Nat) (H:Heap) (R:RR) (h:typNamed.W t v H R):Fn PP fq118 #[(pq t),(.iface tq107 (pq v))] H R:=
 fnS mixed Tryz.func118 (hz [(15,pPtr),(19,pPtr),(21,pStr),(23,pUn)]) _ H R (Eq.mp (by unfold typNamed.W;kernel_rfl) h)
def typList.W (t:Nat) (v:Nat) (H:Heap) (R:RR):Prop:=
 newB H (.cells #[(pq t)] tq60) fun b1 H2=>
 newB H2 (.cells #[(.pointer none)] tq295) fun b3 H4=>
 storeW H4 ⟨b3,0,none⟩ [(pq v)] fun H5=>
 lw H5 b1 0 pPtr fun(x6:Option Addr)=>
 lw H5 b3 0 pBlk fun(x7:Nat)=>
 lw H5 x7 1 pPtr fun(x8:Option Addr)=>
 callW PP fq67 #[(.pointer x6),(.pointer x8),(.agg #[(.int .i64 21),(.string (bs [])),(.string (bs [])),(.string (bs [])),(.int .i64 0),(.int .i64 0)]),(.func (.func fq179) #[] #[(pq b1),(pq b3)])] H5 pUn fun(_:Unit) H10=>
 retK (some []) H10 R
theorem typList.enter (t:Nat) (v:Nat) (H:Heap) (R:RR) (h:typList.W t v H R):Fn PP fq118 #[(pq t),(.iface tq295 (pq v))] H R:=
 fnS mixed Tryz.func118 (hz [(27,pPtr),(28,pBlk),(31,pPtr),(34,pUn)]) _ H R (Eq.mp (by unfold typList.W;kernel_rfl) h)
def typNonNull.W (t:Nat) (v:Nat) (H:Heap) (R:RR):Prop:=
 newB H (.cells #[(pq t)] tq60) fun b1 H2=>
 newB H2 (.cells #[(.pointer none)] tq298) fun b3 H4=>
 storeW H4 ⟨b3,0,none⟩ [(pq v)] fun H5=>
 lw H5 b1 0 pPtr fun(x6:Option Addr)=>
 lw H5 b3 0 pBlk fun(x7:Nat)=>
 lw H5 x7 1 pPtr fun(x8:Option Addr)=>
 callW PP fq67 #[(.pointer x6),(.pointer x8),(.agg #[(.int .i64 22),(.string (bs [])),(.string (bs [])),(.string (bs [])),(.int .i64 0),(.int .i64 0)]),(.func (.func fq180) #[] #[(pq b1),(pq b3)])] H5 pUn fun(_:Unit) H10=>
 retK (some []) H10 R
theorem typNonNull.enter (t:Nat) (v:Nat) (H:Heap) (R:RR) (h:typNonNull.W t v H R):Fn PP fq118 #[(pq t),(.iface tq298 (pq v))] H R:=
 fnS mixed Tryz.func118 (hz [(38,pPtr),(39,pBlk),(42,pPtr),(45,pUn)]) _ H R (Eq.mp (by unfold typNonNull.W;kernel_rfl) h)
def definitionScalarDefinition.W (t:Nat) (v:Nat) (H:Heap) (R:RR):Prop:=
 newB H (.cells #[(pq t)] tq60) fun b1 H2=>
 lw H2 b1 0 pPtr fun(x3:Option Addr)=>
 callW PP fq130 #[(.pointer x3),(.iface tq231 (pq v))] H2 pUn fun(_:Unit) H5=>
 retK (some []) H5 R
theorem definitionScalarDefinition.enter (t:Nat) (v:Nat) (H:Heap) (R:RR) (h:definitionScalarDefinition.W t v H R):Fn PP fq74 #[(pq t),(.iface tq231 (pq v))] H R:=
 fnS mixed Tryz.func74 (hz [(8,pPtr),(10,pUn)]) _ H R (Eq.mp (by unfold definitionScalarDefinition.W;kernel_rfl) h)
def systemScalarDefinition.W (t:Nat) (v:Nat) (H:Heap) (R:RR):Prop:=
 newB H (.cells #[(pq t)] tq60) fun b1 H2=>
 newB H2 (.cells #[(.pointer none)] tq231) fun b3 H4=>
 storeW H4 ⟨b3,0,none⟩ [(pq v)] fun H5=>
 lw H5 b1 0 pPtr fun(x6:Option Addr)=>
 lw H5 b3 0 pBlk fun(x7:Nat)=>
 lw H5 x7 1 pPtr fun(x8:Option Addr)=>
 lw H5 b3 0 pBlk fun(x9:Nat)=>
 lw H5 x9 3 pPtr fun(x10:Option Addr)=>
 callW PP fq69 #[(.pointer x10)] H5 pStr fun(x11:ByteArray) H12=>
 lc H12 x7 1 (.pointer x8)∧
 lc H12 b3 0 (pq x7)∧
 lc H12 b1 0 (.pointer x6)∧
 callW PP fq67 #[(.pointer x6),(.pointer x8),(.agg #[(.int .i64 26),(.string x11),(.string (bs [])),(.string (bs [])),(.int .i64 0),(.int .i64 0)]),(.func (.func fq186) #[] #[(pq b1),(pq b3)])] H12 pUn fun(_:Unit) H14=>
 lc H14 b3 0 (pq x9)∧
 retK (some []) H14 R
theorem systemScalarDefinition.enter (t:Nat) (v:Nat) (H:Heap) (R:RR) (h:systemScalarDefinition.W t v H R):Fn PP fq130 #[(pq t),(.iface tq231 (pq v))] H R:=
 fnS mixed Tryz.func130 (hz [(32,pPtr),(33,pBlk),(36,pPtr),(37,pBlk),(40,pPtr),(41,pStr),(44,pUn)]) _ H R (Eq.mp (by unfold systemScalarDefinition.W;kernel_rfl) h)
def definitionObjectDefinition.W (t:Nat) (v:Nat) (H:Heap) (R:RR):Prop:=
 newB H (.cells #[(pq t)] tq60) fun b1 H2=>
 lw H2 b1 0 pPtr fun(x3:Option Addr)=>
 callW PP fq130 #[(.pointer x3),(.iface tq235 (pq v))] H2 pUn fun(_:Unit) H5=>
 retK (some []) H5 R
theorem definitionObjectDefinition.enter (t:Nat) (v:Nat) (H:Heap) (R:RR) (h:definitionObjectDefinition.W t v H R):Fn PP fq74 #[(pq t),(.iface tq235 (pq v))] H R:=
 fnS mixed Tryz.func74 (hz [(8,pPtr),(10,pUn)]) _ H R (Eq.mp (by unfold definitionObjectDefinition.W;kernel_rfl) h)
def systemObjectDefinition.W (t:Nat) (v:Nat) (H:Heap) (R:RR):Prop:=
 newB H (.cells #[(pq t)] tq60) fun b1 H2=>
 lw H2 b1 0 pPtr fun(x3:Option Addr)=>
 callW PP fq187 #[(.pointer x3),(pq v)] H2 pUn fun(_:Unit) H5=>
 retK (some []) H5 R
theorem systemObjectDefinition.enter (t:Nat) (v:Nat) (H:Heap) (R:RR) (h:systemObjectDefinition.W t v H R):Fn PP fq130 #[(pq t),(.iface tq235 (pq v))] H R:=
 fnS mixed Tryz.func130 (hz [(48,pPtr),(50,pUn)]) _ H R (Eq.mp (by unfold systemObjectDefinition.W;kernel_rfl) h)
def definitionInterfaceDefinition.W (t:Nat) (v:Nat) (H:Heap) (R:RR):Prop:=
 newB H (.cells #[(pq t)] tq60) fun b1 H2=>
 lw H2 b1 0 pPtr fun(x3:Option Addr)=>
 callW PP fq130 #[(.pointer x3),(.iface tq248 (pq v))] H2 pUn fun(_:Unit) H5=>
 retK (some []) H5 R
theorem definitionInterfaceDefinition.enter (t:Nat) (v:Nat) (H:Heap) (R:RR) (h:definitionInterfaceDefinition.W t v H R):Fn PP fq74 #[(pq t),(.iface tq248 (pq v))] H R:=
 fnS mixed Tryz.func74 (hz [(8,pPtr),(10,pUn)]) _ H R (Eq.mp (by unfold definitionInterfaceDefinition.W;kernel_rfl) h)
def systemInterfaceDefinition.W (t:Nat) (v:Nat) (H:Heap) (R:RR):Prop:=
 newB H (.cells #[(pq t)] tq60) fun b1 H2=>
 newB H2 (.cells #[(.pointer none)] tq248) fun b3 H4=>
 storeW H4 ⟨b3,0,none⟩ [(pq v)] fun H5=>
 lw H5 b1 0 pPtr fun(x6:Option Addr)=>
 lw H5 b3 0 pBlk fun(x7:Nat)=>
 lw H5 x7 1 pPtr fun(x8:Option Addr)=>
 lw H5 b3 0 pBlk fun(x9:Nat)=>
 lw H5 x9 2 pPtr fun(x10:Option Addr)=>
 callW PP fq69 #[(.pointer x10)] H5 pStr fun(x11:ByteArray) H12=>
 lc H12 x7 1 (.pointer x8)∧
 lc H12 b3 0 (pq x7)∧
 lc H12 b1 0 (.pointer x6)∧
 callW PP fq67 #[(.pointer x6),(.pointer x8),(.agg #[(.int .i64 31),(.string x11),(.string (bs [])),(.string (bs [])),(.int .i64 0),(.int .i64 0)]),(.func (.func fq188) #[] #[(pq b1),(pq b3)])] H12 pUn fun(_:Unit) H14=>
 lc H14 b3 0 (pq x9)∧
 retK (some []) H14 R
theorem systemInterfaceDefinition.enter (t:Nat) (v:Nat) (H:Heap) (R:RR) (h:systemInterfaceDefinition.W t v H R):Fn PP fq130 #[(pq t),(.iface tq248 (pq v))] H R:=
 fnS mixed Tryz.func130 (hz [(54,pPtr),(55,pBlk),(58,pPtr),(59,pBlk),(62,pPtr),(63,pStr),(66,pUn)]) _ H R (Eq.mp (by unfold systemInterfaceDefinition.W;kernel_rfl) h)
def definitionEnumDefinition.W (t:Nat) (v:Nat) (H:Heap) (R:RR):Prop:=
 newB H (.cells #[(pq t)] tq60) fun b1 H2=>
 lw H2 b1 0 pPtr fun(x3:Option Addr)=>
 callW PP fq130 #[(.pointer x3),(.iface tq257 (pq v))] H2 pUn fun(_:Unit) H5=>
 retK (some []) H5 R
theorem definitionEnumDefinition.enter (t:Nat) (v:Nat) (H:Heap) (R:RR) (h:definitionEnumDefinition.W t v H R):Fn PP fq74 #[(pq t),(.iface tq257 (pq v))] H R:=
 fnS mixed Tryz.func74 (hz [(8,pPtr),(10,pUn)]) _ H R (Eq.mp (by unfold definitionEnumDefinition.W;kernel_rfl) h)
def systemEnumDefinition.W (t:Nat) (v:Nat) (H:Heap) (R:RR):Prop:=
 newB H (.cells #[(pq t)] tq60) fun b1 H2=>
 newB H2 (.cells #[(.pointer none)] tq257) fun b3 H4=>
 storeW H4 ⟨b3,0,none⟩ [(pq v)] fun H5=>
 lw H5 b1 0 pPtr fun(x6:Option Addr)=>
 lw H5 b3 0 pBlk fun(x7:Nat)=>
 lw H5 x7 1 pPtr fun(x8:Option Addr)=>
 lw H5 b3 0 pBlk fun(x9:Nat)=>
 lw H5 x9 2 pPtr fun(x10:Option Addr)=>
 callW PP fq69 #[(.pointer x10)] H5 pStr fun(x11:ByteArray) H12=>
 lc H12 x7 1 (.pointer x8)∧
 lc H12 b3 0 (pq x7)∧
 lc H12 b1 0 (.pointer x6)∧
 callW PP fq67 #[(.pointer x6),(.pointer x8),(.agg #[(.int .i64 34),(.string x11),(.string (bs [])),(.string (bs [])),(.int .i64 0),(.int .i64 0)]),(.func (.func fq190) #[] #[(pq b1),(pq b3)])] H12 pUn fun(_:Unit) H14=>
 lc H14 b3 0 (pq x9)∧
 retK (some []) H14 R
theorem systemEnumDefinition.enter (t:Nat) (v:Nat) (H:Heap) (R:RR) (h:systemEnumDefinition.W t v H R):Fn PP fq130 #[(pq t),(.iface tq257 (pq v))] H R:=
 fnS mixed Tryz.func130 (hz [(86,pPtr),(87,pBlk),(90,pPtr),(91,pBlk),(94,pPtr),(95,pStr),(98,pUn)]) _ H R (Eq.mp (by unfold systemEnumDefinition.W;kernel_rfl) h)
def definitionInputObjectDefinition.W (t:Nat) (v:Nat) (H:Heap) (R:RR):Prop:=
 newB H (.cells #[(pq t)] tq60) fun b1 H2=>
 lw H2 b1 0 pPtr fun(x3:Option Addr)=>
 callW PP fq130 #[(.pointer x3),(.iface tq262 (pq v))] H2 pUn fun(_:Unit) H5=>
 retK (some []) H5 R
theorem definitionInputObjectDefinition.enter (t:Nat) (v:Nat) (H:Heap) (R:RR) (h:definitionInputObjectDefinition.W t v H R):Fn PP fq74 #[(pq t),(.iface tq262 (pq v))] H R:=
 fnS mixed Tryz.func74 (hz [(8,pPtr),(10,pUn)]) _ H R (Eq.mp (by unfold definitionInputObjectDefinition.W;kernel_rfl) h)
def systemInputObjectDefinition.W (t:Nat) (v:Nat) (H:Heap) (R:RR):Prop:=
 newB H (.cells #[(pq t)] tq60) fun b1 H2=>
 newB H2 (.cells #[(.pointer none)] tq262) fun b3 H4=>
 storeW H4 ⟨b3,0,none⟩ [(pq v)] fun H5=>
 lw H5 b1 0 pPtr fun(x6:Option Addr)=>
 lw H5 b3 0 pBlk fun(x7:Nat)=>
 lw H5 x7 1 pPtr fun(x8:Option Addr)=>
 lw H5 b3 0 pBlk fun(x9:Nat)=>
 lw H5 x9 2 pPtr fun(x10:Option Addr)=>
 callW PP fq69 #[(.pointer x10)] H5 pStr fun(x11:ByteArray) H12=>
 lc H12 x7 1 (.pointer x8)∧
 lc H12 b3 0 (pq x7)∧
 lc H12 b1 0 (.pointer x6)∧
 callW PP fq67 #[(.pointer x6),(.pointer x8),(.agg #[(.int .i64 36),(.string x11),(.string (bs [])),(.string (bs [])),(.int .i64 0),(.int .i64 0)]),(.func (.func fq192) #[] #[(pq b1),(pq b3)])] H12 pUn fun(_:Unit) H14=>
 lc H14 b3 0 (pq x9)∧
 retK (some []) H14 R
theorem systemInputObjectDefinition.enter (t:Nat) (v:Nat) (H:Heap) (R:RR) (h:systemInputObjectDefinition.W t v H R):Fn PP fq130 #[(pq t),(.iface tq262 (pq v))] H R:=
 fnS mixed Tryz.func130 (hz [(102,pPtr),(103,pBlk),(106,pPtr),(107,pBlk),(110,pPtr),(111,pStr),(114,pUn)]) _ H R (Eq.mp (by unfold systemInputObjectDefinition.W;kernel_rfl) h)
def definitionDirectiveDefinition.W (t:Nat) (v:Nat) (H:Heap) (R:RR):Prop:=
 newB H (.cells #[(pq t)] tq60) fun b1 H2=>
 lw H2 b1 0 pPtr fun(x3:Option Addr)=>
 callW PP fq130 #[(.pointer x3),(.iface tq270 (pq v))] H2 pUn fun(_:Unit) H5=>
 retK (some []) H5 R
theorem definitionDirectiveDefinition.enter (t:Nat) (v:Nat) (H:Heap) (R:RR) (h:definitionDirectiveDefinition.W t v H R):Fn PP fq74 #[(pq t),(.iface tq270 (pq v))] H R:=
 fnS mixed Tryz.func74 (hz [(8,pPtr),(10,pUn)]) _ H R (Eq.mp (by unfold definitionDirectiveDefinition.W;kernel_rfl) h)
def systemDirectiveDefinition.W (t:Nat) (v:Nat) (H:Heap) (R:RR):Prop:=
 newB H (.cells #[(pq t)] tq60) fun b1 H2=>
 newB H2 (.cells #[(.pointer none)] tq270) fun b3 H4=>
 storeW H4 ⟨b3,0,none⟩ [(pq v)] fun H5=>
 lw H5 b1 0 pPtr fun(x6:Option Addr)=>
 lw H5 b3 0 pBlk fun(x7:Nat)=>
 lw H5 x7 1 pPtr fun(x8:Option Addr)=>
 lw H5 b3 0 pBlk fun(x9:Nat)=>
 lw H5 x9 2 pPtr fun(x10:Option Addr)=>
 callW PP fq69 #[(.pointer x10)] H5 pStr fun(x11:ByteArray) H12=>
 lc H12 x7 1 (.pointer x8)∧
 lc H12 b3 0 (pq x7)∧
 lc H12 b1 0 (.pointer x6)∧
 callW PP fq67 #[(.pointer x6),(.pointer x8),(.agg #[(.int .i64 37),(.string x11),(.string (bs [])),(.string (bs [])),(.int .i64 0),(.int .i64 0)]),(.func (.func fq193) #[] #[(pq b1),(pq b3)])] H12 pUn fun(_:Unit) H14=>
 lc H14 b3 0 (pq x9)∧
 retK (some []) H14 R
theorem systemDirectiveDefinition.enter (t:Nat) (v:Nat) (H:Heap) (R:RR) (h:systemDirectiveDefinition.W t v H R):Fn PP fq130 #[(pq t),(.iface tq270 (pq v))] H R:=
 fnS mixed Tryz.func130 (hz [(118,pPtr),(119,pBlk),(122,pPtr),(123,pBlk),(126,pPtr),(127,pStr),(130,pUn)]) _ H R (Eq.mp (by unfold systemDirectiveDefinition.W;kernel_rfl) h)
def definitionTypeExtensionDefinition.W (t:Nat) (v:Nat) (H:Heap) (R:RR):Prop:=
 newB H (.cells #[(pq t)] tq60) fun b1 H2=>
 lw H2 b1 0 pPtr fun(x3:Option Addr)=>
 callW PP fq130 #[(.pointer x3),(.iface tq266 (pq v))] H2 pUn fun(_:Unit) H5=>
 retK (some []) H5 R
theorem definitionTypeExtensionDefinition.enter (t:Nat) (v:Nat) (H:Heap) (R:RR) (h:definitionTypeExtensionDefinition.W t v H R):Fn PP fq74 #[(pq t),(.iface tq266 (pq v))] H R:=
 fnS mixed Tryz.func74 (hz [(8,pPtr),(10,pUn)]) _ H R (Eq.mp (by unfold definitionTypeExtensionDefinition.W;kernel_rfl) h)
def systemTypeExtensionDefinition.W (t:Nat) (v:Nat) (H:Heap) (R:RR):Prop:=
 newB H (.cells #[(pq t)] tq60) fun b1 H2=>
 newB H2 (.cells #[(.pointer none)] tq266) fun b3 H4=>
 storeW H4 ⟨b3,0,none⟩ [(pq v)] fun H5=>
 lw H5 b1 0 pPtr fun(x6:Option Addr)=>
 lw H5 b3 0 pBlk fun(x7:Nat)=>
 lw H5 x7 1 pPtr fun(x8:Option Addr)=>
 callW PP fq67 #[(.pointer x6),(.pointer x8),(.agg #[(.int .i64 39),(.string (bs [])),(.string (bs [])),(.string (bs [])),(.int .i64 0),(.int .i64 0)]),(.func (.func fq194) #[] #[(pq b1),(pq b3)])] H5 pUn fun(_:Unit) H10=>
 retK (some []) H10 R
theorem systemTypeExtensionDefinition.enter (t:Nat) (v:Nat) (H:Heap) (R:RR) (h:systemTypeExtensionDefinition.W t v H R):Fn PP fq130 #[(pq t),(.iface tq266 (pq v))] H R:=
 fnS mixed Tryz.func130 (hz [(134,pPtr),(135,pBlk),(138,pPtr),(141,pUn)]) _ H R (Eq.mp (by unfold systemTypeExtensionDefinition.W;kernel_rfl) h)
def readPart.W (step:ByteArray) (kind:Int) (text:ByteArray) (H:Heap) (R:RR):Prop:=
 callW PP fq37 #[(.string step),(.string text)] H ⟨Sl×Int,fun x=>(.tuple #[(.slice x.1.1 x.1.2.1 x.1.2.2),(.int .i64 x.2),.nilIface])⟩ fun(x1:Sl×Int) H2=>
 newB H2 (.cells #[(.slice none 0 0),(.slice none 0 0),(.bool false)] tq63) fun b3 H4=>
 loopK (Int×Unit) (0,()) H4 fun z5 H6 next7=>
 forkB (decide (z5.1<((x1.1.2.1:Nat):Int)))
 ((IxOk x1.1.1 z5.1 x1.1.2.1)∧
 loadW H6 false 1 ⟨(blkOf x1.1.1),(offOf x1.1.1+z5.1.toNat*1),none⟩ pIf fun(x8:(Nat×Nat))=>
 callW PP fq38 #[(pq b3),(.iface x8.1 (pq x8.2)),(.int .i64 kind)] H6 pUn fun(_:Unit) H10=>
 next7 ((IntKind.i64.wrap (z5.1+1)),()) H10)
 (lw H6 b3 2 pBool fun(x11:Bool)=>
 forkB x11
 (retK (some [(.slice none 0 0),(.int .i64 0),(.bool false)]) H6 R)
 (lw H6 b3 0 pSlc fun(x12:Sl)=>
 retK (some [(.slice x12.1 x12.2.1 x12.2.2),(.int .i64 x1.2),(.bool true)]) H6 R))
theorem readPart.enter (step:ByteArray) (kind:Int) (text:ByteArray) (H:Heap) (R:RR) (h:readPart.W step kind text H R):Fn PP fq30 #[(.string step),(.int .i64 kind),(.string text)] H R:=
 fnS mixed Tryz.func30 ⟨patL [(17,⟨Sl×Int,fun x=>(.tuple #[(.slice x.1.1 x.1.2.1 x.1.2.2),(.int .i64 x.2),.nilIface])⟩),(30,pIf),(34,pUn),(39,pBool),(43,pSlc)],loopL [(0,[Slot.int .i64 27])],joinL [],joinL [],joinRL []⟩ _ H R (Eq.mp (by unfold readPart.W;kernel_rfl) h)
end Go.Vx
