/- A part of the proof of what the last text of this claim says: WB4. Conditions: none. -/
import Derived.Test.YtkopcepfeeemhaaGreatDoorZAc
namespace Go.Vx
open Go Go.Proofs
set_option maxRecDepth 100000
def putG.W (f:FuncId) (t:Nat) (l:Nat) (x:Nd) (c1:Nat) (c2:Nat) (H:Heap) (R:RR):Prop:=
 newB H (.cells #[(.int .i64 x.kind),(.string x.name),(.string x.alias),(.string x.text),(.int .i64 x.flag),(.int .i64 x.size)] tq41) fun b1 H2=>
 lw H2 t 0 pSlc fun(x3:Sl)=>
 lw H2 t 0 pSlc fun(x4:Sl)=>
 loadW H2 true 6 ⟨b1,0,none⟩ pNd fun(x5:Int×ByteArray×ByteArray×ByteArray×Int×Int)=>
 newB H2 (.cells #[(.int .i64 x5.1),(.string x5.2.1),(.string x5.2.2.1),(.string x5.2.2.2.1),(.int .i64 x5.2.2.2.2.1),(.int .i64 x5.2.2.2.2.2)] tq41) fun b6 H7=>
 lc H7 t 0 (.slice x4.1 x4.2.1 x4.2.2)∧
 appK H7 tq41 6 72 x4.1 x4.2.1 x4.2.2 (some ⟨b6,0,none⟩) 1 fun a8 c9 H10=>
 storeW H10 ⟨t,0,none⟩ [(.slice a8 (x4.2.1+1) c9)] fun H11=>
 lw H11 t 1 pSlc fun(x12:Sl)=>
 lw H11 l 0 (pInt .i64) fun(x13:Int)=>
 lw H11 l 1 (pInt .i64) fun(x14:Int)=>
 newB H11 (.cells #[(.int .i64 x13),(.int .i64 x14)] tq65) fun b15 H16=>
 lc H16 t 1 (.slice x12.1 x12.2.1 x12.2.2)∧
 appK H16 tq65 2 16 x12.1 x12.2.1 x12.2.2 (some ⟨b15,0,none⟩) 1 fun a17 c18 H19=>
 storeW H19 ⟨t,1,none⟩ [(.slice a17 (x12.2.1+1) c18)] fun H20=>
 callW PP f #[(pq c1),(pq c2)] H20 pUn fun(_:Unit) H22=>
 lw H22 t 0 pSlc fun(x23:Sl)=>
 lw H22 t 0 pSlc fun(x24:Sl)=>
 (IxOk x23.1 ((x3.2.1:Nat):Int) x23.2.1)∧
 storeW H22 ⟨(blkOf x23.1),((offOf x23.1+((x3.2.1:Nat):Int).toNat*6)+5),none⟩ [(.int .i64 (IntKind.i64.wrap (((x24.2.1:Nat):Int) -((x3.2.1:Nat):Int))))] fun H25=>
 retK (some []) H25 R
theorem putArg.enter (t:Nat) (l:Nat) (x:Nd) (c1:Nat) (c2:Nat) (H:Heap) (R:RR) (h:putG.W fq120 t l x c1 c2 H R):Fn PP fq67 #[(pq t),(pq l),(.agg #[(.int .i64 x.kind),(.string x.name),(.string x.alias),(.string x.text),(.int .i64 x.flag),(.int .i64 x.size)]),(.func (.func fq120) #[] #[(pq c1),(pq c2)])] H R:=
 fnS mixed Tryz.func67 (hz [(12,pSlc),(18,pSlc),(19,pNd),(32,pSlc),(36,(pInt .i64)),(40,(pInt .i64)),(49,pUn),(53,pSlc),(58,pSlc)]) _ H R (Eq.mp (by unfold putG.W;kernel_rfl) h)
theorem putDir.enter (t:Nat) (l:Nat) (x:Nd) (c1:Nat) (c2:Nat) (H:Heap) (R:RR) (h:putG.W fq121 t l x c1 c2 H R):Fn PP fq67 #[(pq t),(pq l),(.agg #[(.int .i64 x.kind),(.string x.name),(.string x.alias),(.string x.text),(.int .i64 x.flag),(.int .i64 x.size)]),(.func (.func fq121) #[] #[(pq c1),(pq c2)])] H R:=
 fnS mixed Tryz.func67 (hz [(12,pSlc),(18,pSlc),(19,pNd),(32,pSlc),(36,(pInt .i64)),(40,(pInt .i64)),(49,pUn),(53,pSlc),(58,pSlc)]) _ H R (Eq.mp (by unfold putG.W;kernel_rfl) h)
theorem putVarD.enter (t:Nat) (l:Nat) (x:Nd) (c1:Nat) (c2:Nat) (H:Heap) (R:RR) (h:putG.W fq117 t l x c1 c2 H R):Fn PP fq67 #[(pq t),(pq l),(.agg #[(.int .i64 x.kind),(.string x.name),(.string x.alias),(.string x.text),(.int .i64 x.flag),(.int .i64 x.size)]),(.func (.func fq117) #[] #[(pq c1),(pq c2)])] H R:=
 fnS mixed Tryz.func67 (hz [(12,pSlc),(18,pSlc),(19,pNd),(32,pSlc),(36,(pInt .i64)),(40,(pInt .i64)),(49,pUn),(53,pSlc),(58,pSlc)]) _ H R (Eq.mp (by unfold putG.W;kernel_rfl) h)
theorem putSel1.enter (t:Nat) (l:Nat) (x:Nd) (c1:Nat) (c2:Nat) (H:Heap) (R:RR) (h:putG.W fq124 t l x c1 c2 H R):Fn PP fq67 #[(pq t),(pq l),(.agg #[(.int .i64 x.kind),(.string x.name),(.string x.alias),(.string x.text),(.int .i64 x.flag),(.int .i64 x.size)]),(.func (.func fq124) #[] #[(pq c1),(pq c2)])] H R:=
 fnS mixed Tryz.func67 (hz [(12,pSlc),(18,pSlc),(19,pNd),(32,pSlc),(36,(pInt .i64)),(40,(pInt .i64)),(49,pUn),(53,pSlc),(58,pSlc)]) _ H R (Eq.mp (by unfold putG.W;kernel_rfl) h)
theorem putSel2.enter (t:Nat) (l:Nat) (x:Nd) (c1:Nat) (c2:Nat) (H:Heap) (R:RR) (h:putG.W fq126 t l x c1 c2 H R):Fn PP fq67 #[(pq t),(pq l),(.agg #[(.int .i64 x.kind),(.string x.name),(.string x.alias),(.string x.text),(.int .i64 x.flag),(.int .i64 x.size)]),(.func (.func fq126) #[] #[(pq c1),(pq c2)])] H R:=
 fnS mixed Tryz.func67 (hz [(12,pSlc),(18,pSlc),(19,pNd),(32,pSlc),(36,(pInt .i64)),(40,(pInt .i64)),(49,pUn),(53,pSlc),(58,pSlc)]) _ H R (Eq.mp (by unfold putG.W;kernel_rfl) h)
theorem putSel3.enter (t:Nat) (l:Nat) (x:Nd) (c1:Nat) (c2:Nat) (H:Heap) (R:RR) (h:putG.W fq127 t l x c1 c2 H R):Fn PP fq67 #[(pq t),(pq l),(.agg #[(.int .i64 x.kind),(.string x.name),(.string x.alias),(.string x.text),(.int .i64 x.flag),(.int .i64 x.size)]),(.func (.func fq127) #[] #[(pq c1),(pq c2)])] H R:=
 fnS mixed Tryz.func67 (hz [(12,pSlc),(18,pSlc),(19,pNd),(32,pSlc),(36,(pInt .i64)),(40,(pInt .i64)),(49,pUn),(53,pSlc),(58,pSlc)]) _ H R (Eq.mp (by unfold putG.W;kernel_rfl) h)
theorem putSet.enter (t:Nat) (l:Nat) (x:Nd) (c1:Nat) (c2:Nat) (H:Heap) (R:RR) (h:putG.W fq184 t l x c1 c2 H R):Fn PP fq67 #[(pq t),(pq l),(.agg #[(.int .i64 x.kind),(.string x.name),(.string x.alias),(.string x.text),(.int .i64 x.flag),(.int .i64 x.size)]),(.func (.func fq184) #[] #[(pq c1),(pq c2)])] H R:=
 fnS mixed Tryz.func67 (hz [(12,pSlc),(18,pSlc),(19,pNd),(32,pSlc),(36,(pInt .i64)),(40,(pInt .i64)),(49,pUn),(53,pSlc),(58,pSlc)]) _ H R (Eq.mp (by unfold putG.W;kernel_rfl) h)
theorem putSys2.enter (t:Nat) (l:Nat) (x:Nd) (c1:Nat) (c2:Nat) (H:Heap) (R:RR) (h:putG.W fq186 t l x c1 c2 H R):Fn PP fq67 #[(pq t),(pq l),(.agg #[(.int .i64 x.kind),(.string x.name),(.string x.alias),(.string x.text),(.int .i64 x.flag),(.int .i64 x.size)]),(.func (.func fq186) #[] #[(pq c1),(pq c2)])] H R:=
 fnS mixed Tryz.func67 (hz [(12,pSlc),(18,pSlc),(19,pNd),(32,pSlc),(36,(pInt .i64)),(40,(pInt .i64)),(49,pUn),(53,pSlc),(58,pSlc)]) _ H R (Eq.mp (by unfold putG.W;kernel_rfl) h)
theorem putVal1.enter (t:Nat) (l:Nat) (x:Nd) (c1:Nat) (c2:Nat) (H:Heap) (R:RR) (h:putG.W fq181 t l x c1 c2 H R):Fn PP fq67 #[(pq t),(pq l),(.agg #[(.int .i64 x.kind),(.string x.name),(.string x.alias),(.string x.text),(.int .i64 x.flag),(.int .i64 x.size)]),(.func (.func fq181) #[] #[(pq c1),(pq c2)])] H R:=
 fnS mixed Tryz.func67 (hz [(12,pSlc),(18,pSlc),(19,pNd),(32,pSlc),(36,(pInt .i64)),(40,(pInt .i64)),(49,pUn),(53,pSlc),(58,pSlc)]) _ H R (Eq.mp (by unfold putG.W;kernel_rfl) h)
theorem putVal2.enter (t:Nat) (l:Nat) (x:Nd) (c1:Nat) (c2:Nat) (H:Heap) (R:RR) (h:putG.W fq182 t l x c1 c2 H R):Fn PP fq67 #[(pq t),(pq l),(.agg #[(.int .i64 x.kind),(.string x.name),(.string x.alias),(.string x.text),(.int .i64 x.flag),(.int .i64 x.size)]),(.func (.func fq182) #[] #[(pq c1),(pq c2)])] H R:=
 fnS mixed Tryz.func67 (hz [(12,pSlc),(18,pSlc),(19,pNd),(32,pSlc),(36,(pInt .i64)),(40,(pInt .i64)),(49,pUn),(53,pSlc),(58,pSlc)]) _ H R (Eq.mp (by unfold putG.W;kernel_rfl) h)
theorem putVal21.enter (t:Nat) (l:Nat) (x:Nd) (c1:Nat) (c2:Nat) (H:Heap) (R:RR) (h:putG.W fq183 t l x c1 c2 H R):Fn PP fq67 #[(pq t),(pq l),(.agg #[(.int .i64 x.kind),(.string x.name),(.string x.alias),(.string x.text),(.int .i64 x.flag),(.int .i64 x.size)]),(.func (.func fq183) #[] #[(pq c1),(pq c2)])] H R:=
 fnS mixed Tryz.func67 (hz [(12,pSlc),(18,pSlc),(19,pNd),(32,pSlc),(36,(pInt .i64)),(40,(pInt .i64)),(49,pUn),(53,pSlc),(58,pSlc)]) _ H R (Eq.mp (by unfold putG.W;kernel_rfl) h)
theorem putTyp1.enter (t:Nat) (l:Nat) (x:Nd) (c1:Nat) (c2:Nat) (H:Heap) (R:RR) (h:putG.W fq179 t l x c1 c2 H R):Fn PP fq67 #[(pq t),(pq l),(.agg #[(.int .i64 x.kind),(.string x.name),(.string x.alias),(.string x.text),(.int .i64 x.flag),(.int .i64 x.size)]),(.func (.func fq179) #[] #[(pq c1),(pq c2)])] H R:=
 fnS mixed Tryz.func67 (hz [(12,pSlc),(18,pSlc),(19,pNd),(32,pSlc),(36,(pInt .i64)),(40,(pInt .i64)),(49,pUn),(53,pSlc),(58,pSlc)]) _ H R (Eq.mp (by unfold putG.W;kernel_rfl) h)
theorem putTyp2.enter (t:Nat) (l:Nat) (x:Nd) (c1:Nat) (c2:Nat) (H:Heap) (R:RR) (h:putG.W fq180 t l x c1 c2 H R):Fn PP fq67 #[(pq t),(pq l),(.agg #[(.int .i64 x.kind),(.string x.name),(.string x.alias),(.string x.text),(.int .i64 x.flag),(.int .i64 x.size)]),(.func (.func fq180) #[] #[(pq c1),(pq c2)])] H R:=
 fnS mixed Tryz.func67 (hz [(12,pSlc),(18,pSlc),(19,pNd),(32,pSlc),(36,(pInt .i64)),(40,(pInt .i64)),(49,pUn),(53,pSlc),(58,pSlc)]) _ H R (Eq.mp (by unfold putG.W;kernel_rfl) h)
theorem putDef1.enter (t:Nat) (l:Nat) (x:Nd) (c1:Nat) (c2:Nat) (H:Heap) (R:RR) (h:putG.W fq128 t l x c1 c2 H R):Fn PP fq67 #[(pq t),(pq l),(.agg #[(.int .i64 x.kind),(.string x.name),(.string x.alias),(.string x.text),(.int .i64 x.flag),(.int .i64 x.size)]),(.func (.func fq128) #[] #[(pq c1),(pq c2)])] H R:=
 fnS mixed Tryz.func67 (hz [(12,pSlc),(18,pSlc),(19,pNd),(32,pSlc),(36,(pInt .i64)),(40,(pInt .i64)),(49,pUn),(53,pSlc),(58,pSlc)]) _ H R (Eq.mp (by unfold putG.W;kernel_rfl) h)
theorem putDef2.enter (t:Nat) (l:Nat) (x:Nd) (c1:Nat) (c2:Nat) (H:Heap) (R:RR) (h:putG.W fq129 t l x c1 c2 H R):Fn PP fq67 #[(pq t),(pq l),(.agg #[(.int .i64 x.kind),(.string x.name),(.string x.alias),(.string x.text),(.int .i64 x.flag),(.int .i64 x.size)]),(.func (.func fq129) #[] #[(pq c1),(pq c2)])] H R:=
 fnS mixed Tryz.func67 (hz [(12,pSlc),(18,pSlc),(19,pNd),(32,pSlc),(36,(pInt .i64)),(40,(pInt .i64)),(49,pUn),(53,pSlc),(58,pSlc)]) _ H R (Eq.mp (by unfold putG.W;kernel_rfl) h)
def textOf.W (n:Nat) (H:Heap) (R:RR):Prop:=
 lw H n 2 pStr fun(x1:ByteArray)=>
 retK (some [(.string x1)]) H R
theorem textOf.enter (n:Nat) (H:Heap) (R:RR) (h:textOf.W n H R):Fn PP fq69 #[(pq n)] H R:=
 fnS mixed Tryz.func69 (hz [(8,pStr)]) _ H R (Eq.mp (by unfold textOf.W;kernel_rfl) h)
def textNil.W (H:Heap) (R:RR):Prop:=
 retK (some [(.string (bs []))]) H R
theorem textNil.enter (H:Heap) (R:RR) (h:textNil.W H R):Fn PP fq69 #[(.pointer none)] H R:=
 fnS mixed Tryz.func69 (hz []) _ H R (Eq.mp (by unfold textNil.W;kernel_rfl) h)
def onOf.W (n:Nat) (H:Heap) (R:RR):Prop:=
 lw H n 2 pPtr fun(x1:Option Addr)=>
 callW PP fq69 #[(.pointer x1)] H pStr fun(x2:ByteArray) H3=>
 retK (some [(.string x2)]) H3 R
theorem onOf.enter (n:Nat) (H:Heap) (R:RR) (h:onOf.W n H R):Fn PP fq68 #[(pq n)] H R:=
 fnS mixed Tryz.func68 (hz [(8,pPtr),(9,pStr)]) _ H R (Eq.mp (by unfold onOf.W;kernel_rfl) h)
def onNil.W (H:Heap) (R:RR):Prop:=
 retK (some [(.string (bs []))]) H R
theorem onNil.enter (H:Heap) (R:RR) (h:onNil.W H R):Fn PP fq68 #[(.pointer none)] H R:=
 fnS mixed Tryz.func68 (hz []) _ H R (Eq.mp (by unfold onNil.W;kernel_rfl) h)
def putNil.W (t:Nat) (l:Nat) (x:Nd) (H:Heap) (R:RR):Prop:=
 newB H (.cells #[(.int .i64 x.kind),(.string x.name),(.string x.alias),(.string x.text),(.int .i64 x.flag),(.int .i64 x.size)] tq41) fun b1 H2=>
 lw H2 t 0 pSlc fun(x3:Sl)=>
 lw H2 t 0 pSlc fun(x4:Sl)=>
 loadW H2 true 6 ⟨b1,0,none⟩ pNd fun(x5:Int×ByteArray×ByteArray×ByteArray×Int×Int)=>
 newB H2 (.cells #[(.int .i64 x5.1),(.string x5.2.1),(.string x5.2.2.1),(.string x5.2.2.2.1),(.int .i64 x5.2.2.2.2.1),(.int .i64 x5.2.2.2.2.2)] tq41) fun b6 H7=>
 lc H7 t 0 (.slice x4.1 x4.2.1 x4.2.2)∧
 appK H7 tq41 6 72 x4.1 x4.2.1 x4.2.2 (some ⟨b6,0,none⟩) 1 fun a8 c9 H10=>
 storeW H10 ⟨t,0,none⟩ [(.slice a8 (x4.2.1+1) c9)] fun H11=>
 lw H11 t 1 pSlc fun(x12:Sl)=>
 lw H11 l 0 (pInt .i64) fun(x13:Int)=>
 lw H11 l 1 (pInt .i64) fun(x14:Int)=>
 newB H11 (.cells #[(.int .i64 x13),(.int .i64 x14)] tq65) fun b15 H16=>
 lc H16 t 1 (.slice x12.1 x12.2.1 x12.2.2)∧
 appK H16 tq65 2 16 x12.1 x12.2.1 x12.2.2 (some ⟨b15,0,none⟩) 1 fun a17 c18 H19=>
 storeW H19 ⟨t,1,none⟩ [(.slice a17 (x12.2.1+1) c18)] fun H20=>
 lw H20 t 0 pSlc fun(x21:Sl)=>
 lw H20 t 0 pSlc fun(x22:Sl)=>
 (IxOk x21.1 ((x3.2.1:Nat):Int) x21.2.1)∧
 storeW H20 ⟨(blkOf x21.1),((offOf x21.1+((x3.2.1:Nat):Int).toNat*6)+5),none⟩ [(.int .i64 (IntKind.i64.wrap (((x22.2.1:Nat):Int) -((x3.2.1:Nat):Int))))] fun H23=>
 retK (some []) H23 R
theorem putNil.enter (t:Nat) (l:Nat) (x:Nd) (H:Heap) (R:RR) (h:putNil.W t l x H R):Fn PP fq67 #[(pq t),(pq l),(.agg #[(.int .i64 x.kind),(.string x.name),(.string x.alias),(.string x.text),(.int .i64 x.flag),(.int .i64 x.size)]),.nilFunc] H R:=
 fnS mixed Tryz.func67 (hz [(12,pSlc),(18,pSlc),(19,pNd),(32,pSlc),(36,(pInt .i64)),(40,(pInt .i64)),(53,pSlc),(58,pSlc)]) _ H R (Eq.mp (by unfold putNil.W;kernel_rfl) h)
def inArg.W (c1:Nat) (c2:Nat) (H:Heap) (R:RR):Prop:=
 lw H c1 0 pPtr fun(x1:Option Addr)=>
 lw H c2 0 pBlk fun(x2:Nat)=>
 lw H x2 3 pRaw fun(x3:Value)=>
 callW PP fq119 #[(.pointer x1),x3] H pUn fun(_:Unit) H5=>
 retK (some []) H5 R
theorem inArg.enter (c1:Nat) (c2:Nat) (H:Heap) (R:RR) (h:inArg.W c1 c2 H R):Fn PP fq120 #[(pq c1),(pq c2)] H R:=
 fnS mixed Tryz.func120 (hz [(2,pPtr),(3,pBlk),(6,pRaw),(7,pUn)]) _ H R (Eq.mp (by unfold inArg.W;kernel_rfl) h)
def inDir.W (c1:Nat) (c2:Nat) (H:Heap) (R:RR):Prop:=
 lw H c1 0 pPtr fun(x1:Option Addr)=>
 lw H c2 0 pBlk fun(x2:Nat)=>
 lw H x2 3 pSlc fun(x3:Sl)=>
 callW PP fq64 #[(.pointer x1),(.slice x3.1 x3.2.1 x3.2.2)] H pUn fun(_:Unit) H5=>
 retK (some []) H5 R
theorem inDir.enter (c1:Nat) (c2:Nat) (H:Heap) (R:RR) (h:inDir.W c1 c2 H R):Fn PP fq121 #[(pq c1),(pq c2)] H R:=
 fnS mixed Tryz.func121 (hz [(2,pPtr),(3,pBlk),(6,pSlc),(7,pUn)]) _ H R (Eq.mp (by unfold inDir.W;kernel_rfl) h)
def inVarD.W (c1:Nat) (c2:Nat) (H:Heap) (R:RR):Prop:=
 lw H c1 0 pPtr fun(x1:Option Addr)=>
 lw H c2 0 pBlk fun(x2:Nat)=>
 lw H x2 3 pRaw fun(x3:Value)=>
 callW PP fq118 #[(.pointer x1),x3] H pUn fun(_:Unit) H5=>
 lw H5 c2 0 pBlk fun(x6:Nat)=>
 lw H5 x6 4 pIf fun(_x7:(Nat×Nat))=>
 lw H5 c1 0 pPtr fun(x8:Option Addr)=>
 lw H5 c2 0 pBlk fun(x9:Nat)=>
 lw H5 x9 4 pIf fun(x10:(Nat×Nat))=>
 callW PP fq119 #[(.pointer x8),(.iface x10.1 (pq x10.2))] H5 pUn fun(_:Unit) H12=>
 retK (some []) H12 R
theorem inVarD.enter (c1:Nat) (c2:Nat) (H:Heap) (R:RR) (h:inVarD.W c1 c2 H R):Fn PP fq117 #[(pq c1),(pq c2)] H R:=
 fnS mixed Tryz.func117 (hz [(2,pPtr),(3,pBlk),(6,pRaw),(7,pUn),(8,pBlk),(11,pIf),(13,pPtr),(14,pBlk),(17,pIf),(18,pUn)]) _ H R (Eq.mp (by unfold inVarD.W;kernel_rfl) h)
def inVarD0.W (c1:Nat) (c2:Nat) (H:Heap) (R:RR):Prop:=
 lw H c1 0 pPtr fun(x1:Option Addr)=>
 lw H c2 0 pBlk fun(x2:Nat)=>
 lw H x2 3 pRaw fun(x3:Value)=>
 callW PP fq118 #[(.pointer x1),x3] H pUn fun(_:Unit) H5=>
 lw H5 c2 0 pBlk fun(x6:Nat)=>
 lw H5 x6 4 ⟨Unit,fun _=> .nilIface⟩ fun(_x7:Unit)=>
 retK (some []) H5 R
theorem inVarD0.enter (c1:Nat) (c2:Nat) (H:Heap) (R:RR) (h:inVarD0.W c1 c2 H R):Fn PP fq117 #[(pq c1),(pq c2)] H R:=
 fnS mixed Tryz.func117 (hz [(2,pPtr),(3,pBlk),(6,pRaw),(7,pUn),(8,pBlk),(11,⟨Unit,fun _=> .nilIface⟩)]) _ H R (Eq.mp (by unfold inVarD0.W;kernel_rfl) h)
def inSel1.W (c1:Nat) (c2:Nat) (H:Heap) (R:RR):Prop:=
 lw H c1 0 pPtr fun(x1:Option Addr)=>
 lw H c2 0 pBlk fun(x2:Nat)=>
 lw H x2 4 pSlc fun(x3:Sl)=>
 callW PP fq64 #[(.pointer x1),(.slice x3.1 x3.2.1 x3.2.2)] H pUn fun(_:Unit) H5=>
 lw H5 c1 0 pPtr fun(x6:Option Addr)=>
 lw H5 c2 0 pBlk fun(x7:Nat)=>
 lw H5 x7 5 pSlc fun(x8:Sl)=>
 callW PP fq65 #[(.pointer x6),(.slice x8.1 x8.2.1 x8.2.2)] H5 pUn fun(_:Unit) H10=>
 lw H10 c1 0 pPtr fun(x11:Option Addr)=>
 lw H10 c2 0 pBlk fun(x12:Nat)=>
 lw H10 x12 6 pPtr fun(x13:Option Addr)=>
 callW PP fq125 #[(.pointer x11),(.pointer x13)] H10 pUn fun(_:Unit) H15=>
 retK (some []) H15 R
theorem inSel1.enter (c1:Nat) (c2:Nat) (H:Heap) (R:RR) (h:inSel1.W c1 c2 H R):Fn PP fq124 #[(pq c1),(pq c2)] H R:=
 fnS mixed Tryz.func124 (hz [(2,pPtr),(3,pBlk),(6,pSlc),(7,pUn),(8,pPtr),(9,pBlk),(12,pSlc),(13,pUn),(14,pPtr),(15,pBlk),(18,pPtr),(19,pUn)]) _ H R (Eq.mp (by unfold inSel1.W;kernel_rfl) h)
def inSel2.W (c1:Nat) (c2:Nat) (H:Heap) (R:RR):Prop:=
 lw H c1 0 pPtr fun(x1:Option Addr)=>
 lw H c2 0 pBlk fun(x2:Nat)=>
 lw H x2 3 pSlc fun(x3:Sl)=>
 callW PP fq65 #[(.pointer x1),(.slice x3.1 x3.2.1 x3.2.2)] H pUn fun(_:Unit) H5=>
 retK (some []) H5 R
theorem inSel2.enter (c1:Nat) (c2:Nat) (H:Heap) (R:RR) (h:inSel2.W c1 c2 H R):Fn PP fq126 #[(pq c1),(pq c2)] H R:=
 fnS mixed Tryz.func126 (hz [(2,pPtr),(3,pBlk),(6,pSlc),(7,pUn)]) _ H R (Eq.mp (by unfold inSel2.W;kernel_rfl) h)
def inSel3.W (c1:Nat) (c2:Nat) (H:Heap) (R:RR):Prop:=
 lw H c1 0 pPtr fun(x1:Option Addr)=>
 lw H c2 0 pBlk fun(x2:Nat)=>
 lw H x2 3 pSlc fun(x3:Sl)=>
 callW PP fq65 #[(.pointer x1),(.slice x3.1 x3.2.1 x3.2.2)] H pUn fun(_:Unit) H5=>
 lw H5 c1 0 pPtr fun(x6:Option Addr)=>
 lw H5 c2 0 pBlk fun(x7:Nat)=>
 lw H5 x7 4 pPtr fun(x8:Option Addr)=>
 callW PP fq125 #[(.pointer x6),(.pointer x8)] H5 pUn fun(_:Unit) H10=>
 retK (some []) H10 R
theorem inSel3.enter (c1:Nat) (c2:Nat) (H:Heap) (R:RR) (h:inSel3.W c1 c2 H R):Fn PP fq127 #[(pq c1),(pq c2)] H R:=
 fnS mixed Tryz.func127 (hz [(2,pPtr),(3,pBlk),(6,pSlc),(7,pUn),(8,pPtr),(9,pBlk),(12,pPtr),(13,pUn)]) _ H R (Eq.mp (by unfold inSel3.W;kernel_rfl) h)
def inSet.W (c1:Nat) (c2:Nat) (H:Heap) (R:RR):Prop:=
 lw H c1 0 pBlk fun(x1:Nat)=>
 lw H x1 2 pSlc fun(x2:Sl)=>
 loopK (Int×Unit) (0,()) H fun z3 H4 next5=>
 forkB (decide (z3.1<((x2.2.1:Nat):Int)))
 ((IxOk x2.1 z3.1 x2.2.1)∧
 loadW H4 false 1 ⟨(blkOf x2.1),(offOf x2.1+z3.1.toNat*1),none⟩ pRaw fun(x6:Value)=>
 lw H4 c2 0 pPtr fun(x7:Option Addr)=>
 callW PP fq73 #[(.pointer x7),x6] H4 pUn fun(_:Unit) H9=>
 next5 ((IntKind.i64.wrap (z3.1+1)),()) H9)
 (retK (some []) H4 R)
theorem inSet.enter (c1:Nat) (c2:Nat) (H:Heap) (R:RR) (h:inSet.W c1 c2 H R):Fn PP fq184 #[(pq c1),(pq c2)] H R:=
 fnS mixed Tryz.func184 ⟨patL [(4,pBlk),(7,pSlc),(12,pRaw),(13,pPtr),(15,pUn)],loopL [(0,[Slot.int .i64 9])],joinL [],joinL [],joinRL []⟩ _ H R (Eq.mp (by unfold inSet.W;kernel_rfl) h)
def inSys2.W (c1:Nat) (c2:Nat) (H:Heap) (R:RR):Prop:=
 lw H c1 0 pPtr fun(x1:Option Addr)=>
 lw H c2 0 pBlk fun(x2:Nat)=>
 lw H x2 2 pPtr fun(x3:Option Addr)=>
 callW PP fq66 #[(.pointer x1),(.pointer x3)] H pUn fun(_:Unit) H5=>
 lw H5 c1 0 pPtr fun(x6:Option Addr)=>
 lw H5 c2 0 pBlk fun(x7:Nat)=>
 lw H5 x7 4 pSlc fun(x8:Sl)=>
 callW PP fq65 #[(.pointer x6),(.slice x8.1 x8.2.1 x8.2.2)] H5 pUn fun(_:Unit) H10=>
 retK (some []) H10 R
theorem inSys2.enter (c1:Nat) (c2:Nat) (H:Heap) (R:RR) (h:inSys2.W c1 c2 H R):Fn PP fq186 #[(pq c1),(pq c2)] H R:=
 fnS mixed Tryz.func186 (hz [(2,pPtr),(3,pBlk),(6,pPtr),(7,pUn),(8,pPtr),(9,pBlk),(12,pSlc),(13,pUn)]) _ H R (Eq.mp (by unfold inSys2.W;kernel_rfl) h)
def inVal1.W (c1:Nat) (c2:Nat) (H:Heap) (R:RR):Prop:=
 lw H c1 0 pBlk fun(x1:Nat)=>
 lw H x1 2 pSlc fun(x2:Sl)=>
 loopK (Int×Unit) (0,()) H fun z3 H4 next5=>
 forkB (decide (z3.1<((x2.2.1:Nat):Int)))
 ((IxOk x2.1 z3.1 x2.2.1)∧
 loadW H4 false 1 ⟨(blkOf x2.1),(offOf x2.1+z3.1.toNat*1),none⟩ pRaw fun(x6:Value)=>
 lw H4 c2 0 pPtr fun(x7:Option Addr)=>
 callW PP fq119 #[(.pointer x7),x6] H4 pUn fun(_:Unit) H9=>
 next5 ((IntKind.i64.wrap (z3.1+1)),()) H9)
 (retK (some []) H4 R)
theorem inVal1.enter (c1:Nat) (c2:Nat) (H:Heap) (R:RR) (h:inVal1.W c1 c2 H R):Fn PP fq181 #[(pq c1),(pq c2)] H R:=
 fnS mixed Tryz.func181 ⟨patL [(4,pBlk),(7,pSlc),(12,pRaw),(13,pPtr),(15,pUn)],loopL [(0,[Slot.int .i64 9])],joinL [],joinL [],joinRL []⟩ _ H R (Eq.mp (by unfold inVal1.W;kernel_rfl) h)
def inVal2.W (c1:Nat) (c2:Nat) (H:Heap) (R:RR):Prop:=
 lw H c1 0 pBlk fun(x1:Nat)=>
 lw H x1 2 pSlc fun(x2:Sl)=>
 loopK (Int×Unit) (0,()) H fun z3 H4 next5=>
 forkB (decide (z3.1<((x2.2.1:Nat):Int)))
 ((IxOk x2.1 z3.1 x2.2.1)∧
 loadW H4 false 1 ⟨(blkOf x2.1),(offOf x2.1+z3.1.toNat*1),none⟩ pBlk fun(x6:Nat)=>
 newB H4 (.cells #[(.pointer none)] tq317) fun b7 H8=>
 storeW H8 ⟨b7,0,none⟩ [(pq x6)] fun H9=>
 lw H9 c2 0 pPtr fun(x10:Option Addr)=>
 lw H9 b7 0 pBlk fun(x11:Nat)=>
 lw H9 x11 2 pPtr fun(x12:Option Addr)=>
 lw H9 b7 0 pBlk fun(x13:Nat)=>
 lw H9 x13 1 pPtr fun(x14:Option Addr)=>
 callW PP fq69 #[(.pointer x14)] H9 pStr fun(x15:ByteArray) H16=>
 lc H16 x11 2 (.pointer x12)∧
 lc H16 b7 0 (pq x11)∧
 lc H16 c2 0 (.pointer x10)∧
 callW PP fq67 #[(.pointer x10),(.pointer x12),(.agg #[(.int .i64 19),(.string x15),(.string (bs [])),(.string (bs [])),(.int .i64 0),(.int .i64 0)]),(.func (.func fq183) #[] #[(pq c2),(pq b7)])] H16 pUn fun(_:Unit) H18=>
 lc H18 b7 0 (pq x13)∧
 next5 ((IntKind.i64.wrap (z3.1+1)),()) H18)
 (retK (some []) H4 R)
theorem inVal2.enter (c1:Nat) (c2:Nat) (H:Heap) (R:RR) (h:inVal2.W c1 c2 H R):Fn PP fq182 #[(pq c1),(pq c2)] H R:=
 fnS mixed Tryz.func182 ⟨patL [(4,pBlk),(7,pSlc),(12,pBlk),(13,pPtr),(14,pBlk),(17,pPtr),(18,pBlk),(21,pPtr),(22,pStr),(25,pUn)],loopL [(0,[Slot.int .i64 9])],joinL [],joinL [],joinRL []⟩ _ H R (Eq.mp (by unfold inVal2.W;kernel_rfl) h)
def inVal21.W (c1:Nat) (c2:Nat) (H:Heap) (R:RR):Prop:=
 lw H c1 0 pPtr fun(x1:Option Addr)=>
 lw H c2 0 pBlk fun(x2:Nat)=>
 lw H x2 3 pRaw fun(x3:Value)=>
 callW PP fq119 #[(.pointer x1),x3] H pUn fun(_:Unit) H5=>
 retK (some []) H5 R
theorem inVal21.enter (c1:Nat) (c2:Nat) (H:Heap) (R:RR) (h:inVal21.W c1 c2 H R):Fn PP fq183 #[(pq c1),(pq c2)] H R:=
 fnS mixed Tryz.func183 (hz [(2,pPtr),(3,pBlk),(6,pRaw),(7,pUn)]) _ H R (Eq.mp (by unfold inVal21.W;kernel_rfl) h)
def inTyp1.W (c1:Nat) (c2:Nat) (H:Heap) (R:RR):Prop:=
 lw H c1 0 pPtr fun(x1:Option Addr)=>
 lw H c2 0 pBlk fun(x2:Nat)=>
 lw H x2 2 pRaw fun(x3:Value)=>
 callW PP fq118 #[(.pointer x1),x3] H pUn fun(_:Unit) H5=>
 retK (some []) H5 R
theorem inTyp1.enter (c1:Nat) (c2:Nat) (H:Heap) (R:RR) (h:inTyp1.W c1 c2 H R):Fn PP fq179 #[(pq c1),(pq c2)] H R:=
 fnS mixed Tryz.func179 (hz [(2,pPtr),(3,pBlk),(6,pRaw),(7,pUn)]) _ H R (Eq.mp (by unfold inTyp1.W;kernel_rfl) h)
def inTyp2.W (c1:Nat) (c2:Nat) (H:Heap) (R:RR):Prop:=
 lw H c1 0 pPtr fun(x1:Option Addr)=>
 lw H c2 0 pBlk fun(x2:Nat)=>
 lw H x2 2 pRaw fun(x3:Value)=>
 callW PP fq118 #[(.pointer x1),x3] H pUn fun(_:Unit) H5=>
 retK (some []) H5 R
theorem inTyp2.enter (c1:Nat) (c2:Nat) (H:Heap) (R:RR) (h:inTyp2.W c1 c2 H R):Fn PP fq180 #[(pq c1),(pq c2)] H R:=
 fnS mixed Tryz.func180 (hz [(2,pPtr),(3,pBlk),(6,pRaw),(7,pUn)]) _ H R (Eq.mp (by unfold inTyp2.W;kernel_rfl) h)
def inDef1.W (c1:Nat) (c2:Nat) (H:Heap) (R:RR):Prop:=
 lw H c1 0 pPtr fun(x1:Option Addr)=>
 lw H c2 0 pBlk fun(x2:Nat)=>
 lw H x2 4 pSlc fun(x3:Sl)=>
 callW PP fq63 #[(.pointer x1),(.slice x3.1 x3.2.1 x3.2.2)] H pUn fun(_:Unit) H5=>
 lw H5 c1 0 pPtr fun(x6:Option Addr)=>
 lw H5 c2 0 pBlk fun(x7:Nat)=>
 lw H5 x7 5 pSlc fun(x8:Sl)=>
 callW PP fq65 #[(.pointer x6),(.slice x8.1 x8.2.1 x8.2.2)] H5 pUn fun(_:Unit) H10=>
 lw H10 c1 0 pPtr fun(x11:Option Addr)=>
 lw H10 c2 0 pBlk fun(x12:Nat)=>
 lw H10 x12 6 pPtr fun(x13:Option Addr)=>
 callW PP fq125 #[(.pointer x11),(.pointer x13)] H10 pUn fun(_:Unit) H15=>
 retK (some []) H15 R
theorem inDef1.enter (c1:Nat) (c2:Nat) (H:Heap) (R:RR) (h:inDef1.W c1 c2 H R):Fn PP fq128 #[(pq c1),(pq c2)] H R:=
 fnS mixed Tryz.func128 (hz [(2,pPtr),(3,pBlk),(6,pSlc),(7,pUn),(8,pPtr),(9,pBlk),(12,pSlc),(13,pUn),(14,pPtr),(15,pBlk),(18,pPtr),(19,pUn)]) _ H R (Eq.mp (by unfold inDef1.W;kernel_rfl) h)
def inDef2.W (c1:Nat) (c2:Nat) (H:Heap) (R:RR):Prop:=
 lw H c1 0 pPtr fun(x1:Option Addr)=>
 lw H c2 0 pBlk fun(x2:Nat)=>
 lw H x2 6 pSlc fun(x3:Sl)=>
 callW PP fq65 #[(.pointer x1),(.slice x3.1 x3.2.1 x3.2.2)] H pUn fun(_:Unit) H5=>
 lw H5 c1 0 pPtr fun(x6:Option Addr)=>
 lw H5 c2 0 pBlk fun(x7:Nat)=>
 lw H5 x7 7 pPtr fun(x8:Option Addr)=>
 callW PP fq125 #[(.pointer x6),(.pointer x8)] H5 pUn fun(_:Unit) H10=>
 retK (some []) H10 R
theorem inDef2.enter (c1:Nat) (c2:Nat) (H:Heap) (R:RR) (h:inDef2.W c1 c2 H R):Fn PP fq129 #[(pq c1),(pq c2)] H R:=
 fnS mixed Tryz.func129 (hz [(2,pPtr),(3,pBlk),(6,pSlc),(7,pUn),(8,pPtr),(9,pBlk),(12,pPtr),(13,pUn)]) _ H R (Eq.mp (by unfold inDef2.W;kernel_rfl) h)
def description0.W (_t:Nat) (H:Heap) (R:RR):Prop:=
 retK (some []) H R
theorem description0.enter (t:Nat) (H:Heap) (R:RR) (h:description0.W t H R):Fn PP fq66 #[(pq t),(.pointer none)] H R:=
 fnS mixed Tryz.func66 (hz []) _ H R (Eq.mp (by unfold description0.W;kernel_rfl) h)
def argumentsT.W (t:Nat) (l:Option Addr) (lN _lC:Nat) (H:Heap) (R:RR):Prop:=
 newB H (.cells #[(pq t)] tq60) fun b1 H2=>
 loopK (Int×Unit) (0,()) H2 fun z3 H4 next5=>
 forkB (decide (z3.1<((lN:Nat):Int)))
 ((IxOk l z3.1 lN)∧
 loadW H4 false 1 ⟨(blkOf l),(offOf l+z3.1.toNat*1),none⟩ pBlk fun(x6:Nat)=>
 newB H4 (.cells #[(.pointer none)] tq96) fun b7 H8=>
 storeW H8 ⟨b7,0,none⟩ [(pq x6)] fun H9=>
 lw H9 b1 0 pPtr fun(x10:Option Addr)=>
 lw H9 b7 0 pBlk fun(x11:Nat)=>
 lw H9 x11 1 pPtr fun(x12:Option Addr)=>
 lw H9 b7 0 pBlk fun(x13:Nat)=>
 lw H9 x13 2 pPtr fun(x14:Option Addr)=>
 callW PP fq69 #[(.pointer x14)] H9 pStr fun(x15:ByteArray) H16=>
 lc H16 x11 1 (.pointer x12)∧
 lc H16 b7 0 (pq x11)∧
 lc H16 b1 0 (.pointer x10)∧
 callW PP fq67 #[(.pointer x10),(.pointer x12),(.agg #[(.int .i64 9),(.string x15),(.string (bs [])),(.string (bs [])),(.int .i64 0),(.int .i64 0)]),(.func (.func fq120) #[] #[(pq b1),(pq b7)])] H16 pUn fun(_:Unit) H18=>
 lc H18 b7 0 (pq x13)∧
 next5 ((IntKind.i64.wrap (z3.1+1)),()) H18)
 (retK (some []) H4 R)
theorem argumentsT.enter (t:Nat) (l:Option Addr) (lN lC:Nat) (H:Heap) (R:RR) (h:argumentsT.W t l lN lC H R):Fn PP fq64 #[(pq t),(.slice l lN lC)] H R:=
 fnS mixed Tryz.func64 ⟨patL [(11,pBlk),(12,pPtr),(13,pBlk),(16,pPtr),(17,pBlk),(20,pPtr),(21,pStr),(24,pUn)],loopL [(0,[Slot.int .i64 8])],joinL [],joinL [],joinRL []⟩ _ H R (Eq.mp (by unfold argumentsT.W;kernel_rfl) h)
def directivesT.W (t:Nat) (l:Option Addr) (lN _lC:Nat) (H:Heap) (R:RR):Prop:=
 newB H (.cells #[(pq t)] tq60) fun b1 H2=>
 loopK (Int×Unit) (0,()) H2 fun z3 H4 next5=>
 forkB (decide (z3.1<((lN:Nat):Int)))
 ((IxOk l z3.1 lN)∧
 loadW H4 false 1 ⟨(blkOf l),(offOf l+z3.1.toNat*1),none⟩ pBlk fun(x6:Nat)=>
 newB H4 (.cells #[(.pointer none)] tq99) fun b7 H8=>
 storeW H8 ⟨b7,0,none⟩ [(pq x6)] fun H9=>
 lw H9 b1 0 pPtr fun(x10:Option Addr)=>
 lw H9 b7 0 pBlk fun(x11:Nat)=>
 lw H9 x11 1 pPtr fun(x12:Option Addr)=>
 lw H9 b7 0 pBlk fun(x13:Nat)=>
 lw H9 x13 2 pPtr fun(x14:Option Addr)=>
 callW PP fq69 #[(.pointer x14)] H9 pStr fun(x15:ByteArray) H16=>
 lc H16 x11 1 (.pointer x12)∧
 lc H16 b7 0 (pq x11)∧
 lc H16 b1 0 (.pointer x10)∧
 callW PP fq67 #[(.pointer x10),(.pointer x12),(.agg #[(.int .i64 10),(.string x15),(.string (bs [])),(.string (bs [])),(.int .i64 0),(.int .i64 0)]),(.func (.func fq121) #[] #[(pq b1),(pq b7)])] H16 pUn fun(_:Unit) H18=>
 lc H18 b7 0 (pq x13)∧
 next5 ((IntKind.i64.wrap (z3.1+1)),()) H18)
 (retK (some []) H4 R)
theorem directivesT.enter (t:Nat) (l:Option Addr) (lN lC:Nat) (H:Heap) (R:RR) (h:directivesT.W t l lN lC H R):Fn PP fq65 #[(pq t),(.slice l lN lC)] H R:=
 fnS mixed Tryz.func65 ⟨patL [(11,pBlk),(12,pPtr),(13,pBlk),(16,pPtr),(17,pBlk),(20,pPtr),(21,pStr),(24,pUn)],loopL [(0,[Slot.int .i64 8])],joinL [],joinL [],joinRL []⟩ _ H R (Eq.mp (by unfold directivesT.W;kernel_rfl) h)
def variablesT.W (t:Nat) (l:Option Addr) (lN _lC:Nat) (H:Heap) (R:RR):Prop:=
 newB H (.cells #[(pq t)] tq60) fun b1 H2=>
 loopK (Int×Unit) (0,()) H2 fun z3 H4 next5=>
 forkB (decide (z3.1<((lN:Nat):Int)))
 ((IxOk l z3.1 lN)∧
 loadW H4 false 1 ⟨(blkOf l),(offOf l+z3.1.toNat*1),none⟩ pBlk fun(x6:Nat)=>
 newB H4 (.cells #[(.pointer none)] tq93) fun b7 H8=>
 storeW H8 ⟨b7,0,none⟩ [(pq x6)] fun H9=>
 lw H9 b7 0 pBlk fun(x10:Nat)=>
 lw H9 x10 2 pBlk fun(_x11:Nat)=>
 lw H9 b7 0 pBlk fun(x12:Nat)=>
 lw H9 x12 2 pBlk fun(x13:Nat)=>
 lw H9 x13 2 pPtr fun(x14:Option Addr)=>
 callW PP fq69 #[(.pointer x14)] H9 pStr fun(x15:ByteArray) H16=>
 lw H16 b1 0 pPtr fun(x17:Option Addr)=>
 lw H16 b7 0 pBlk fun(x18:Nat)=>
 lw H16 x18 1 pPtr fun(x19:Option Addr)=>
 callW PP fq67 #[(.pointer x17),(.pointer x19),(.agg #[(.int .i64 4),(.string x15),(.string (bs [])),(.string (bs [])),(.int .i64 0),(.int .i64 0)]),(.func (.func fq117) #[] #[(pq b1),(pq b7)])] H16 pUn fun(_:Unit) H21=>
 next5 ((IntKind.i64.wrap (z3.1+1)),()) H21)
 (retK (some []) H4 R)
theorem variablesT.enter (t:Nat) (l:Option Addr) (lN lC:Nat) (H:Heap) (R:RR) (h:variablesT.W t l lN lC H R):Fn PP fq63 #[(pq t),(.slice l lN lC)] H R:=
 fnS mixed Tryz.func63 ⟨patL [(12,pBlk),(13,pBlk),(16,pBlk),(18,pBlk),(21,pBlk),(24,pPtr),(25,pStr),(26,pPtr),(27,pBlk),(30,pPtr),(34,pUn)],loopL [(0,[Slot.int .i64 9])],joinL [],joinL [],joinRL []⟩ _ H R (Eq.mp (by unfold variablesT.W;kernel_rfl) h)
def setOf.W (t:Nat) (s:Nat) (H:Heap) (R:RR):Prop:=
 newB H (.cells #[(pq t)] tq60) fun b1 H2=>
 newB H2 (.cells #[(pq s)] tq192) fun b3 H4=>
 lw H4 b3 0 pBlk fun(_x5:Nat)=>
 lw H4 b1 0 pPtr fun(x6:Option Addr)=>
 lw H4 b3 0 pBlk fun(x7:Nat)=>
 lw H4 x7 1 pPtr fun(x8:Option Addr)=>
 callW PP fq67 #[(.pointer x6),(.pointer x8),(.agg #[(.int .i64 5),(.string (bs [])),(.string (bs [])),(.string (bs [])),(.int .i64 0),(.int .i64 0)]),(.func (.func fq184) #[] #[(pq b3),(pq b1)])] H4 pUn fun(_:Unit) H10=>
 retK (some []) H10 R
theorem setOf.enter (t:Nat) (s:Nat) (H:Heap) (R:RR) (h:setOf.W t s H R):Fn PP fq125 #[(pq t),(pq s)] H R:=
 fnS mixed Tryz.func125 (hz [(4,pBlk),(6,pPtr),(7,pBlk),(10,pPtr),(13,pUn)]) _ H R (Eq.mp (by unfold setOf.W;kernel_rfl) h)
def valueVariable.W (t:Nat) (v:Nat) (H:Heap) (R:RR):Prop:=
 newB H (.cells #[(pq t)] tq60) fun b1 H2=>
 lw H2 b1 0 pPtr fun(x3:Option Addr)=>
 lw H2 v 1 pPtr fun(x4:Option Addr)=>
 lw H2 v 2 pPtr fun(x5:Option Addr)=>
 callW PP fq69 #[(.pointer x5)] H2 pStr fun(x6:ByteArray) H7=>
 lc H7 v 1 (.pointer x4)∧
 lc H7 b1 0 (.pointer x3)∧
 callW PP fq67 #[(.pointer x3),(.pointer x4),(.agg #[(.int .i64 11),(.string x6),(.string (bs [])),(.string (bs [])),(.int .i64 0),(.int .i64 0)]),.nilFunc] H7 pUn fun(_:Unit) H9=>
 retK (some []) H9 R
theorem valueVariable.enter (t:Nat) (v:Nat) (H:Heap) (R:RR) (h:valueVariable.W t v H R):Fn PP fq119 #[(pq t),(.iface tq169 (pq v))] H R:=
 fnS mixed Tryz.func119 (hz [(21,pPtr),(25,pPtr),(29,pPtr),(30,pStr),(32,pUn)]) _ H R (Eq.mp (by unfold valueVariable.W;kernel_rfl) h)
def valueIntValue.W (t:Nat) (v:Nat) (H:Heap) (R:RR):Prop:=
 newB H (.cells #[(pq t)] tq60) fun b1 H2=>
 lw H2 b1 0 pPtr fun(x3:Option Addr)=>
 lw H2 v 1 pPtr fun(x4:Option Addr)=>
 lw H2 v 2 pStr fun(x5:ByteArray)=>
 callW PP fq67 #[(.pointer x3),(.pointer x4),(.agg #[(.int .i64 12),(.string (bs [])),(.string (bs [])),(.string x5),(.int .i64 0),(.int .i64 0)]),.nilFunc] H2 pUn fun(_:Unit) H7=>
 retK (some []) H7 R
theorem valueIntValue.enter (t:Nat) (v:Nat) (H:Heap) (R:RR) (h:valueIntValue.W t v H R):Fn PP fq119 #[(pq t),(.iface tq300 (pq v))] H R:=
 fnS mixed Tryz.func119 (hz [(36,pPtr),(40,pPtr),(44,pStr),(46,pUn)]) _ H R (Eq.mp (by unfold valueIntValue.W;kernel_rfl) h)
def valueFloatValue.W (t:Nat) (v:Nat) (H:Heap) (R:RR):Prop:=
 newB H (.cells #[(pq t)] tq60) fun b1 H2=>
 lw H2 b1 0 pPtr fun(x3:Option Addr)=>
 lw H2 v 1 pPtr fun(x4:Option Addr)=>
 lw H2 v 2 pStr fun(x5:ByteArray)=>
 callW PP fq67 #[(.pointer x3),(.pointer x4),(.agg #[(.int .i64 13),(.string (bs [])),(.string (bs [])),(.string x5),(.int .i64 0),(.int .i64 0)]),.nilFunc] H2 pUn fun(_:Unit) H7=>
 retK (some []) H7 R
theorem valueFloatValue.enter (t:Nat) (v:Nat) (H:Heap) (R:RR) (h:valueFloatValue.W t v H R):Fn PP fq119 #[(pq t),(.iface tq302 (pq v))] H R:=
 fnS mixed Tryz.func119 (hz [(50,pPtr),(54,pPtr),(58,pStr),(60,pUn)]) _ H R (Eq.mp (by unfold valueFloatValue.W;kernel_rfl) h)
def valueStringValue.W (t:Nat) (v:Nat) (H:Heap) (R:RR):Prop:=
 newB H (.cells #[(pq t)] tq60) fun b1 H2=>
 lw H2 b1 0 pPtr fun(x3:Option Addr)=>
 lw H2 v 1 pPtr fun(x4:Option Addr)=>
 lw H2 v 2 pStr fun(x5:ByteArray)=>
 callW PP fq67 #[(.pointer x3),(.pointer x4),(.agg #[(.int .i64 14),(.string (bs [])),(.string (bs [])),(.string x5),(.int .i64 0),(.int .i64 0)]),.nilFunc] H2 pUn fun(_:Unit) H7=>
 retK (some []) H7 R
theorem valueStringValue.enter (t:Nat) (v:Nat) (H:Heap) (R:RR) (h:valueStringValue.W t v H R):Fn PP fq119 #[(pq t),(.iface tq102 (pq v))] H R:=
 fnS mixed Tryz.func119 (hz [(64,pPtr),(68,pPtr),(72,pStr),(74,pUn)]) _ H R (Eq.mp (by unfold valueStringValue.W;kernel_rfl) h)
def valueBooleanValue.W (t:Nat) (v:Nat) (H:Heap) (R:RR):Prop:=
 newB H (.cells #[(pq t)] tq60) fun b1 H2=>
 newB H2 (.cells #[(.int .i64 0),(.string (bs [])),(.string (bs [])),(.string (bs [])),(.int .i64 0),(.int .i64 0)] tq41) fun b3 H4=>
 storeW H4 ⟨b3,0,none⟩ [(.int .i64 15),(.string (bs [])),(.string (bs [])),(.string (bs [])),(.int .i64 0),(.int .i64 0)] fun H5=>
 lw H5 v 2 pBool fun(x6:Bool)=>
 forkB x6
 (storeW H5 ⟨b3,4,none⟩ [(.int .i64 1)] fun H7=>
 lw H7 b1 0 pPtr fun(x8:Option Addr)=>
 lw H7 v 1 pPtr fun(x9:Option Addr)=>
 loadW H7 true 6 ⟨b3,0,none⟩ pNd fun(x10:Int×ByteArray×ByteArray×ByteArray×Int×Int)=>
 callW PP fq67 #[(.pointer x8),(.pointer x9),(.agg #[(.int .i64 x10.1),(.string x10.2.1),(.string x10.2.2.1),(.string x10.2.2.2.1),(.int .i64 x10.2.2.2.2.1),(.int .i64 x10.2.2.2.2.2)]),.nilFunc] H7 pUn fun(_:Unit) H12=>
 retK (some []) H12 R)
 (lw H5 b1 0 pPtr fun(x13:Option Addr)=>
 lw H5 v 1 pPtr fun(x14:Option Addr)=>
 loadW H5 true 6 ⟨b3,0,none⟩ pNd fun(x15:Int×ByteArray×ByteArray×ByteArray×Int×Int)=>
 callW PP fq67 #[(.pointer x13),(.pointer x14),(.agg #[(.int .i64 x15.1),(.string x15.2.1),(.string x15.2.2.1),(.string x15.2.2.2.1),(.int .i64 x15.2.2.2.2.1),(.int .i64 x15.2.2.2.2.2)]),.nilFunc] H5 pUn fun(_:Unit) H17=>
 retK (some []) H17 R)
theorem valueBooleanValue.enter (t:Nat) (v:Nat) (H:Heap) (R:RR) (h:valueBooleanValue.W t v H R):Fn PP fq119 #[(pq t),(.iface tq304 (pq v))] H R:=
 fnS mixed Tryz.func119 (hz [(82,pBool),(84,pPtr),(88,pPtr),(89,pNd),(90,pUn)]) _ H R (Eq.mp (by unfold valueBooleanValue.W;kernel_rfl) h)
def valueEnumValue.W (t:Nat) (v:Nat) (H:Heap) (R:RR):Prop:=
 newB H (.cells #[(pq t)] tq60) fun b1 H2=>
 lw H2 b1 0 pPtr fun(x3:Option Addr)=>
 lw H2 v 1 pPtr fun(x4:Option Addr)=>
 lw H2 v 2 pStr fun(x5:ByteArray)=>
 callW PP fq67 #[(.pointer x3),(.pointer x4),(.agg #[(.int .i64 16),(.string x5),(.string (bs [])),(.string (bs [])),(.int .i64 0),(.int .i64 0)]),.nilFunc] H2 pUn fun(_:Unit) H7=>
 retK (some []) H7 R
theorem valueEnumValue.enter (t:Nat) (v:Nat) (H:Heap) (R:RR) (h:valueEnumValue.W t v H R):Fn PP fq119 #[(pq t),(.iface tq307 (pq v))] H R:=
 fnS mixed Tryz.func119 (hz [(94,pPtr),(98,pPtr),(102,pStr),(104,pUn)]) _ H R (Eq.mp (by unfold valueEnumValue.W;kernel_rfl) h)
def valueListValue.W (t:Nat) (v:Nat) (H:Heap) (R:RR):Prop:=
 newB H (.cells #[(pq t)] tq60) fun b1 H2=>
 newB H2 (.cells #[(.pointer none)] tq309) fun b3 H4=>
 storeW H4 ⟨b3,0,none⟩ [(pq v)] fun H5=>
 lw H5 b1 0 pPtr fun(x6:Option Addr)=>
 lw H5 b3 0 pBlk fun(x7:Nat)=>
 lw H5 x7 1 pPtr fun(x8:Option Addr)=>
 callW PP fq67 #[(.pointer x6),(.pointer x8),(.agg #[(.int .i64 17),(.string (bs [])),(.string (bs [])),(.string (bs [])),(.int .i64 0),(.int .i64 0)]),(.func (.func fq181) #[] #[(pq b3),(pq b1)])] H5 pUn fun(_:Unit) H10=>
 retK (some []) H10 R
theorem valueListValue.enter (t:Nat) (v:Nat) (H:Heap) (R:RR) (h:valueListValue.W t v H R):Fn PP fq119 #[(pq t),(.iface tq309 (pq v))] H R:=
 fnS mixed Tryz.func119 (hz [(108,pPtr),(109,pBlk),(112,pPtr),(115,pUn)]) _ H R (Eq.mp (by unfold valueListValue.W;kernel_rfl) h)
def valueObjectValue.W (t:Nat) (v:Nat) (H:Heap) (R:RR):Prop:=
 newB H (.cells #[(pq t)] tq60) fun b1 H2=>
 newB H2 (.cells #[(.pointer none)] tq313) fun b3 H4=>
 storeW H4 ⟨b3,0,none⟩ [(pq v)] fun H5=>
 lw H5 b1 0 pPtr fun(x6:Option Addr)=>
 lw H5 b3 0 pBlk fun(x7:Nat)=>
 lw H5 x7 1 pPtr fun(x8:Option Addr)=>
 callW PP fq67 #[(.pointer x6),(.pointer x8),(.agg #[(.int .i64 18),(.string (bs [])),(.string (bs [])),(.string (bs [])),(.int .i64 0),(.int .i64 0)]),(.func (.func fq182) #[] #[(pq b3),(pq b1)])] H5 pUn fun(_:Unit) H10=>
 retK (some []) H10 R
theorem valueObjectValue.enter (t:Nat) (v:Nat) (H:Heap) (R:RR) (h:valueObjectValue.W t v H R):Fn PP fq119 #[(pq t),(.iface tq313 (pq v))] H R:=
 fnS mixed Tryz.func119 (hz [(119,pPtr),(120,pBlk),(123,pPtr),(126,pUn)]) _ H R (Eq.mp (by unfold valueObjectValue.W;kernel_rfl) h)
def typNamed.W (t:Nat) (v:Nat) (H:Heap) (R:RR):Prop:=
 newB H (.cells #[(pq t)] tq60) fun b1 H2=>
 lw H2 b1 0 pPtr fun(x3:Option Addr)=>
 lw H2 v 1 pPtr fun(x4:Option Addr)=>
 callW PP fq68 #[(pq v)] H2 pStr fun(x5:ByteArray) H6=>
 lc H6 v 1 (.pointer x4)∧
 lc H6 b1 0 (.pointer x3)∧
 callW PP fq67 #[(.pointer x3),(.pointer x4),(.agg #[(.int .i64 20),(.string x5),(.string (bs [])),(.string (bs [])),(.int .i64 0),(.int .i64 0)]),.nilFunc] H6 pUn fun(_:Unit) H8=>
 retK (some []) H8 R
theorem typNamed.enter (t:Nat) (v:Nat) (H:Heap) (R:RR) (h:typNamed.W t v H R):Fn PP fq118 #[(pq t),(.iface tq107 (pq v))] H R:=
 fnS mixed Tryz.func118 (hz [(15,pPtr),(19,pPtr),(21,pStr),(23,pUn)]) _ H R (Eq.mp (by unfold typNamed.W;kernel_rfl) h)
def typList.W (t:Nat) (v:Nat) (H:Heap) (R:RR):Prop:=
 newB H (.cells #[(pq t)] tq60) fun b1 H2=>
 newB H2 (.cells #[(.pointer none)] tq295) fun b3 H4=>
 storeW H4 ⟨b3,0,none⟩ [(pq v)] fun H5=>
 lw H5 b1 0 pPtr fun(x6:Option Addr)=>
 lw H5 b3 0 pBlk fun(x7:Nat)=>
 lw H5 x7 1 pPtr fun(x8:Option Addr)=>
 callW PP fq67 #[(.pointer x6),(.pointer x8),(.agg #[(.int .i64 21),(.string (bs [])),(.string (bs [])),(.string (bs [])),(.int .i64 0),(.int .i64 0)]),(.func (.func fq179) #[] #[(pq b1),(pq b3)])] H5 pUn fun(_:Unit) H10=>
 retK (some []) H10 R
theorem typList.enter (t:Nat) (v:Nat) (H:Heap) (R:RR) (h:typList.W t v H R):Fn PP fq118 #[(pq t),(.iface tq295 (pq v))] H R:=
 fnS mixed Tryz.func118 (hz [(27,pPtr),(28,pBlk),(31,pPtr),(34,pUn)]) _ H R (Eq.mp (by unfold typList.W;kernel_rfl) h)
def typNonNull.W (t:Nat) (v:Nat) (H:Heap) (R:RR):Prop:=
 newB H (.cells #[(pq t)] tq60) fun b1 H2=>
 newB H2 (.cells #[(.pointer none)] tq298) fun b3 H4=>
 storeW H4 ⟨b3,0,none⟩ [(pq v)] fun H5=>
 lw H5 b1 0 pPtr fun(x6:Option Addr)=>
 lw H5 b3 0 pBlk fun(x7:Nat)=>
 lw H5 x7 1 pPtr fun(x8:Option Addr)=>
 callW PP fq67 #[(.pointer x6),(.pointer x8),(.agg #[(.int .i64 22),(.string (bs [])),(.string (bs [])),(.string (bs [])),(.int .i64 0),(.int .i64 0)]),(.func (.func fq180) #[] #[(pq b1),(pq b3)])] H5 pUn fun(_:Unit) H10=>
 retK (some []) H10 R
theorem typNonNull.enter (t:Nat) (v:Nat) (H:Heap) (R:RR) (h:typNonNull.W t v H R):Fn PP fq118 #[(pq t),(.iface tq298 (pq v))] H R:=
 fnS mixed Tryz.func118 (hz [(38,pPtr),(39,pBlk),(42,pPtr),(45,pUn)]) _ H R (Eq.mp (by unfold typNonNull.W;kernel_rfl) h)
def selectionField.W (t:Nat) (v:Nat) (H:Heap) (R:RR):Prop:=
 newB H (.cells #[(pq t)] tq60) fun b1 H2=>
 newB H2 (.cells #[(.pointer none)] tq126) fun b3 H4=>
 storeW H4 ⟨b3,0,none⟩ [(pq v)] fun H5=>
 lw H5 b1 0 pPtr fun(x6:Option Addr)=>
 lw H5 b3 0 pBlk fun(x7:Nat)=>
 lw H5 x7 1 pPtr fun(x8:Option Addr)=>
 lw H5 b3 0 pBlk fun(x9:Nat)=>
 lw H5 x9 3 pPtr fun(x10:Option Addr)=>
 lw H5 b3 0 pBlk fun(x11:Nat)=>
 lw H5 x11 2 pPtr fun(x12:Option Addr)=>
 callW PP fq69 #[(.pointer x10)] H5 pStr fun(x13:ByteArray) H14=>
 lc H14 x11 2 (.pointer x12)∧
 lc H14 b3 0 (pq x11)∧
 lc H14 x7 1 (.pointer x8)∧
 lc H14 b3 0 (pq x7)∧
 lc H14 b1 0 (.pointer x6)∧
 callW PP fq69 #[(.pointer x12)] H14 pStr fun(x15:ByteArray) H16=>
 lc H16 b3 0 (pq x9)∧
 lc H16 x7 1 (.pointer x8)∧
 lc H16 b3 0 (pq x7)∧
 lc H16 b1 0 (.pointer x6)∧
 callW PP fq67 #[(.pointer x6),(.pointer x8),(.agg #[(.int .i64 6),(.string x13),(.string x15),(.string (bs [])),(.int .i64 0),(.int .i64 0)]),(.func (.func fq124) #[] #[(pq b1),(pq b3)])] H16 pUn fun(_:Unit) H18=>
 lc H18 b3 0 (pq x11)∧
 lc H18 b3 0 (pq x9)∧
 retK (some []) H18 R
theorem selectionField.enter (t:Nat) (v:Nat) (H:Heap) (R:RR) (h:selectionField.W t v H R):Fn PP fq73 #[(pq t),(.iface tq126 (pq v))] H R:=
 fnS mixed Tryz.func73 (hz [(15,pPtr),(16,pBlk),(19,pPtr),(20,pBlk),(23,pPtr),(24,pStr),(25,pBlk),(28,pPtr),(29,pStr),(32,pUn)]) _ H R (Eq.mp (by unfold selectionField.W;kernel_rfl) h)
def selectionFragmentSpread.W (t:Nat) (v:Nat) (H:Heap) (R:RR):Prop:=
 newB H (.cells #[(pq t)] tq60) fun b1 H2=>
 newB H2 (.cells #[(.pointer none)] tq128) fun b3 H4=>
 storeW H4 ⟨b3,0,none⟩ [(pq v)] fun H5=>
 lw H5 b1 0 pPtr fun(x6:Option Addr)=>
 lw H5 b3 0 pBlk fun(x7:Nat)=>
 lw H5 x7 1 pPtr fun(x8:Option Addr)=>
 lw H5 b3 0 pBlk fun(x9:Nat)=>
 lw H5 x9 2 pPtr fun(x10:Option Addr)=>
 callW PP fq69 #[(.pointer x10)] H5 pStr fun(x11:ByteArray) H12=>
 lc H12 x7 1 (.pointer x8)∧
 lc H12 b3 0 (pq x7)∧
 lc H12 b1 0 (.pointer x6)∧
 callW PP fq67 #[(.pointer x6),(.pointer x8),(.agg #[(.int .i64 7),(.string x11),(.string (bs [])),(.string (bs [])),(.int .i64 0),(.int .i64 0)]),(.func (.func fq126) #[] #[(pq b1),(pq b3)])] H12 pUn fun(_:Unit) H14=>
 lc H14 b3 0 (pq x9)∧
 retK (some []) H14 R
theorem selectionFragmentSpread.enter (t:Nat) (v:Nat) (H:Heap) (R:RR) (h:selectionFragmentSpread.W t v H R):Fn PP fq73 #[(pq t),(.iface tq128 (pq v))] H R:=
 fnS mixed Tryz.func73 (hz [(36,pPtr),(37,pBlk),(40,pPtr),(41,pBlk),(44,pPtr),(45,pStr),(48,pUn)]) _ H R (Eq.mp (by unfold selectionFragmentSpread.W;kernel_rfl) h)
def selectionInlineFragment.W (t:Nat) (v:Nat) (H:Heap) (R:RR):Prop:=
 newB H (.cells #[(pq t)] tq60) fun b1 H2=>
 newB H2 (.cells #[(.pointer none)] tq129) fun b3 H4=>
 storeW H4 ⟨b3,0,none⟩ [(pq v)] fun H5=>
 lw H5 b1 0 pPtr fun(x6:Option Addr)=>
 lw H5 b3 0 pBlk fun(x7:Nat)=>
 lw H5 x7 1 pPtr fun(x8:Option Addr)=>
 lw H5 b3 0 pBlk fun(x9:Nat)=>
 lw H5 x9 2 pPtr fun(x10:Option Addr)=>
 callW PP fq68 #[(.pointer x10)] H5 pStr fun(x11:ByteArray) H12=>
 lc H12 x7 1 (.pointer x8)∧
 lc H12 b3 0 (pq x7)∧
 lc H12 b1 0 (.pointer x6)∧
 callW PP fq67 #[(.pointer x6),(.pointer x8),(.agg #[(.int .i64 8),(.string (bs [])),(.string (bs [])),(.string x11),(.int .i64 0),(.int .i64 0)]),(.func (.func fq127) #[] #[(pq b1),(pq b3)])] H12 pUn fun(_:Unit) H14=>
 lc H14 b3 0 (pq x9)∧
 retK (some []) H14 R
theorem selectionInlineFragment.enter (t:Nat) (v:Nat) (H:Heap) (R:RR) (h:selectionInlineFragment.W t v H R):Fn PP fq73 #[(pq t),(.iface tq129 (pq v))] H R:=
 fnS mixed Tryz.func73 (hz [(52,pPtr),(53,pBlk),(56,pPtr),(57,pBlk),(60,pPtr),(61,pStr),(64,pUn)]) _ H R (Eq.mp (by unfold selectionInlineFragment.W;kernel_rfl) h)
def definitionOperationDefinition.W (t:Nat) (v:Nat) (H:Heap) (R:RR):Prop:=
 newB H (.cells #[(pq t)] tq60) fun b1 H2=>
 newB H2 (.cells #[(.pointer none)] tq200) fun b3 H4=>
 storeW H4 ⟨b3,0,none⟩ [(pq v)] fun H5=>
 lw H5 b1 0 pPtr fun(x6:Option Addr)=>
 lw H5 b3 0 pBlk fun(x7:Nat)=>
 lw H5 x7 1 pPtr fun(x8:Option Addr)=>
 lw H5 b3 0 pBlk fun(x9:Nat)=>
 lw H5 x9 2 pStr fun(x10:ByteArray)=>
 lw H5 b3 0 pBlk fun(x11:Nat)=>
 lw H5 x11 3 pPtr fun(x12:Option Addr)=>
 callW PP fq69 #[(.pointer x12)] H5 pStr fun(x13:ByteArray) H14=>
 lc H14 x9 2 (.string x10)∧
 lc H14 b3 0 (pq x9)∧
 lc H14 x7 1 (.pointer x8)∧
 lc H14 b3 0 (pq x7)∧
 lc H14 b1 0 (.pointer x6)∧
 callW PP fq67 #[(.pointer x6),(.pointer x8),(.agg #[(.int .i64 2),(.string x13),(.string (bs [])),(.string x10),(.int .i64 0),(.int .i64 0)]),(.func (.func fq128) #[] #[(pq b1),(pq b3)])] H14 pUn fun(_:Unit) H16=>
 lc H16 b3 0 (pq x11)∧
 lc H16 b3 0 (pq x9)∧
 retK (some []) H16 R
theorem definitionOperationDefinition.enter (t:Nat) (v:Nat) (H:Heap) (R:RR) (h:definitionOperationDefinition.W t v H R):Fn PP fq74 #[(pq t),(.iface tq200 (pq v))] H R:=
 fnS mixed Tryz.func74 (hz [(14,pPtr),(15,pBlk),(18,pPtr),(19,pBlk),(22,pStr),(23,pBlk),(26,pPtr),(27,pStr),(30,pUn)]) _ H R (Eq.mp (by unfold definitionOperationDefinition.W;kernel_rfl) h)
def definitionFragmentDefinition.W (t:Nat) (v:Nat) (H:Heap) (R:RR):Prop:=
 newB H (.cells #[(pq t)] tq60) fun b1 H2=>
 newB H2 (.cells #[(.pointer none)] tq203) fun b3 H4=>
 storeW H4 ⟨b3,0,none⟩ [(pq v)] fun H5=>
 lw H5 b1 0 pPtr fun(x6:Option Addr)=>
 lw H5 b3 0 pBlk fun(x7:Nat)=>
 lw H5 x7 1 pPtr fun(x8:Option Addr)=>
 lw H5 b3 0 pBlk fun(x9:Nat)=>
 lw H5 x9 3 pPtr fun(x10:Option Addr)=>
 lw H5 b3 0 pBlk fun(x11:Nat)=>
 lw H5 x11 5 pPtr fun(x12:Option Addr)=>
 callW PP fq69 #[(.pointer x10)] H5 pStr fun(x13:ByteArray) H14=>
 lc H14 x11 5 (.pointer x12)∧
 lc H14 b3 0 (pq x11)∧
 lc H14 x7 1 (.pointer x8)∧
 lc H14 b3 0 (pq x7)∧
 lc H14 b1 0 (.pointer x6)∧
 callW PP fq68 #[(.pointer x12)] H14 pStr fun(x15:ByteArray) H16=>
 lc H16 b3 0 (pq x9)∧
 lc H16 x7 1 (.pointer x8)∧
 lc H16 b3 0 (pq x7)∧
 lc H16 b1 0 (.pointer x6)∧
 callW PP fq67 #[(.pointer x6),(.pointer x8),(.agg #[(.int .i64 3),(.string x13),(.string (bs [])),(.string x15),(.int .i64 0),(.int .i64 0)]),(.func (.func fq129) #[] #[(pq b1),(pq b3)])] H16 pUn fun(_:Unit) H18=>
 lc H18 b3 0 (pq x11)∧
 lc H18 b3 0 (pq x9)∧
 retK (some []) H18 R
theorem definitionFragmentDefinition.enter (t:Nat) (v:Nat) (H:Heap) (R:RR) (h:definitionFragmentDefinition.W t v H R):Fn PP fq74 #[(pq t),(.iface tq203 (pq v))] H R:=
 fnS mixed Tryz.func74 (hz [(34,pPtr),(35,pBlk),(38,pPtr),(39,pBlk),(42,pPtr),(43,pStr),(44,pBlk),(47,pPtr),(48,pStr),(51,pUn)]) _ H R (Eq.mp (by unfold definitionFragmentDefinition.W;kernel_rfl) h)
def definitionScalarDefinition.W (t:Nat) (v:Nat) (H:Heap) (R:RR):Prop:=
 newB H (.cells #[(pq t)] tq60) fun b1 H2=>
 lw H2 b1 0 pPtr fun(x3:Option Addr)=>
 callW PP fq130 #[(.pointer x3),(.iface tq231 (pq v))] H2 pUn fun(_:Unit) H5=>
 retK (some []) H5 R
theorem definitionScalarDefinition.enter (t:Nat) (v:Nat) (H:Heap) (R:RR) (h:definitionScalarDefinition.W t v H R):Fn PP fq74 #[(pq t),(.iface tq231 (pq v))] H R:=
 fnS mixed Tryz.func74 (hz [(8,pPtr),(10,pUn)]) _ H R (Eq.mp (by unfold definitionScalarDefinition.W;kernel_rfl) h)
def systemScalarDefinition.W (t:Nat) (v:Nat) (H:Heap) (R:RR):Prop:=
 newB H (.cells #[(pq t)] tq60) fun b1 H2=>
 newB H2 (.cells #[(.pointer none)] tq231) fun b3 H4=>
 storeW H4 ⟨b3,0,none⟩ [(pq v)] fun H5=>
 lw H5 b1 0 pPtr fun(x6:Option Addr)=>
 lw H5 b3 0 pBlk fun(x7:Nat)=>
 lw H5 x7 1 pPtr fun(x8:Option Addr)=>
 lw H5 b3 0 pBlk fun(x9:Nat)=>
 lw H5 x9 3 pPtr fun(x10:Option Addr)=>
 callW PP fq69 #[(.pointer x10)] H5 pStr fun(x11:ByteArray) H12=>
 lc H12 x7 1 (.pointer x8)∧
 lc H12 b3 0 (pq x7)∧
 lc H12 b1 0 (.pointer x6)∧
 callW PP fq67 #[(.pointer x6),(.pointer x8),(.agg #[(.int .i64 26),(.string x11),(.string (bs [])),(.string (bs [])),(.int .i64 0),(.int .i64 0)]),(.func (.func fq186) #[] #[(pq b1),(pq b3)])] H12 pUn fun(_:Unit) H14=>
 lc H14 b3 0 (pq x9)∧
 retK (some []) H14 R
theorem systemScalarDefinition.enter (t:Nat) (v:Nat) (H:Heap) (R:RR) (h:systemScalarDefinition.W t v H R):Fn PP fq130 #[(pq t),(.iface tq231 (pq v))] H R:=
 fnS mixed Tryz.func130 (hz [(32,pPtr),(33,pBlk),(36,pPtr),(37,pBlk),(40,pPtr),(41,pStr),(44,pUn)]) _ H R (Eq.mp (by unfold systemScalarDefinition.W;kernel_rfl) h)
def readPart.W (step:ByteArray) (kind:Int) (text:ByteArray) (H:Heap) (R:RR):Prop:=
 callW PP fq37 #[(.string step),(.string text)] H ⟨Sl×Int,fun x=>(.tuple #[(.slice x.1.1 x.1.2.1 x.1.2.2),(.int .i64 x.2),.nilIface])⟩ fun(x1:Sl×Int) H2=>
 newB H2 (.cells #[(.slice none 0 0),(.slice none 0 0),(.bool false)] tq63) fun b3 H4=>
 loopK (Int×Unit) (0,()) H4 fun z5 H6 next7=>
 forkB (decide (z5.1<((x1.1.2.1:Nat):Int)))
 ((IxOk x1.1.1 z5.1 x1.1.2.1)∧
 loadW H6 false 1 ⟨(blkOf x1.1.1),(offOf x1.1.1+z5.1.toNat*1),none⟩ pIf fun(x8:(Nat×Nat))=>
 callW PP fq38 #[(pq b3),(.iface x8.1 (pq x8.2)),(.int .i64 kind)] H6 pUn fun(_:Unit) H10=>
 next7 ((IntKind.i64.wrap (z5.1+1)),()) H10)
 (lw H6 b3 2 pBool fun(x11:Bool)=>
 forkB x11
 (retK (some [(.slice none 0 0),(.int .i64 0),(.bool false)]) H6 R)
 (lw H6 b3 0 pSlc fun(x12:Sl)=>
 retK (some [(.slice x12.1 x12.2.1 x12.2.2),(.int .i64 x1.2),(.bool true)]) H6 R))
theorem readPart.enter (step:ByteArray) (kind:Int) (text:ByteArray) (H:Heap) (R:RR) (h:readPart.W step kind text H R):Fn PP fq30 #[(.string step),(.int .i64 kind),(.string text)] H R:=
 fnS mixed Tryz.func30 ⟨patL [(17,⟨Sl×Int,fun x=>(.tuple #[(.slice x.1.1 x.1.2.1 x.1.2.2),(.int .i64 x.2),.nilIface])⟩),(30,pIf),(34,pUn),(39,pBool),(43,pSlc)],loopL [(0,[Slot.int .i64 27])],joinL [],joinL [],joinRL []⟩ _ H R (Eq.mp (by unfold readPart.W;kernel_rfl) h)
end Go.Vx
