/- A part of the proof of what the last text of this claim says: WA0, WS1, WA1, WA2, WA3. Conditions: none. -/
import Derived.Test.YtpkfgijailfkjaaGreatDoorProg
import Derived.KernelRfl
import Derived.Test.YtpkfgijailfkjaaGreatDoorZAa
namespace Go.Vx
open Go Go.Proofs
abbrev pTk:Pat:=⟨Int×Int×Int×ByteArray,fun x=>(.agg #[(.int .i64 x.1),(.int .i64 x.2.1),(.int .i64 x.2.2.1),(.string x.2.2.2)])⟩
abbrev pNd:Pat:=⟨Int×ByteArray×ByteArray×ByteArray×Int×Int,fun x=>(.agg #[(.int .i64 x.1),(.string x.2.1),(.string x.2.2.1),(.string x.2.2.2.1),(.int .i64 x.2.2.2.2.1),(.int .i64 x.2.2.2.2.2)])⟩
abbrev pUn:Pat:=⟨Unit,fun _=>(.tuple #[])⟩
abbrev pTkE:Pat:=⟨Int×Int×Int×ByteArray,fun x=>(.tuple #[(.agg #[(.int .i64 x.1),(.int .i64 x.2.1),(.int .i64 x.2.2.1),(.string x.2.2.2)]),.nilIface])⟩
abbrev pSlE:Pat:=⟨(Option Addr×Nat×Nat),fun x=>(.tuple #[(.slice x.1 x.2.1 x.2.2),.nilIface])⟩
abbrev pRu:Pat:=⟨Int×Int,fun x=>(.tuple #[(.int .i32 x.1),(.int .i64 x.2)])⟩
abbrev pBlE:Pat:=⟨Nat,fun x=>(.tuple #[(.pointer (some ⟨x,0,none⟩)),.nilIface])⟩
abbrev pIfE:Pat:=⟨(Nat×Nat),fun x=>(.tuple #[(.iface x.1 (.pointer (some ⟨x.2,0,none⟩))),.nilIface])⟩
abbrev pIf:Pat:=⟨(Nat×Nat),fun x=>(.iface x.1 (.pointer (some ⟨x.2,0,none⟩)))⟩
abbrev pIE:Pat:=⟨Int,fun x=>(.tuple #[(.int .i64 x),.nilIface])⟩
abbrev pSIB:Pat:=⟨(Option Addr×Nat×Nat)×Int×Bool,fun x=>(.tuple #[(.slice x.1.1 x.1.2.1 x.1.2.2),(.int .i64 x.2.1),(.bool x.2.2)])⟩
abbrev pSl4:Pat:=⟨(Nat×Nat×Nat×Nat),fun x=>(.slice (some ⟨x.1,x.2.1,none⟩) x.2.2.1 x.2.2.2)⟩
abbrev pII:Pat:=⟨Int×Int,fun x=>(.tuple #[(.int .i64 x.1),(.int .i64 x.2)])⟩
abbrev pBoE:Pat:=⟨Bool,fun x=>(.tuple #[(.bool x),.nilIface])⟩
abbrev Sl:Type:=Option Addr×Nat×Nat
abbrev pq (b:Nat):Value:= .pointer (some ⟨b,0,none⟩)
abbrev RR:Type:=Value→Heap→Prop
def hz (l:List (Nat×Pat)):Hints:=⟨patL l,loopL [],joinL [],joinL [],joinRL []⟩
abbrev lw (H:Heap) (b o:Nat) (p:Pat) (K:p.α→Prop):Prop:=loadW H false 1 ⟨b,o,none⟩ p K
abbrev lc (H:Heap) (b o:Nat) (v:Value):Prop:=loadC H false 1 ⟨b,o,none⟩=some v
set_option maxRecDepth 100000
noncomputable abbrev PP:Program:=Tryz.prog
theorem mixed:Tryz.prog.follows .mixedOrders=true:=by kernel_rfl
abbrev fq242:FuncId:=242
abbrev fq204:FuncId:=204
abbrev fq181:FuncId:=181
abbrev fq136:FuncId:=136
abbrev fq158:FuncId:=158
abbrev fq39:FuncId:=39
abbrev fq152:FuncId:=152
abbrev fq182:FuncId:=182
abbrev fq187:FuncId:=187
abbrev fq172:FuncId:=172
abbrev fq186:FuncId:=186
abbrev fq179:FuncId:=179
abbrev fq140:FuncId:=140
abbrev fq170:FuncId:=170
abbrev fq171:FuncId:=171
abbrev fq154:FuncId:=154
abbrev fq189:FuncId:=189
abbrev fq178:FuncId:=178
abbrev fq148:FuncId:=148
abbrev fq174:FuncId:=174
abbrev fq200:FuncId:=200
abbrev fq81:FuncId:=81
abbrev fq101:FuncId:=101
abbrev fq184:FuncId:=184
abbrev fq175:FuncId:=175
abbrev fq147:FuncId:=147
abbrev fq209:FuncId:=209
abbrev fq202:FuncId:=202
abbrev fq72:FuncId:=72
abbrev fq185:FuncId:=185
abbrev fq144:FuncId:=144
abbrev fq142:FuncId:=142
abbrev fq99:FuncId:=99
abbrev fq203:FuncId:=203
abbrev fq155:FuncId:=155
abbrev fq150:FuncId:=150
abbrev fq173:FuncId:=173
abbrev fq134:FuncId:=134
abbrev fq190:FuncId:=190
abbrev fq125:FuncId:=125
abbrev fq123:FuncId:=123
abbrev fq126:FuncId:=126
abbrev fq114:FuncId:=114
abbrev fq80:FuncId:=80
abbrev fq159:FuncId:=159
abbrev fq7:FuncId:=7
abbrev fq3:FuncId:=3
abbrev fq4:FuncId:=4
abbrev fq5:FuncId:=5
abbrev fq34:FuncId:=34
abbrev fq67:FuncId:=67
abbrev fq124:FuncId:=124
abbrev fq169:FuncId:=169
abbrev fq164:FuncId:=164
abbrev fq165:FuncId:=165
abbrev fq91:FuncId:=91
abbrev fq90:FuncId:=90
abbrev fq95:FuncId:=95
abbrev fq122:FuncId:=122
abbrev fq93:FuncId:=93
abbrev fq94:FuncId:=94
abbrev fq96:FuncId:=96
abbrev fq68:FuncId:=68
abbrev fq92:FuncId:=92
abbrev fq127:FuncId:=127
abbrev fq163:FuncId:=163
abbrev fq191:FuncId:=191
abbrev fq205:FuncId:=205
abbrev fq10:FuncId:=10
abbrev fq69:FuncId:=69
abbrev fq100:FuncId:=100
abbrev fq137:FuncId:=137
abbrev fq40:FuncId:=40
abbrev fq78:FuncId:=78
abbrev fq16:FuncId:=16
abbrev fq183:FuncId:=183
abbrev fq156:FuncId:=156
abbrev fq135:FuncId:=135
abbrev fq188:FuncId:=188
abbrev fq143:FuncId:=143
abbrev fq103:FuncId:=103
abbrev fq113:FuncId:=113
abbrev fq157:FuncId:=157
abbrev fq76:FuncId:=76
abbrev fq17:FuncId:=17
abbrev fq110:FuncId:=110
abbrev fq151:FuncId:=151
abbrev fq130:FuncId:=130
abbrev fq146:FuncId:=146
abbrev fq129:FuncId:=129
abbrev fq104:FuncId:=104
abbrev fq138:FuncId:=138
abbrev fq145:FuncId:=145
abbrev fq111:FuncId:=111
abbrev fq153:FuncId:=153
abbrev fq108:FuncId:=108
abbrev fq176:FuncId:=176
abbrev fq74:FuncId:=74
abbrev fq139:FuncId:=139
abbrev fq177:FuncId:=177
abbrev fq201:FuncId:=201
abbrev fq107:FuncId:=107
abbrev fq36:FuncId:=36
abbrev fq73:FuncId:=73
abbrev fq141:FuncId:=141
abbrev fq106:FuncId:=106
abbrev fq105:FuncId:=105
abbrev fq98:FuncId:=98
abbrev fq71:FuncId:=71
abbrev fq180:FuncId:=180
abbrev fq132:FuncId:=132
abbrev fq112:FuncId:=112
abbrev fq37:FuncId:=37
abbrev fq149:FuncId:=149
abbrev fq109:FuncId:=109
abbrev fq133:FuncId:=133
abbrev fq199:FuncId:=199
abbrev fq131:FuncId:=131
abbrev fq102:FuncId:=102
abbrev fq75:FuncId:=75
abbrev fq70:FuncId:=70
abbrev fq77:FuncId:=77
abbrev fq97:FuncId:=97
abbrev fq35:FuncId:=35
abbrev fq38:FuncId:=38
abbrev fq128:FuncId:=128
abbrev fq79:FuncId:=79
abbrev fq15:FuncId:=15
abbrev fq86:FuncId:=86
abbrev fq120:FuncId:=120
abbrev fq8:FuncId:=8
abbrev fq116:FuncId:=116
abbrev fq14:FuncId:=14
abbrev fq82:FuncId:=82
abbrev fq6:FuncId:=6
abbrev fq117:FuncId:=117
abbrev fq119:FuncId:=119
abbrev fq45:FuncId:=45
abbrev fq47:FuncId:=47
abbrev fq118:FuncId:=118
abbrev fq11:FuncId:=11
abbrev fq43:FuncId:=43
abbrev fq49:FuncId:=49
abbrev fq42:FuncId:=42
abbrev fq115:FuncId:=115
abbrev fq87:FuncId:=87
abbrev fq51:FuncId:=51
abbrev fq46:FuncId:=46
abbrev fq48:FuncId:=48
abbrev fq84:FuncId:=84
abbrev fq50:FuncId:=50
abbrev fq18:FuncId:=18
abbrev fq61:FuncId:=61
abbrev fq60:FuncId:=60
abbrev fq62:FuncId:=62
abbrev fq33:FuncId:=33
abbrev fq12:FuncId:=12
abbrev fq63:FuncId:=63
abbrev fq21:FuncId:=21
abbrev fq26:FuncId:=26
abbrev fq9:FuncId:=9
abbrev fq52:FuncId:=52
abbrev fq31:FuncId:=31
abbrev fq13:FuncId:=13
abbrev fq29:FuncId:=29
abbrev fq24:FuncId:=24
abbrev fq32:FuncId:=32
abbrev fq19:FuncId:=19
abbrev fq57:FuncId:=57
abbrev fq66:FuncId:=66
abbrev fq53:FuncId:=53
abbrev fq22:FuncId:=22
abbrev fq27:FuncId:=27
abbrev fq23:FuncId:=23
abbrev fq25:FuncId:=25
abbrev fq56:FuncId:=56
abbrev fq20:FuncId:=20
abbrev fq54:FuncId:=54
abbrev fq88:FuncId:=88
abbrev fq55:FuncId:=55
abbrev fq59:FuncId:=59
abbrev fq64:FuncId:=64
abbrev fq30:FuncId:=30
abbrev fq65:FuncId:=65
abbrev fq89:FuncId:=89
abbrev fq58:FuncId:=58
abbrev fq28:FuncId:=28
abbrev fq85:FuncId:=85
abbrev fq44:FuncId:=44
abbrev fq83:FuncId:=83
abbrev fq41:FuncId:=41
abbrev fq166:FuncId:=166
abbrev fq121:FuncId:=121
abbrev tq20:TypeId:=20
abbrev tq372:TypeId:=372
abbrev tq324:TypeId:=324
abbrev tq214:TypeId:=214
abbrev tq278:TypeId:=278
abbrev tq103:TypeId:=103
abbrev tq259:TypeId:=259
abbrev tq327:TypeId:=327
abbrev tq339:TypeId:=339
abbrev tq298:TypeId:=298
abbrev tq336:TypeId:=336
abbrev tq320:TypeId:=320
abbrev tq222:TypeId:=222
abbrev tq291:TypeId:=291
abbrev tq295:TypeId:=295
abbrev tq265:TypeId:=265
abbrev tq343:TypeId:=343
abbrev tq317:TypeId:=317
abbrev tq249:TypeId:=249
abbrev tq305:TypeId:=305
abbrev tq360:TypeId:=360
abbrev tq141:TypeId:=141
abbrev tq168:TypeId:=168
abbrev tq330:TypeId:=330
abbrev tq92:TypeId:=92
abbrev tq308:TypeId:=308
abbrev tq245:TypeId:=245
abbrev tq378:TypeId:=378
abbrev tq367:TypeId:=367
abbrev tq125:TypeId:=125
abbrev tq333:TypeId:=333
abbrev tq236:TypeId:=236
abbrev tq229:TypeId:=229
abbrev tq161:TypeId:=161
abbrev tq164:TypeId:=164
abbrev tq369:TypeId:=369
abbrev tq269:TypeId:=269
abbrev tq253:TypeId:=253
abbrev tq203:TypeId:=203
abbrev tq301:TypeId:=301
abbrev tq208:TypeId:=208
abbrev tq185:TypeId:=185
abbrev tq57:TypeId:=57
abbrev tq63:TypeId:=63
abbrev tq39:TypeId:=39
abbrev tq3:TypeId:=3
abbrev tq21:TypeId:=21
abbrev tq87:TypeId:=87
abbrev tq85:TypeId:=85
abbrev tq59:TypeId:=59
abbrev tq328:TypeId:=328
abbrev tq321:TypeId:=321
abbrev tq170:TypeId:=170
abbrev tq275:TypeId:=275
abbrev tq256:TypeId:=256
abbrev tq325:TypeId:=325
abbrev tq255:TypeId:=255
abbrev tq192:TypeId:=192
abbrev tq241:TypeId:=241
abbrev tq318:TypeId:=318
abbrev tq219:TypeId:=219
abbrev tq288:TypeId:=288
abbrev tq292:TypeId:=292
abbrev tq262:TypeId:=262
abbrev tq261:TypeId:=261
abbrev tq315:TypeId:=315
abbrev tq246:TypeId:=246
abbrev tq302:TypeId:=302
abbrev tq309:TypeId:=309
abbrev tq116:TypeId:=116
abbrev tq216:TypeId:=216
abbrev tq306:TypeId:=306
abbrev tq242:TypeId:=242
abbrev tq362:TypeId:=362
abbrev tq312:TypeId:=312
abbrev tq122:TypeId:=122
abbrev tq224:TypeId:=224
abbrev tq233:TypeId:=233
abbrev tq226:TypeId:=226
abbrev tq230:TypeId:=230
abbrev tq266:TypeId:=266
abbrev tq250:TypeId:=250
abbrev tq195:TypeId:=195
abbrev tq169:TypeId:=169
abbrev tq49:TypeId:=49
abbrev tq52:TypeId:=52
abbrev tq46:TypeId:=46
abbrev tq48:TypeId:=48
abbrev tq90:TypeId:=90
abbrev tq36:TypeId:=36
abbrev tq53:TypeId:=53
abbrev tq68:TypeId:=68
abbrev tq75:TypeId:=75
abbrev tq35:TypeId:=35
abbrev tq9:TypeId:=9
abbrev tq5:TypeId:=5
abbrev g_first:Nat:=0
abbrev g_accept:Nat:=1
def spFail.W (p:Nat) (H:Heap) (R:RR):Prop:=
 lw H p 4 pBool fun(x1:Bool)=>
 joinK (Unit) (fun J2=>
 forkB (!x1)
 (lw H p 1 (pInt .i64) fun(x5:Int)=>
 storeW H ⟨p,4,none⟩ [(.bool true)] fun H6=>
 storeW H6 ⟨p,3,none⟩ [(.int .i64 x5)] fun H7=>
 J2 (()) H7)
 (J2 (()) H)) fun _y3 H4=>
 retK (some [(.slice none 0 0)]) H4 R
theorem spFail.enter (p:Nat) (H:Heap) (R:RR) (h:spFail.W p H R):Fn PP fq13 #[(pq p)] H R:=
 fnS mixed Tryz.func13 ⟨patL [(6,pBool),(13,(pInt .i64))],loopL [],joinL [(7,[])],joinL [],joinRL []⟩ _ H R (Eq.mp (by unfold spFail.W;kernel_rfl) h)
def spSome.W (p:Nat) (end_:Int) (H:Heap) (R:RR):Prop:=
 joinK (Bool×Unit) (fun J1=>
 lw H p 4 pBool fun(x4:Bool)=>
 forkB (!x4)
 (callW PP fq19 #[(pq p),(.int .i64 0)] H (pInt .i64) fun(x5:Int) H6=>
 J1 ((x5==end_),()) H6)
 (J1 (false,()) H)) fun y2 H3=>
 joinK (Unit) (fun J7=>
 forkB y2.1
 (lw H3 p 1 (pInt .i64) fun(x10:Int)=>
 storeW H3 ⟨p,1,none⟩ [(.int .i64 (IntKind.i64.wrap (x10 -1)))] fun H11=>
 callW PP fq13 #[(pq p)] H11 pSlc fun(_x12:Sl) H13=>
 J7 (()) H13)
 (J7 (()) H3)) fun _y8 H9=>
 retK (some []) H9 R
theorem spSome.enter (p:Nat) (end_:Int) (H:Heap) (R:RR) (h:spSome.W p end_ H R):Fn PP fq54 #[(pq p),(.int .i64 end_)] H R:=
 fnS mixed Tryz.func54 ⟨patL [(7,pBool),(11,(pInt .i64)),(18,(pInt .i64)),(23,pSlc)],loopL [],joinL [(14,[])],joinL [],joinRL [(0,[Slot.bool 14],false)]⟩ _ H R (Eq.mp (by unfold spSome.W;kernel_rfl) h)
def spKind.W (p:Nat) (ahead:Int) (H:Heap) (R:RR):Prop:=
 lw H p 1 (pInt .i64) fun(x1:Int)=>
 lw H p 0 pSlc fun(x2:Sl)=>
 forkB (decide ((IntKind.i64.wrap (x1+ahead))≥((x2.2.1:Nat):Int)))
 (retK (some [(.int .i64 1)]) H R)
 (lw H p 0 pSlc fun(x3:Sl)=>
 lw H p 1 (pInt .i64) fun(x4:Int)=>
 (IxOk x3.1 (IntKind.i64.wrap (x4+ahead)) x3.2.1)∧
 loadW H false 1 ⟨(blkOf x3.1),(offOf x3.1+(IntKind.i64.wrap (x4+ahead)).toNat*4),none⟩ (pInt .i64) fun(x5:Int)=>
 retK (some [(.int .i64 x5)]) H R)
theorem spKind.enter (p:Nat) (ahead:Int) (H:Heap) (R:RR) (h:spKind.W p ahead H R):Fn PP fq19 #[(pq p),(.int .i64 ahead)] H R:=
 fnS mixed Tryz.func19 (hz [(8,(pInt .i64)),(14,pSlc),(20,pSlc),(24,(pInt .i64)),(29,(pInt .i64))]) _ H R (Eq.mp (by unfold spKind.W;kernel_rfl) h)
def spTaken.W (p:Nat) (kind:Int) (H:Heap) (R:RR):Prop:=
 joinK (Bool×Unit) (fun J1=>
 lw H p 4 pBool fun(x4:Bool)=>
 forkB x4
 (J1 (true,()) H)
 (callW PP fq19 #[(pq p),(.int .i64 0)] H (pInt .i64) fun(x5:Int) H6=>
 J1 ((x5 !=kind),()) H6)) fun y2 H3=>
 forkB y2.1
 (retK (some [(.bool false)]) H3 R)
 (lw H3 p 1 (pInt .i64) fun(x7:Int)=>
 storeW H3 ⟨p,1,none⟩ [(.int .i64 (IntKind.i64.wrap (x7+1)))] fun H8=>
 retK (some [(.bool true)]) H8 R)
theorem spTaken.enter (p:Nat) (kind:Int) (H:Heap) (R:RR) (h:spTaken.W p kind H R):Fn PP fq55 #[(pq p),(.int .i64 kind)] H R:=
 fnS mixed Tryz.func55 ⟨patL [(8,pBool),(11,(pInt .i64)),(18,(pInt .i64))],loopL [],joinL [],joinL [],joinRL [(1,[Slot.bool 14],false)]⟩ _ H R (Eq.mp (by unfold spTaken.W;kernel_rfl) h)
def spMust.W (p:Nat) (kind:Int) (H:Heap) (R:RR):Prop:=
 callW PP fq55 #[(pq p),(.int .i64 kind)] H pBool fun(x1:Bool) H2=>
 joinK (Unit) (fun J3=>
 forkB (!x1)
 (callW PP fq13 #[(pq p)] H2 pSlc fun(_x6:Sl) H7=>
 J3 (()) H7)
 (J3 (()) H2)) fun _y4 H5=>
 retK (some []) H5 R
theorem spMust.enter (p:Nat) (kind:Int) (H:Heap) (R:RR) (h:spMust.W p kind H R):Fn PP fq53 #[(pq p),(.int .i64 kind)] H R:=
 fnS mixed Tryz.func53 ⟨patL [(6,pBool),(9,pSlc)],loopL [],joinL [(7,[])],joinL [],joinRL []⟩ _ H R (Eq.mp (by unfold spMust.W;kernel_rfl) h)
def spWord.W (p:Nat) (ahead:Int) (s:ByteArray) (H:Heap) (R:RR):Prop:=
 callW PP fq19 #[(pq p),(.int .i64 ahead)] H (pInt .i64) fun(x1:Int) H2=>
 forkB (x1==15)
 (lw H2 p 0 pSlc fun(x3:Sl)=>
 lw H2 p 1 (pInt .i64) fun(x4:Int)=>
 (IxOk x3.1 (IntKind.i64.wrap (x4+ahead)) x3.2.1)∧
 loadW H2 false 1 ⟨(blkOf x3.1),((offOf x3.1+(IntKind.i64.wrap (x4+ahead)).toNat*4)+1),none⟩ pStr fun(x5:ByteArray)=>
 retK (some [(.bool (x5.toList==s.toList))]) H2 R)
 (retK (some [(.bool false)]) H2 R)
theorem spWord.enter (p:Nat) (ahead:Int) (s:ByteArray) (H:Heap) (R:RR) (h:spWord.W p ahead s H R):Fn PP fq28 #[(pq p),(.int .i64 ahead),(.string s)] H R:=
 fnS mixed Tryz.func28 (hz [(9,(pInt .i64)),(15,pSlc),(19,(pInt .i64)),(24,pStr)]) _ H R (Eq.mp (by unfold spWord.W;kernel_rfl) h)
def spName.W (p:Nat) (H:Heap) (R:RR):Prop:=
 joinK (Bool×Unit) (fun J1=>
 lw H p 4 pBool fun(x4:Bool)=>
 forkB x4
 (J1 (true,()) H)
 (callW PP fq19 #[(pq p),(.int .i64 0)] H (pInt .i64) fun(x5:Int) H6=>
 J1 ((x5 !=15),()) H6)) fun y2 H3=>
 forkB y2.1
 (callW PP fq13 #[(pq p)] H3 pSlc fun(_x7:Sl) H8=>
 retK (some [(.string (bs []))]) H8 R)
 (lw H3 p 1 (pInt .i64) fun(x9:Int)=>
 storeW H3 ⟨p,1,none⟩ [(.int .i64 (IntKind.i64.wrap (x9+1)))] fun H10=>
 lw H10 p 0 pSlc fun(x11:Sl)=>
 lw H10 p 1 (pInt .i64) fun(x12:Int)=>
 (IxOk x11.1 (IntKind.i64.wrap (x12 -1)) x11.2.1)∧
 loadW H10 false 1 ⟨(blkOf x11.1),((offOf x11.1+(IntKind.i64.wrap (x12 -1)).toNat*4)+1),none⟩ pStr fun(x13:ByteArray)=>
 retK (some [(.string x13)]) H10 R)
theorem spName.enter (p:Nat) (H:Heap) (R:RR) (h:spName.W p H R):Fn PP fq22 #[(pq p)] H R:=
 fnS mixed Tryz.func22 ⟨patL [(6,pBool),(9,(pInt .i64)),(13,pSlc),(17,(pInt .i64)),(24,pSlc),(28,(pInt .i64)),(32,pStr)],loopL [],joinL [],joinL [],joinRL [(1,[Slot.bool 11],false)]⟩ _ H R (Eq.mp (by unfold spName.W;kernel_rfl) h)
def spText.W (p:Nat) (H:Heap) (R:RR):Prop:=
 lw H p 5 pBool fun(x1:Bool)=>
 forkB x1
 (storeW H ⟨p,5,none⟩ [(.bool true)] fun H2=>
 retK (some []) H2 R)
 (callW PP fq19 #[(pq p),(.int .i64 0)] H (pInt .i64) fun(x3:Int) H4=>
 forkB (x3==18)
 (storeW H4 ⟨p,5,none⟩ [(.bool true)] fun H5=>
 retK (some []) H5 R)
 (callW PP fq19 #[(pq p),(.int .i64 0)] H4 (pInt .i64) fun(x6:Int) H7=>
 storeW H7 ⟨p,5,none⟩ [(.bool (x6==19))] fun H8=>
 retK (some []) H8 R))
theorem spText.enter (p:Nat) (H:Heap) (R:RR) (h:spText.W p H R):Fn PP fq59 #[(pq p)] H R:=
 fnS mixed Tryz.func59 (hz [(6,pBool),(9,(pInt .i64)),(14,(pInt .i64))]) _ H R (Eq.mp (by unfold spText.W;kernel_rfl) h)
def spEnter.W (p:Nat) (H:Heap) (R:RR):Prop:=
 lw H p 2 (pInt .i64) fun(x1:Int)=>
 storeW H ⟨p,2,none⟩ [(.int .i64 (IntKind.i64.wrap (x1+1)))] fun H2=>
 lw H2 p 2 (pInt .i64) fun(x3:Int)=>
 joinK (Unit) (fun J4=>
 forkB (decide (x3>60))
 (storeW H2 ⟨p,5,none⟩ [(.bool true)] fun H7=>
 callW PP fq13 #[(pq p)] H7 pSlc fun(_x8:Sl) H9=>
 J4 (()) H9)
 (J4 (()) H2)) fun _y5 H6=>
 lw H6 p 4 pBool fun(x10:Bool)=>
 retK (some [(.bool (!x10))]) H6 R
theorem spEnter.enter (p:Nat) (H:Heap) (R:RR) (h:spEnter.W p H R):Fn PP fq52 #[(pq p)] H R:=
 fnS mixed Tryz.func52 ⟨patL [(6,(pInt .i64)),(13,(pInt .i64)),(19,pSlc),(23,pBool)],loopL [],joinL [(14,[])],joinL [],joinRL []⟩ _ H R (Eq.mp (by unfold spEnter.W;kernel_rfl) h)
def spLeave.W (p:Nat) (H:Heap) (R:RR):Prop:=
 lw H p 2 (pInt .i64) fun(x1:Int)=>
 storeW H ⟨p,2,none⟩ [(.int .i64 (IntKind.i64.wrap (x1 -1)))] fun H2=>
 retK (some []) H2 R
theorem spLeave.enter (p:Nat) (H:Heap) (R:RR) (h:spLeave.W p H R):Fn PP fq57 #[(pq p)] H R:=
 fnS mixed Tryz.func57 (hz [(5,(pInt .i64))]) _ H R (Eq.mp (by unfold spLeave.W;kernel_rfl) h)
def spDocument.W (p:Nat) (H:Heap) (R:RR):Prop:=
 loopK (Sl×Unit) ((none,0,0),()) H fun z1 H2 next3=>
 lw H2 p 4 pBool fun(x4:Bool)=>
 forkB (!x4)
 (lw H2 p 1 (pInt .i64) fun(x5:Int)=>
 lw H2 p 0 pSlc fun(x6:Sl)=>
 forkB (decide (x5<((x6.2.1:Nat):Int)))
 (callW PP fq12 #[(pq p)] H2 pSlc fun(x7:Sl) H8=>
 newB H8 (.cells #[(.slice x7.1 x7.2.1 x7.2.2)] tq36) fun b9 H10=>
 appK H10 tq36 1 24 z1.1.1 z1.1.2.1 z1.1.2.2 (some ⟨b9,0,none⟩) 1 fun a11 c12 H13=>
 next3 ((a11,(z1.1.2.1+1),c12),()) H13)
 (forkB (((z1.1.2.1:Nat):Int)==0)
 (storeW H2 ⟨p,5,none⟩ [(.bool true)] fun H14=>
 callW PP fq13 #[(pq p)] H14 pSlc fun(x15:Sl) H16=>
 retK (some [(.slice x15.1 x15.2.1 x15.2.2)]) H16 R)
 (callW PP fq14 #[(.agg #[(.int .i64 1),(.string (bs [])),(.string (bs [])),(.string (bs [])),(.int .i64 0),(.int .i64 0)]),(.slice z1.1.1 z1.1.2.1 z1.1.2.2)] H2 pSlc fun(x17:Sl) H18=>
 retK (some [(.slice x17.1 x17.2.1 x17.2.2)]) H18 R)))
 (forkB (((z1.1.2.1:Nat):Int)==0)
 (storeW H2 ⟨p,5,none⟩ [(.bool true)] fun H19=>
 callW PP fq13 #[(pq p)] H19 pSlc fun(x20:Sl) H21=>
 retK (some [(.slice x20.1 x20.2.1 x20.2.2)]) H21 R)
 (callW PP fq14 #[(.agg #[(.int .i64 1),(.string (bs [])),(.string (bs [])),(.string (bs [])),(.int .i64 0),(.int .i64 0)]),(.slice z1.1.1 z1.1.2.1 z1.1.2.2)] H2 pSlc fun(x22:Sl) H23=>
 retK (some [(.slice x22.1 x22.2.1 x22.2.2)]) H23 R))
theorem spDocument.enter (p:Nat) (H:Heap) (R:RR) (h:spDocument.W p H R):Fn PP fq9 #[(pq p)] H R:=
 fnS mixed Tryz.func9 ⟨patL [(7,pBool),(13,(pInt .i64)),(17,pSlc),(23,pSlc),(33,pSlc),(36,pSlc)],loopL [(0,[Slot.slc 3])],joinL [],joinL [],joinRL []⟩ _ H R (Eq.mp (by unfold spDocument.W;kernel_rfl) h)
def spDefinition.W (p:Nat) (H:Heap) (R:RR):Prop:=
 callW PP fq19 #[(pq p),(.int .i64 0)] H (pInt .i64) fun(x1:Int) H2=>
 forkB (x1==12)
 (callW PP fq20 #[(pq p)] H2 pSlc fun(x3:Sl) H4=>
 newB H4 (.cells #[(.slice x3.1 x3.2.1 x3.2.2)] tq36) fun b5 H6=>
 callW PP fq14 #[(.agg #[(.int .i64 2),(.string (bs [])),(.string (bs [])),(.string (bs [113,117,101,114,121])),(.int .i64 1),(.int .i64 0)]),(.slice (some ⟨b5,0,none⟩) 1 1)] H6 pSlc fun(x7:Sl) H8=>
 retK (some [(.slice x7.1 x7.2.1 x7.2.2)]) H8 R)
 (joinK (Bool×Unit) (fun J9=>
 callW PP fq19 #[(pq p),(.int .i64 0)] H2 (pInt .i64) fun(x12:Int) H13=>
 forkB (x12==18)
 (J9 (true,()) H13)
 (callW PP fq19 #[(pq p),(.int .i64 0)] H13 (pInt .i64) fun(x14:Int) H15=>
 J9 ((x14==19),()) H15)) fun y10 H11=>
 joinK (Sl×Unit) (fun J16=>
 forkB y10.1
 (callW PP fq21 #[(pq p)] H11 pSlc fun(x19:Sl) H20=>
 J16 ((x19.1,x19.2.1,x19.2.2),()) H20)
 (J16 ((none,0,0),()) H11)) fun y17 H18=>
 callW PP fq19 #[(pq p),(.int .i64 0)] H18 (pInt .i64) fun(x21:Int) H22=>
 forkB (x21 !=15)
 (callW PP fq13 #[(pq p)] H22 pSlc fun(x23:Sl) H24=>
 retK (some [(.slice x23.1 x23.2.1 x23.2.2)]) H24 R)
 (lw H22 p 0 pSlc fun(x25:Sl)=>
 lw H22 p 1 (pInt .i64) fun(x26:Int)=>
 (IxOk x25.1 x26 x25.2.1)∧
 loadW H22 false 1 ⟨(blkOf x25.1),((offOf x25.1+x26.toNat*4)+1),none⟩ pStr fun(x27:ByteArray)=>
 joinK (Bool×Unit) (fun J28=>
 forkB (x27.toList==(bs [113,117,101,114,121]).toList)
 (J28 (true,()) H22)
 (joinK (Bool×Unit) (fun J31=>
 forkB (x27.toList==(bs [109,117,116,97,116,105,111,110]).toList)
 (J31 (true,()) H22)
 (joinK (Bool×Unit) (fun J34=>
 forkB (x27.toList==(bs [115,117,98,115,99,114,105,112,116,105,111,110]).toList)
 (J34 (true,()) H22)
 (joinK (Bool×Unit) (fun J37=>
 forkB (x27.toList==(bs [102,114,97,103,109,101,110,116]).toList)
 (J37 (true,()) H22)
 (J37 ((x27.toList==(bs [101,120,116,101,110,100]).toList),()) H22)) fun y38 H39=>
 J34 (y38.1,()) H39)) fun y35 H36=>
 J31 (y35.1,()) H36)) fun y32 H33=>
 J28 (y32.1,()) H33)) fun y29 H30=>
 joinK (Bool×Unit) (fun J40=>
 forkB y29.1
 (forkB (decide (((y17.1.2.1:Nat):Int)>0))
 (lw H30 p 1 (pInt .i64) fun(x43:Int)=>
 storeW H30 ⟨p,1,none⟩ [(.int .i64 (IntKind.i64.wrap (x43 -1)))] fun H44=>
 callW PP fq13 #[(pq p)] H44 pSlc fun(x45:Sl) H46=>
 retK (some [(.slice x45.1 x45.2.1 x45.2.2)]) H46 R)
 (J40 (true,()) H30))
 (joinK (Unit) (fun J47=>
 forkB (x27.toList==(bs [115,99,104,101,109,97]).toList)
 (lw H30 p 5 pBool fun(x50:Bool)=>
 forkB x50
 (storeW H30 ⟨p,5,none⟩ [(.bool true)] fun H51=>
 J47 (()) H51)
 (storeW H30 ⟨p,5,none⟩ [(.bool (decide (((y17.1.2.1:Nat):Int)>0)))] fun H52=>
 J47 (()) H52))
 (J47 (()) H30)) fun _y48 H49=>
 J40 (false,()) H49)) fun _y41 H42=>
 callW PP fq22 #[(pq p)] H42 pStr fun(x53:ByteArray) H54=>
 joinK (Bool×Unit) (fun J55=>
 forkB (x53.toList==(bs [113,117,101,114,121]).toList)
 (J55 (true,()) H54)
 (joinK (Bool×Unit) (fun J58=>
 forkB (x53.toList==(bs [109,117,116,97,116,105,111,110]).toList)
 (J58 (true,()) H54)
 (J58 ((x53.toList==(bs [115,117,98,115,99,114,105,112,116,105,111,110]).toList),()) H54)) fun y59 H60=>
 J55 (y59.1,()) H60)) fun y56 H57=>
 joinK (Bool×Unit) (fun J61=>
 forkB y56.1
 (lw H57 p 1 (pInt .i64) fun(x64:Int)=>
 storeW H57 ⟨p,1,none⟩ [(.int .i64 (IntKind.i64.wrap (x64 -1)))] fun H65=>
 callW PP fq23 #[(pq p)] H65 pSlc fun(x66:Sl) H67=>
 retK (some [(.slice x66.1 x66.2.1 x66.2.2)]) H67 R)
 (forkB (x53.toList==(bs [102,114,97,103,109,101,110,116]).toList)
 (callW PP fq24 #[(pq p)] H57 pSlc fun(x68:Sl) H69=>
 retK (some [(.slice x68.1 x68.2.1 x68.2.2)]) H69 R)
 (forkB (x53.toList==(bs [115,99,104,101,109,97]).toList)
 (callW PP fq25 #[(pq p),(.slice y17.1.1 y17.1.2.1 y17.1.2.2)] H57 pSlc fun(x70:Sl) H71=>
 retK (some [(.slice x70.1 x70.2.1 x70.2.2)]) H71 R)
 (forkB (x53.toList==(bs [115,99,97,108,97,114]).toList)
 (callW PP fq22 #[(pq p)] H57 pStr fun(x72:ByteArray) H73=>
 callW PP fq26 #[(pq p),(.bool true)] H73 pSlc fun(x74:Sl) H75=>
 newB H75 (.cells #[(.slice y17.1.1 y17.1.2.1 y17.1.2.2),(.slice x74.1 x74.2.1 x74.2.2)] tq36) fun b76 H77=>
 callW PP fq14 #[(.agg #[(.int .i64 26),(.string x72),(.string (bs [])),(.string (bs [])),(.int .i64 0),(.int .i64 0)]),(.slice (some ⟨b76,0,none⟩) 2 2)] H77 pSlc fun(x78:Sl) H79=>
 retK (some [(.slice x78.1 x78.2.1 x78.2.2)]) H79 R)
 (forkB (x53.toList==(bs [116,121,112,101]).toList)
 (callW PP fq27 #[(pq p),(.slice y17.1.1 y17.1.2.1 y17.1.2.2)] H57 pSlc fun(x80:Sl) H81=>
 retK (some [(.slice x80.1 x80.2.1 x80.2.2)]) H81 R)
 (forkB (x53.toList==(bs [105,110,116,101,114,102,97,99,101]).toList)
 (callW PP fq22 #[(pq p)] H57 pStr fun(x82:ByteArray) H83=>
 lw H83 p 5 pBool fun(x84:Bool)=>
 forkB x84
 (storeW H83 ⟨p,5,none⟩ [(.bool true)] fun H85=>
 callW PP fq26 #[(pq p),(.bool true)] H85 pSlc fun(x86:Sl) H87=>
 callW PP fq29 #[(pq p)] H87 pSlc fun(x88:Sl) H89=>
 newB H89 (.cells #[(.slice y17.1.1 y17.1.2.1 y17.1.2.2),(.slice x86.1 x86.2.1 x86.2.2),(.slice x88.1 x88.2.1 x88.2.2)] tq36) fun b90 H91=>
 callW PP fq14 #[(.agg #[(.int .i64 31),(.string x82),(.string (bs [])),(.string (bs [])),(.int .i64 0),(.int .i64 0)]),(.slice (some ⟨b90,0,none⟩) 3 3)] H91 pSlc fun(x92:Sl) H93=>
 retK (some [(.slice x92.1 x92.2.1 x92.2.2)]) H93 R)
 (callW PP fq28 #[(pq p),(.int .i64 0),(.string (bs [105,109,112,108,101,109,101,110,116,115]))] H83 pBool fun(x94:Bool) H95=>
 storeW H95 ⟨p,5,none⟩ [(.bool x94)] fun H96=>
 callW PP fq26 #[(pq p),(.bool true)] H96 pSlc fun(x97:Sl) H98=>
 callW PP fq29 #[(pq p)] H98 pSlc fun(x99:Sl) H100=>
 newB H100 (.cells #[(.slice y17.1.1 y17.1.2.1 y17.1.2.2),(.slice x97.1 x97.2.1 x97.2.2),(.slice x99.1 x99.2.1 x99.2.2)] tq36) fun b101 H102=>
 callW PP fq14 #[(.agg #[(.int .i64 31),(.string x82),(.string (bs [])),(.string (bs [])),(.int .i64 0),(.int .i64 0)]),(.slice (some ⟨b101,0,none⟩) 3 3)] H102 pSlc fun(x103:Sl) H104=>
 retK (some [(.slice x103.1 x103.2.1 x103.2.2)]) H104 R))
 (forkB (x53.toList==(bs [117,110,105,111,110]).toList)
 (callW PP fq30 #[(pq p),(.slice y17.1.1 y17.1.2.1 y17.1.2.2)] H57 pSlc fun(x105:Sl) H106=>
 retK (some [(.slice x105.1 x105.2.1 x105.2.2)]) H106 R)
 (forkB (x53.toList==(bs [101,110,117,109]).toList)
 (callW PP fq31 #[(pq p),(.slice y17.1.1 y17.1.2.1 y17.1.2.2)] H57 pSlc fun(x107:Sl) H108=>
 retK (some [(.slice x107.1 x107.2.1 x107.2.2)]) H108 R)
 (forkB (x53.toList==(bs [105,110,112,117,116]).toList)
 (callW PP fq22 #[(pq p)] H57 pStr fun(x109:ByteArray) H110=>
 callW PP fq26 #[(pq p),(.bool true)] H110 pSlc fun(x111:Sl) H112=>
 callW PP fq32 #[(pq p),(.int .i64 12),(.int .i64 14)] H112 pSlc fun(x113:Sl) H114=>
 newB H114 (.cells #[(.slice y17.1.1 y17.1.2.1 y17.1.2.2),(.slice x111.1 x111.2.1 x111.2.2),(.slice x113.1 x113.2.1 x113.2.2)] tq36) fun b115 H116=>
 callW PP fq14 #[(.agg #[(.int .i64 36),(.string x109),(.string (bs [])),(.string (bs [])),(.int .i64 0),(.int .i64 0)]),(.slice (some ⟨b115,0,none⟩) 3 3)] H116 pSlc fun(x117:Sl) H118=>
 retK (some [(.slice x117.1 x117.2.1 x117.2.2)]) H118 R)
 (forkB (x53.toList==(bs [100,105,114,101,99,116,105,118,101]).toList)
 (callW PP fq33 #[(pq p),(.slice y17.1.1 y17.1.2.1 y17.1.2.2)] H57 pSlc fun(x119:Sl) H120=>
 retK (some [(.slice x119.1 x119.2.1 x119.2.2)]) H120 R)
 (forkB (x53.toList==(bs [101,120,116,101,110,100]).toList)
 (lw H57 p 5 pBool fun(x121:Bool)=>
 forkB x121
 (storeW H57 ⟨p,5,none⟩ [(.bool true)] fun H122=>
 callW PP fq28 #[(pq p),(.int .i64 0),(.string (bs [116,121,112,101]))] H122 pBool fun(x123:Bool) H124=>
 forkB (!x123)
 (callW PP fq13 #[(pq p)] H124 pSlc fun(x125:Sl) H126=>
 retK (some [(.slice x125.1 x125.2.1 x125.2.2)]) H126 R)
 (lw H124 p 1 (pInt .i64) fun(x127:Int)=>
 storeW H124 ⟨p,1,none⟩ [(.int .i64 (IntKind.i64.wrap (x127+1)))] fun H128=>
 callW PP fq27 #[(pq p),(.slice none 0 0)] H128 pSlc fun(x129:Sl) H130=>
 newB H130 (.cells #[(.slice x129.1 x129.2.1 x129.2.2)] tq36) fun b131 H132=>
 callW PP fq14 #[(.agg #[(.int .i64 39),(.string (bs [])),(.string (bs [])),(.string (bs [])),(.int .i64 0),(.int .i64 0)]),(.slice (some ⟨b131,0,none⟩) 1 1)] H132 pSlc fun(x133:Sl) H134=>
 retK (some [(.slice x133.1 x133.2.1 x133.2.2)]) H134 R))
 (callW PP fq28 #[(pq p),(.int .i64 0),(.string (bs [116,121,112,101]))] H57 pBool fun(x135:Bool) H136=>
 storeW H136 ⟨p,5,none⟩ [(.bool (!x135))] fun H137=>
 callW PP fq28 #[(pq p),(.int .i64 0),(.string (bs [116,121,112,101]))] H137 pBool fun(x138:Bool) H139=>
 forkB (!x138)
 (callW PP fq13 #[(pq p)] H139 pSlc fun(x140:Sl) H141=>
 retK (some [(.slice x140.1 x140.2.1 x140.2.2)]) H141 R)
 (lw H139 p 1 (pInt .i64) fun(x142:Int)=>
 storeW H139 ⟨p,1,none⟩ [(.int .i64 (IntKind.i64.wrap (x142+1)))] fun H143=>
 callW PP fq27 #[(pq p),(.slice none 0 0)] H143 pSlc fun(x144:Sl) H145=>
 newB H145 (.cells #[(.slice x144.1 x144.2.1 x144.2.2)] tq36) fun b146 H147=>
 callW PP fq14 #[(.agg #[(.int .i64 39),(.string (bs [])),(.string (bs [])),(.string (bs [])),(.int .i64 0),(.int .i64 0)]),(.slice (some ⟨b146,0,none⟩) 1 1)] H147 pSlc fun(x148:Sl) H149=>
 retK (some [(.slice x148.1 x148.2.1 x148.2.2)]) H149 R)))
 (J61 (false,()) H57)))))))))))) fun _y62 H63=>
 lw H63 p 1 (pInt .i64) fun(x150:Int)=>
 storeW H63 ⟨p,1,none⟩ [(.int .i64 (IntKind.i64.wrap (x150 -1)))] fun H151=>
 callW PP fq13 #[(pq p)] H151 pSlc fun(x152:Sl) H153=>
 retK (some [(.slice x152.1 x152.2.1 x152.2.2)]) H153 R))
theorem spDefinition.enter (p:Nat) (H:Heap) (R:RR) (h:spDefinition.W p H R):Fn PP fq12 #[(pq p)] H R:=
 fnS mixed Tryz.func12 ⟨patL [(6,(pInt .i64)),(10,pSlc),(12,pSlc),(14,(pInt .i64)),(18,(pInt .i64)),(22,pSlc),(24,(pInt .i64)),(27,pSlc),(31,pSlc),(35,(pInt .i64)),(38,pStr),(51,(pInt .i64)),(56,pSlc),(63,pBool),(72,pStr),(80,(pInt .i64)),(85,pSlc),(89,pSlc),(94,pSlc),(98,pStr),(102,pSlc),(104,pSlc),(109,pSlc),(113,pStr),(118,pBool),(121,pBool),(129,pSlc),(131,pSlc),(133,pSlc),(138,pSlc),(143,pSlc),(147,pStr),(151,pSlc),(153,pSlc),(155,pSlc),(160,pSlc),(167,pBool),(170,pBool),(176,pBool),(179,pSlc),(183,(pInt .i64)),(189,pSlc),(191,pSlc),(195,(pInt .i64)),(200,pSlc)],loopL [],joinL [(20,[Slot.slc 3]),(39,[Slot.bool 39]),(57,[]),(73,[Slot.bool 73])],joinL [],joinRL [(4,[Slot.bool 20],false)]⟩ _ H R (Eq.mp (by unfold spDefinition.W;kernel_rfl) h)
def spDescription.W (p:Nat) (H:Heap) (R:RR):Prop:=
 lw H p 0 pSlc fun(x1:Sl)=>
 lw H p 1 (pInt .i64) fun(x2:Int)=>
 (IxOk x1.1 x2 x1.2.1)∧
 loadW H false 1 ⟨(blkOf x1.1),((offOf x1.1+x2.toNat*4)+1),none⟩ pStr fun(x3:ByteArray)=>
 newB H (.cells #[(.int .i64 0),(.string (bs [])),(.string (bs [])),(.string (bs [])),(.int .i64 0),(.int .i64 0)] tq63) fun b4 H5=>
 loadC H5 false 1 ⟨(blkOf x1.1),((offOf x1.1+x2.toNat*4)+1),none⟩=some (.string x3)∧
 lc H5 p 1 (.int .i64 x2)∧
 lc H5 p 0 (.slice x1.1 x1.2.1 x1.2.2)∧
 storeW H5 ⟨b4,0,none⟩ [(.int .i64 23),(.string (bs [])),(.string (bs [])),(.string x3),(.int .i64 0),(.int .i64 0)] fun H6=>
 callW PP fq19 #[(pq p),(.int .i64 0)] H6 (pInt .i64) fun(x7:Int) H8=>
 joinK (Unit) (fun J9=>
 forkB (x7==19)
 (storeW H8 ⟨b4,4,none⟩ [(.int .i64 1)] fun H12=>
 J9 (()) H12)
 (J9 (()) H8)) fun _y10 H11=>
 lw H11 p 1 (pInt .i64) fun(x13:Int)=>
 storeW H11 ⟨p,1,none⟩ [(.int .i64 (IntKind.i64.wrap (x13+1)))] fun H14=>
 loadW H14 true 6 ⟨b4,0,none⟩ pNd fun(x15:Int×ByteArray×ByteArray×ByteArray×Int×Int)=>
 callW PP fq14 #[(.agg #[(.int .i64 x15.1),(.string x15.2.1),(.string x15.2.2.1),(.string x15.2.2.2.1),(.int .i64 x15.2.2.2.2.1),(.int .i64 x15.2.2.2.2.2)]),(.slice none 0 0)] H14 pSlc fun(x16:Sl) H17=>
 retK (some [(.slice x16.1 x16.2.1 x16.2.2)]) H17 R
theorem spDescription.enter (p:Nat) (H:Heap) (R:RR) (h:spDescription.W p H R):Fn PP fq21 #[(pq p)] H R:=
 fnS mixed Tryz.func21 ⟨patL [(7,pSlc),(11,(pInt .i64)),(14,pStr),(17,(pInt .i64)),(23,(pInt .i64)),(27,pNd),(28,pSlc)],loopL [],joinL [(18,[])],joinL [],joinRL []⟩ _ H R (Eq.mp (by unfold spDescription.W;kernel_rfl) h)
def spDescribed.W (p:Nat) (H:Heap) (R:RR):Prop:=
 callW PP fq19 #[(pq p),(.int .i64 0)] H (pInt .i64) fun(x1:Int) H2=>
 joinPK (Bool×Unit) H2 (fun J3=>
 forkB (x1 !=18)
 (J3 ((x1 !=19),()) H2)
 (J3 (false,()) H2)) fun y4=>
 forkB y4.1
 (retK (some [(.slice none 0 0)]) H2 R)
 (callW PP fq21 #[(pq p)] H2 pSlc fun(x5:Sl) H6=>
 retK (some [(.slice x5.1 x5.2.1 x5.2.2)]) H6 R)
theorem spDescribed.enter (p:Nat) (H:Heap) (R:RR) (h:spDescribed.W p H R):Fn PP fq63 #[(pq p)] H R:=
 fnS mixed Tryz.func63 ⟨patL [(5,(pInt .i64)),(13,pSlc)],loopL [],joinL [],joinL [],joinRL [(2,[Slot.bool 11],true)]⟩ _ H R (Eq.mp (by unfold spDescribed.W;kernel_rfl) h)
def spOperation.W (p:Nat) (H:Heap) (R:RR):Prop:=
 callW PP fq22 #[(pq p)] H pStr fun(x1:ByteArray) H2=>
 newB H2 (.cells #[(.int .i64 0),(.string (bs [])),(.string (bs [])),(.string (bs [])),(.int .i64 0),(.int .i64 0)] tq63) fun b3 H4=>
 storeW H4 ⟨b3,0,none⟩ [(.int .i64 2),(.string (bs [])),(.string (bs [])),(.string x1),(.int .i64 0),(.int .i64 0)] fun H5=>
 callW PP fq19 #[(pq p),(.int .i64 0)] H5 (pInt .i64) fun(x6:Int) H7=>
 joinK (Unit) (fun J8=>
 forkB (x6==15)
 (callW PP fq22 #[(pq p)] H7 pStr fun(x11:ByteArray) H12=>
 storeW H12 ⟨b3,1,none⟩ [(.string x11)] fun H13=>
 J8 (()) H13)
 (J8 (()) H7)) fun _y9 H10=>
 loadW H10 true 6 ⟨b3,0,none⟩ pNd fun(x14:Int×ByteArray×ByteArray×ByteArray×Int×Int)=>
 callW PP fq58 #[(pq p)] H10 pSlc fun(x15:Sl) H16=>
 loadC H16 true 6 ⟨b3,0,none⟩=some (.agg #[(.int .i64 x14.1),(.string x14.2.1),(.string x14.2.2.1),(.string x14.2.2.2.1),(.int .i64 x14.2.2.2.2.1),(.int .i64 x14.2.2.2.2.2)])∧
 callW PP fq26 #[(pq p),(.bool false)] H16 pSlc fun(x17:Sl) H18=>
 loadC H18 true 6 ⟨b3,0,none⟩=some (.agg #[(.int .i64 x14.1),(.string x14.2.1),(.string x14.2.2.1),(.string x14.2.2.2.1),(.int .i64 x14.2.2.2.2.1),(.int .i64 x14.2.2.2.2.2)])∧
 callW PP fq20 #[(pq p)] H18 pSlc fun(x19:Sl) H20=>
 loadC H20 true 6 ⟨b3,0,none⟩=some (.agg #[(.int .i64 x14.1),(.string x14.2.1),(.string x14.2.2.1),(.string x14.2.2.2.1),(.int .i64 x14.2.2.2.2.1),(.int .i64 x14.2.2.2.2.2)])∧
 newB H20 (.cells #[(.slice x15.1 x15.2.1 x15.2.2),(.slice x17.1 x17.2.1 x17.2.2),(.slice x19.1 x19.2.1 x19.2.2)] tq36) fun b21 H22=>
 loadC H22 true 6 ⟨b3,0,none⟩=some (.agg #[(.int .i64 x14.1),(.string x14.2.1),(.string x14.2.2.1),(.string x14.2.2.2.1),(.int .i64 x14.2.2.2.2.1),(.int .i64 x14.2.2.2.2.2)])∧
 callW PP fq14 #[(.agg #[(.int .i64 x14.1),(.string x14.2.1),(.string x14.2.2.1),(.string x14.2.2.2.1),(.int .i64 x14.2.2.2.2.1),(.int .i64 x14.2.2.2.2.2)]),(.slice (some ⟨b21,0,none⟩) 3 3)] H22 pSlc fun(x23:Sl) H24=>
 retK (some [(.slice x23.1 x23.2.1 x23.2.2)]) H24 R
theorem spOperation.enter (p:Nat) (H:Heap) (R:RR) (h:spOperation.W p H R):Fn PP fq23 #[(pq p)] H R:=
 fnS mixed Tryz.func23 ⟨patL [(5,pStr),(8,(pInt .i64)),(11,pStr),(13,pNd),(15,pSlc),(17,pSlc),(19,pSlc),(21,pSlc)],loopL [],joinL [(9,[])],joinL [],joinRL []⟩ _ H R (Eq.mp (by unfold spOperation.W;kernel_rfl) h)
def spVariables.W (p:Nat) (H:Heap) (R:RR):Prop:=
 callW PP fq55 #[(pq p),(.int .i64 4)] H pBool fun(x1:Bool) H2=>
 forkB (!x1)
 (retK (some [(.slice none 0 0)]) H2 R)
 (callW PP fq54 #[(pq p),(.int .i64 5)] H2 pUn fun(_:Unit) H4=>
 loopK (Sl×Int×Unit) ((none,0,0),0,()) H4 fun z5 H6 next7=>
 joinK (Bool×Unit) (fun J8=>
 lw H6 p 4 pBool fun(x11:Bool)=>
 forkB (!x11)
 (forkB (z5.2.1==0)
 (J8 (true,()) H6)
 (callW PP fq55 #[(pq p),(.int .i64 5)] H6 pBool fun(x12:Bool) H13=>
 J8 ((!x12),()) H13))
 (J8 (false,()) H6)) fun y9 H10=>
 forkB y9.1
 (callW PP fq53 #[(pq p),(.int .i64 3)] H10 pUn fun(_:Unit) H15=>
 callW PP fq22 #[(pq p)] H15 pStr fun(x16:ByteArray) H17=>
 newB H17 (.cells #[(.int .i64 0),(.string (bs [])),(.string (bs [])),(.string (bs [])),(.int .i64 0),(.int .i64 0)] tq63) fun b18 H19=>
 storeW H19 ⟨b18,0,none⟩ [(.int .i64 4),(.string x16),(.string (bs [])),(.string (bs [])),(.int .i64 0),(.int .i64 0)] fun H20=>
 callW PP fq53 #[(pq p),(.int .i64 7)] H20 pUn fun(_:Unit) H22=>
 callW PP fq64 #[(pq p)] H22 pSlc fun(x23:Sl) H24=>
 callW PP fq55 #[(pq p),(.int .i64 8)] H24 pBool fun(x25:Bool) H26=>
 joinK (Sl×Unit) (fun J27=>
 forkB x25
 (callW PP fq65 #[(pq p),(.bool true)] H26 pSlc fun(x30:Sl) H31=>
 J27 ((x30.1,x30.2.1,x30.2.2),()) H31)
 (J27 ((none,0,0),()) H26)) fun y28 H29=>
 callW PP fq19 #[(pq p),(.int .i64 0)] H29 (pInt .i64) fun(x32:Int) H33=>
 joinK (Unit) (fun J34=>
 forkB (x32==9)
 (storeW H33 ⟨p,5,none⟩ [(.bool true)] fun H37=>
 J34 (()) H37)
 (J34 (()) H33)) fun _y35 H36=>
 loadW H36 true 6 ⟨b18,0,none⟩ pNd fun(x38:Int×ByteArray×ByteArray×ByteArray×Int×Int)=>
 newB H36 (.cells #[(.slice x23.1 x23.2.1 x23.2.2),(.slice y28.1.1 y28.1.2.1 y28.1.2.2)] tq36) fun b39 H40=>
 callW PP fq14 #[(.agg #[(.int .i64 x38.1),(.string x38.2.1),(.string x38.2.2.1),(.string x38.2.2.2.1),(.int .i64 x38.2.2.2.2.1),(.int .i64 x38.2.2.2.2.2)]),(.slice (some ⟨b39,0,none⟩) 2 2)] H40 pSlc fun(x41:Sl) H42=>
 appK H42 tq63 6 72 z5.1.1 z5.1.2.1 z5.1.2.2 x41.1 x41.2.1 fun a43 c44 H45=>
 next7 ((a43,(z5.1.2.1+x41.2.1),c44),(IntKind.i64.wrap (z5.2.1+1)),()) H45)
 (retK (some [(.slice z5.1.1 z5.1.2.1 z5.1.2.2)]) H10 R))
theorem spVariables.enter (p:Nat) (H:Heap) (R:RR) (h:spVariables.W p H R):Fn PP fq58 #[(pq p)] H R:=
 fnS mixed Tryz.func58 ⟨patL [(9,pBool),(12,pUn),(16,pBool),(23,pBool),(30,pUn),(32,pStr),(35,pUn),(37,pSlc),(39,pBool),(41,pSlc),(43,(pInt .i64)),(49,pNd),(53,pSlc)],loopL [(0,[Slot.slc 3,Slot.int .i64 4])],joinL [(39,[Slot.slc 7]),(44,[])],joinL [],joinRL [(6,[Slot.bool 26],false)]⟩ _ H R (Eq.mp (by unfold spVariables.W;kernel_rfl) h)
def spTyped.W (p:Nat) (H:Heap) (R:RR):Prop:=
 callW PP fq52 #[(pq p)] H pBool fun(x1:Bool) H2=>
 forkB (!x1)
 (retK (some [(.slice none 0 0)]) H2 R)
 (joinK (Bool×Unit) (fun J3=>
 callW PP fq19 #[(pq p),(.int .i64 0)] H2 (pInt .i64) fun(x6:Int) H7=>
 forkB (x6 !=10)
 (callW PP fq19 #[(pq p),(.int .i64 0)] H7 (pInt .i64) fun(x8:Int) H9=>
 J3 ((x8 !=15),()) H9)
 (J3 (false,()) H7)) fun y4 H5=>
 joinK (Unit) (fun J10=>
 forkB y4.1
 (storeW H5 ⟨p,5,none⟩ [(.bool true)] fun H13=>
 J10 (()) H13)
 (J10 (()) H5)) fun _y11 H12=>
 callW PP fq55 #[(pq p),(.int .i64 10)] H12 pBool fun(x14:Bool) H15=>
 joinK (Sl×Unit) (fun J16=>
 forkB x14
 (callW PP fq64 #[(pq p)] H15 pSlc fun(x19:Sl) H20=>
 newB H20 (.cells #[(.slice x19.1 x19.2.1 x19.2.2)] tq36) fun b21 H22=>
 callW PP fq14 #[(.agg #[(.int .i64 21),(.string (bs [])),(.string (bs [])),(.string (bs [])),(.int .i64 0),(.int .i64 0)]),(.slice (some ⟨b21,0,none⟩) 1 1)] H22 pSlc fun(x23:Sl) H24=>
 lw H24 p 5 pBool fun(x25:Bool)=>
 forkB x25
 (storeW H24 ⟨p,5,none⟩ [(.bool true)] fun H26=>
 callW PP fq53 #[(pq p),(.int .i64 11)] H26 pUn fun(_:Unit) H28=>
 J16 ((x23.1,x23.2.1,x23.2.2),()) H28)
 (callW PP fq19 #[(pq p),(.int .i64 0)] H24 (pInt .i64) fun(x29:Int) H30=>
 storeW H30 ⟨p,5,none⟩ [(.bool (x29 !=11))] fun H31=>
 callW PP fq53 #[(pq p),(.int .i64 11)] H31 pUn fun(_:Unit) H33=>
 J16 ((x23.1,x23.2.1,x23.2.2),()) H33))
 (callW PP fq22 #[(pq p)] H15 pStr fun(x34:ByteArray) H35=>
 callW PP fq14 #[(.agg #[(.int .i64 20),(.string x34),(.string (bs [])),(.string (bs [])),(.int .i64 0),(.int .i64 0)]),(.slice none 0 0)] H35 pSlc fun(x36:Sl) H37=>
 J16 ((x36.1,x36.2.1,x36.2.2),()) H37)) fun y17 H18=>
 callW PP fq55 #[(pq p),(.int .i64 2)] H18 pBool fun(x38:Bool) H39=>
 joinK (Sl×Unit) (fun J40=>
 forkB x38
 (newB H39 (.cells #[(.slice y17.1.1 y17.1.2.1 y17.1.2.2)] tq36) fun b43 H44=>
 callW PP fq14 #[(.agg #[(.int .i64 22),(.string (bs [])),(.string (bs [])),(.string (bs [])),(.int .i64 0),(.int .i64 0)]),(.slice (some ⟨b43,0,none⟩) 1 1)] H44 pSlc fun(x45:Sl) H46=>
 J40 ((x45.1,x45.2.1,x45.2.2),()) H46)
 (J40 ((y17.1.1,y17.1.2.1,y17.1.2.2),()) H39)) fun y41 H42=>
 callW PP fq57 #[(pq p)] H42 pUn fun(_:Unit) H48=>
 retK (some [(.slice y41.1.1 y41.1.2.1 y41.1.2.2)]) H48 R)
theorem spTyped.enter (p:Nat) (H:Heap) (R:RR) (h:spTyped.W p H R):Fn PP fq64 #[(pq p)] H R:=
 fnS mixed Tryz.func64 ⟨patL [(5,pBool),(8,(pInt .i64)),(12,(pInt .i64)),(19,pBool),(22,pSlc),(24,pSlc),(29,pBool),(32,(pInt .i64)),(38,pUn),(40,pStr),(42,pSlc),(44,pBool),(48,pSlc),(50,pUn)],loopL [],joinL [(14,[]),(19,[Slot.slc 3]),(44,[Slot.slc 3])],joinL [],joinRL [(4,[Slot.bool 14],false)]⟩ _ H R (Eq.mp (by unfold spTyped.W;kernel_rfl) h)
def spSelections.W (p:Nat) (H:Heap) (R:RR):Prop:=
 callW PP fq52 #[(pq p)] H pBool fun(x1:Bool) H2=>
 forkB (!x1)
 (retK (some [(.slice none 0 0)]) H2 R)
 (callW PP fq53 #[(pq p),(.int .i64 12)] H2 pUn fun(_:Unit) H4=>
 callW PP fq54 #[(pq p),(.int .i64 14)] H4 pUn fun(_:Unit) H6=>
 loopK (Sl×Unit) ((none,0,0),()) H6 fun z7 H8 next9=>
 joinK (Bool×Unit) (fun J10=>
 lw H8 p 4 pBool fun(x13:Bool)=>
 forkB (!x13)
 (forkB (((z7.1.2.1:Nat):Int)==0)
 (J10 (true,()) H8)
 (callW PP fq55 #[(pq p),(.int .i64 14)] H8 pBool fun(x14:Bool) H15=>
 J10 ((!x14),()) H15))
 (J10 (false,()) H8)) fun y11 H12=>
 forkB y11.1
 (callW PP fq56 #[(pq p)] H12 pSlc fun(x16:Sl) H17=>
 newB H17 (.cells #[(.slice x16.1 x16.2.1 x16.2.2)] tq36) fun b18 H19=>
 appK H19 tq36 1 24 z7.1.1 z7.1.2.1 z7.1.2.2 (some ⟨b18,0,none⟩) 1 fun a20 c21 H22=>
 next9 ((a20,(z7.1.2.1+1),c21),()) H22)
 (callW PP fq57 #[(pq p)] H12 pUn fun(_:Unit) H24=>
 callW PP fq14 #[(.agg #[(.int .i64 5),(.string (bs [])),(.string (bs [])),(.string (bs [])),(.int .i64 0),(.int .i64 0)]),(.slice z7.1.1 z7.1.2.1 z7.1.2.2)] H24 pSlc fun(x25:Sl) H26=>
 retK (some [(.slice x25.1 x25.2.1 x25.2.2)]) H26 R))
theorem spSelections.enter (p:Nat) (H:Heap) (R:RR) (h:spSelections.W p H R):Fn PP fq20 #[(pq p)] H R:=
 fnS mixed Tryz.func20 ⟨patL [(5,pBool),(8,pUn),(10,pUn),(14,pBool),(22,pBool),(28,pSlc),(32,pUn),(35,pSlc)],loopL [(0,[Slot.slc 3])],joinL [],joinL [],joinRL [(6,[Slot.bool 25],false)]⟩ _ H R (Eq.mp (by unfold spSelections.W;kernel_rfl) h)
def spSelection.W (p:Nat) (H:Heap) (R:RR):Prop:=
 callW PP fq55 #[(pq p),(.int .i64 6)] H pBool fun(x1:Bool) H2=>
 forkB x1
 (callW PP fq88 #[(pq p)] H2 pSlc fun(x3:Sl) H4=>
 retK (some [(.slice x3.1 x3.2.1 x3.2.2)]) H4 R)
 (callW PP fq22 #[(pq p)] H2 pStr fun(x5:ByteArray) H6=>
 newB H6 (.cells #[(.int .i64 0),(.string (bs [])),(.string (bs [])),(.string (bs [])),(.int .i64 0),(.int .i64 0)] tq63) fun b7 H8=>
 storeW H8 ⟨b7,0,none⟩ [(.int .i64 6),(.string x5),(.string (bs [])),(.string (bs [])),(.int .i64 0),(.int .i64 0)] fun H9=>
 callW PP fq55 #[(pq p),(.int .i64 7)] H9 pBool fun(x10:Bool) H11=>
 joinK (Unit) (fun J12=>
 forkB x10
 (lw H11 b7 1 pStr fun(x15:ByteArray)=>
 callW PP fq22 #[(pq p)] H11 pStr fun(x16:ByteArray) H17=>
 lc H17 b7 1 (.string x15)∧
 storeW H17 ⟨b7,2,none⟩ [(.string x15)] fun H18=>
 storeW H18 ⟨b7,1,none⟩ [(.string x16)] fun H19=>
 J12 (()) H19)
 (J12 (()) H11)) fun _y13 H14=>
 callW PP fq61 #[(pq p),(.bool false)] H14 pSlc fun(x20:Sl) H21=>
 callW PP fq26 #[(pq p),(.bool false)] H21 pSlc fun(x22:Sl) H23=>
 joinK (Bool×Unit) (fun J24=>
 lw H23 p 4 pBool fun(x27:Bool)=>
 forkB (!x27)
 (callW PP fq19 #[(pq p),(.int .i64 0)] H23 (pInt .i64) fun(x28:Int) H29=>
 J24 ((x28==12),()) H29)
 (J24 (false,()) H23)) fun y25 H26=>
 joinK (Sl×Unit) (fun J30=>
 forkB y25.1
 (callW PP fq20 #[(pq p)] H26 pSlc fun(x33:Sl) H34=>
 J30 ((x33.1,x33.2.1,x33.2.2),()) H34)
 (J30 ((none,0,0),()) H26)) fun y31 H32=>
 loadW H32 true 6 ⟨b7,0,none⟩ pNd fun(x35:Int×ByteArray×ByteArray×ByteArray×Int×Int)=>
 newB H32 (.cells #[(.slice x20.1 x20.2.1 x20.2.2),(.slice x22.1 x22.2.1 x22.2.2),(.slice y31.1.1 y31.1.2.1 y31.1.2.2)] tq36) fun b36 H37=>
 callW PP fq14 #[(.agg #[(.int .i64 x35.1),(.string x35.2.1),(.string x35.2.2.1),(.string x35.2.2.2.1),(.int .i64 x35.2.2.2.2.1),(.int .i64 x35.2.2.2.2.2)]),(.slice (some ⟨b36,0,none⟩) 3 3)] H37 pSlc fun(x38:Sl) H39=>
 retK (some [(.slice x38.1 x38.2.1 x38.2.2)]) H39 R)
theorem spSelection.enter (p:Nat) (H:Heap) (R:RR) (h:spSelection.W p H R):Fn PP fq56 #[(pq p)] H R:=
 fnS mixed Tryz.func56 ⟨patL [(8,pBool),(10,pSlc),(12,pStr),(15,pBool),(17,pStr),(19,pStr),(23,pSlc),(25,pSlc),(29,pBool),(33,(pInt .i64)),(37,pSlc),(38,pNd),(43,pSlc)],loopL [],joinL [(15,[]),(35,[Slot.slc 6])],joinL [],joinRL [(8,[Slot.bool 35],false)]⟩ _ H R (Eq.mp (by unfold spSelection.W;kernel_rfl) h)
def spSpread.W (p:Nat) (H:Heap) (R:RR):Prop:=
 joinK (Bool×Unit) (fun J1=>
 callW PP fq19 #[(pq p),(.int .i64 0)] H (pInt .i64) fun(x4:Int) H5=>
 forkB (x4==15)
 (callW PP fq28 #[(pq p),(.int .i64 0),(.string (bs [111,110]))] H5 pBool fun(x6:Bool) H7=>
 J1 ((!x6),()) H7)
 (J1 (false,()) H5)) fun y2 H3=>
 forkB y2.1
 (callW PP fq22 #[(pq p)] H3 pStr fun(x8:ByteArray) H9=>
 callW PP fq26 #[(pq p),(.bool false)] H9 pSlc fun(x10:Sl) H11=>
 newB H11 (.cells #[(.slice x10.1 x10.2.1 x10.2.2)] tq36) fun b12 H13=>
 callW PP fq14 #[(.agg #[(.int .i64 7),(.string x8),(.string (bs [])),(.string (bs [])),(.int .i64 0),(.int .i64 0)]),(.slice (some ⟨b12,0,none⟩) 1 1)] H13 pSlc fun(x14:Sl) H15=>
 retK (some [(.slice x14.1 x14.2.1 x14.2.2)]) H15 R)
 (newB H3 (.cells #[(.int .i64 0),(.string (bs [])),(.string (bs [])),(.string (bs [])),(.int .i64 0),(.int .i64 0)] tq63) fun b16 H17=>
 storeW H17 ⟨b16,0,none⟩ [(.int .i64 8),(.string (bs [])),(.string (bs [])),(.string (bs [])),(.int .i64 0),(.int .i64 0)] fun H18=>
 callW PP fq59 #[(pq p)] H18 pUn fun(_:Unit) H20=>
 callW PP fq28 #[(pq p),(.int .i64 0),(.string (bs [111,110]))] H20 pBool fun(x21:Bool) H22=>
 joinK (Unit) (fun J23=>
 forkB x21
 (lw H22 p 1 (pInt .i64) fun(x26:Int)=>
 storeW H22 ⟨p,1,none⟩ [(.int .i64 (IntKind.i64.wrap (x26+1)))] fun H27=>
 callW PP fq22 #[(pq p)] H27 pStr fun(x28:ByteArray) H29=>
 storeW H29 ⟨b16,3,none⟩ [(.string x28)] fun H30=>
 J23 (()) H30)
 (J23 (()) H22)) fun _y24 H25=>
 loadW H25 true 6 ⟨b16,0,none⟩ pNd fun(x31:Int×ByteArray×ByteArray×ByteArray×Int×Int)=>
 callW PP fq26 #[(pq p),(.bool false)] H25 pSlc fun(x32:Sl) H33=>
 loadC H33 true 6 ⟨b16,0,none⟩=some (.agg #[(.int .i64 x31.1),(.string x31.2.1),(.string x31.2.2.1),(.string x31.2.2.2.1),(.int .i64 x31.2.2.2.2.1),(.int .i64 x31.2.2.2.2.2)])∧
 callW PP fq20 #[(pq p)] H33 pSlc fun(x34:Sl) H35=>
 loadC H35 true 6 ⟨b16,0,none⟩=some (.agg #[(.int .i64 x31.1),(.string x31.2.1),(.string x31.2.2.1),(.string x31.2.2.2.1),(.int .i64 x31.2.2.2.2.1),(.int .i64 x31.2.2.2.2.2)])∧
 newB H35 (.cells #[(.slice x32.1 x32.2.1 x32.2.2),(.slice x34.1 x34.2.1 x34.2.2)] tq36) fun b36 H37=>
 loadC H37 true 6 ⟨b16,0,none⟩=some (.agg #[(.int .i64 x31.1),(.string x31.2.1),(.string x31.2.2.1),(.string x31.2.2.2.1),(.int .i64 x31.2.2.2.2.1),(.int .i64 x31.2.2.2.2.2)])∧
 callW PP fq14 #[(.agg #[(.int .i64 x31.1),(.string x31.2.1),(.string x31.2.2.1),(.string x31.2.2.2.1),(.int .i64 x31.2.2.2.2.1),(.int .i64 x31.2.2.2.2.2)]),(.slice (some ⟨b36,0,none⟩) 2 2)] H37 pSlc fun(x38:Sl) H39=>
 retK (some [(.slice x38.1 x38.2.1 x38.2.2)]) H39 R)
theorem spSpread.enter (p:Nat) (H:Heap) (R:RR) (h:spSpread.W p H R):Fn PP fq88 #[(pq p)] H R:=
 fnS mixed Tryz.func88 ⟨patL [(5,(pInt .i64)),(9,pBool),(13,pStr),(16,pSlc),(18,pSlc),(21,pUn),(23,pBool),(27,(pInt .i64)),(32,pStr),(34,pNd),(36,pSlc),(38,pSlc),(40,pSlc)],loopL [],joinL [(23,[])],joinL [],joinRL [(1,[Slot.bool 11],false)]⟩ _ H R (Eq.mp (by unfold spSpread.W;kernel_rfl) h)
def spArguments.W (p:Nat) (fixed:Bool) (H:Heap) (R:RR):Prop:=
 callW PP fq55 #[(pq p),(.int .i64 4)] H pBool fun(x1:Bool) H2=>
 forkB (!x1)
 (retK (some [(.slice none 0 0)]) H2 R)
 (callW PP fq54 #[(pq p),(.int .i64 5)] H2 pUn fun(_:Unit) H4=>
 loopK (Sl×Int×Unit) ((none,0,0),0,()) H4 fun z5 H6 next7=>
 joinK (Bool×Unit) (fun J8=>
 lw H6 p 4 pBool fun(x11:Bool)=>
 forkB (!x11)
 (forkB (z5.2.1==0)
 (J8 (true,()) H6)
 (callW PP fq55 #[(pq p),(.int .i64 5)] H6 pBool fun(x12:Bool) H13=>
 J8 ((!x12),()) H13))
 (J8 (false,()) H6)) fun y9 H10=>
 forkB y9.1
 (callW PP fq22 #[(pq p)] H10 pStr fun(x14:ByteArray) H15=>
 newB H15 (.cells #[(.int .i64 0),(.string (bs [])),(.string (bs [])),(.string (bs [])),(.int .i64 0),(.int .i64 0)] tq63) fun b16 H17=>
 storeW H17 ⟨b16,0,none⟩ [(.int .i64 9),(.string x14),(.string (bs [])),(.string (bs [])),(.int .i64 0),(.int .i64 0)] fun H18=>
 callW PP fq53 #[(pq p),(.int .i64 7)] H18 pUn fun(_:Unit) H20=>
 loadW H20 true 6 ⟨b16,0,none⟩ pNd fun(x21:Int×ByteArray×ByteArray×ByteArray×Int×Int)=>
 callW PP fq65 #[(pq p),(.bool fixed)] H20 pSlc fun(x22:Sl) H23=>
 loadC H23 true 6 ⟨b16,0,none⟩=some (.agg #[(.int .i64 x21.1),(.string x21.2.1),(.string x21.2.2.1),(.string x21.2.2.2.1),(.int .i64 x21.2.2.2.2.1),(.int .i64 x21.2.2.2.2.2)])∧
 newB H23 (.cells #[(.slice x22.1 x22.2.1 x22.2.2)] tq36) fun b24 H25=>
 loadC H25 true 6 ⟨b16,0,none⟩=some (.agg #[(.int .i64 x21.1),(.string x21.2.1),(.string x21.2.2.1),(.string x21.2.2.2.1),(.int .i64 x21.2.2.2.2.1),(.int .i64 x21.2.2.2.2.2)])∧
 callW PP fq14 #[(.agg #[(.int .i64 x21.1),(.string x21.2.1),(.string x21.2.2.1),(.string x21.2.2.2.1),(.int .i64 x21.2.2.2.2.1),(.int .i64 x21.2.2.2.2.2)]),(.slice (some ⟨b24,0,none⟩) 1 1)] H25 pSlc fun(x26:Sl) H27=>
 appK H27 tq63 6 72 z5.1.1 z5.1.2.1 z5.1.2.2 x26.1 x26.2.1 fun a28 c29 H30=>
 next7 ((a28,(z5.1.2.1+x26.2.1),c29),(IntKind.i64.wrap (z5.2.1+1)),()) H30)
 (retK (some [(.slice z5.1.1 z5.1.2.1 z5.1.2.2)]) H10 R))
theorem spArguments.enter (p:Nat) (fixed:Bool) (H:Heap) (R:RR) (h:spArguments.W p fixed H R):Fn PP fq61 #[(pq p),(.bool fixed)] H R:=
 fnS mixed Tryz.func61 ⟨patL [(9,pBool),(12,pUn),(16,pBool),(23,pBool),(30,pStr),(33,pUn),(35,pNd),(38,pSlc),(40,pSlc)],loopL [(0,[Slot.slc 5,Slot.int .i64 6])],joinL [],joinL [],joinRL [(6,[Slot.bool 26],false)]⟩ _ H R (Eq.mp (by unfold spArguments.W;kernel_rfl) h)
def spDirectives.W (p:Nat) (fixed:Bool) (H:Heap) (R:RR):Prop:=
 loopK (Sl×Unit) ((none,0,0),()) H fun z1 H2 next3=>
 joinK (Bool×Unit) (fun J4=>
 lw H2 p 4 pBool fun(x7:Bool)=>
 forkB (!x7)
 (callW PP fq55 #[(pq p),(.int .i64 9)] H2 pBool fun(x8:Bool) H9=>
 J4 (x8,()) H9)
 (J4 (false,()) H2)) fun y5 H6=>
 forkB y5.1
 (callW PP fq22 #[(pq p)] H6 pStr fun(x10:ByteArray) H11=>
 newB H11 (.cells #[(.int .i64 0),(.string (bs [])),(.string (bs [])),(.string (bs [])),(.int .i64 0),(.int .i64 0)] tq63) fun b12 H13=>
 storeW H13 ⟨b12,0,none⟩ [(.int .i64 10),(.string x10),(.string (bs [])),(.string (bs [])),(.int .i64 0),(.int .i64 0)] fun H14=>
 lw H14 p 5 pBool fun(x15:Bool)=>
 forkB x15
 (storeW H14 ⟨p,5,none⟩ [(.bool true)] fun H16=>
 loadW H16 true 6 ⟨b12,0,none⟩ pNd fun(x17:Int×ByteArray×ByteArray×ByteArray×Int×Int)=>
 callW PP fq61 #[(pq p),(.bool false)] H16 pSlc fun(x18:Sl) H19=>
 loadC H19 true 6 ⟨b12,0,none⟩=some (.agg #[(.int .i64 x17.1),(.string x17.2.1),(.string x17.2.2.1),(.string x17.2.2.2.1),(.int .i64 x17.2.2.2.2.1),(.int .i64 x17.2.2.2.2.2)])∧
 newB H19 (.cells #[(.slice x18.1 x18.2.1 x18.2.2)] tq36) fun b20 H21=>
 loadC H21 true 6 ⟨b12,0,none⟩=some (.agg #[(.int .i64 x17.1),(.string x17.2.1),(.string x17.2.2.1),(.string x17.2.2.2.1),(.int .i64 x17.2.2.2.2.1),(.int .i64 x17.2.2.2.2.2)])∧
 callW PP fq14 #[(.agg #[(.int .i64 x17.1),(.string x17.2.1),(.string x17.2.2.1),(.string x17.2.2.2.1),(.int .i64 x17.2.2.2.2.1),(.int .i64 x17.2.2.2.2.2)]),(.slice (some ⟨b20,0,none⟩) 1 1)] H21 pSlc fun(x22:Sl) H23=>
 appK H23 tq63 6 72 z1.1.1 z1.1.2.1 z1.1.2.2 x22.1 x22.2.1 fun a24 c25 H26=>
 next3 ((a24,(z1.1.2.1+x22.2.1),c25),()) H26)
 (forkB fixed
 (callW PP fq60 #[(pq p)] H14 pBool fun(x27:Bool) H28=>
 storeW H28 ⟨p,5,none⟩ [(.bool x27)] fun H29=>
 loadW H29 true 6 ⟨b12,0,none⟩ pNd fun(x30:Int×ByteArray×ByteArray×ByteArray×Int×Int)=>
 callW PP fq61 #[(pq p),(.bool false)] H29 pSlc fun(x31:Sl) H32=>
 loadC H32 true 6 ⟨b12,0,none⟩=some (.agg #[(.int .i64 x30.1),(.string x30.2.1),(.string x30.2.2.1),(.string x30.2.2.2.1),(.int .i64 x30.2.2.2.2.1),(.int .i64 x30.2.2.2.2.2)])∧
 newB H32 (.cells #[(.slice x31.1 x31.2.1 x31.2.2)] tq36) fun b33 H34=>
 loadC H34 true 6 ⟨b12,0,none⟩=some (.agg #[(.int .i64 x30.1),(.string x30.2.1),(.string x30.2.2.1),(.string x30.2.2.2.1),(.int .i64 x30.2.2.2.2.1),(.int .i64 x30.2.2.2.2.2)])∧
 callW PP fq14 #[(.agg #[(.int .i64 x30.1),(.string x30.2.1),(.string x30.2.2.1),(.string x30.2.2.2.1),(.int .i64 x30.2.2.2.2.1),(.int .i64 x30.2.2.2.2.2)]),(.slice (some ⟨b33,0,none⟩) 1 1)] H34 pSlc fun(x35:Sl) H36=>
 appK H36 tq63 6 72 z1.1.1 z1.1.2.1 z1.1.2.2 x35.1 x35.2.1 fun a37 c38 H39=>
 next3 ((a37,(z1.1.2.1+x35.2.1),c38),()) H39)
 (storeW H14 ⟨p,5,none⟩ [(.bool false)] fun H40=>
 loadW H40 true 6 ⟨b12,0,none⟩ pNd fun(x41:Int×ByteArray×ByteArray×ByteArray×Int×Int)=>
 callW PP fq61 #[(pq p),(.bool false)] H40 pSlc fun(x42:Sl) H43=>
 loadC H43 true 6 ⟨b12,0,none⟩=some (.agg #[(.int .i64 x41.1),(.string x41.2.1),(.string x41.2.2.1),(.string x41.2.2.2.1),(.int .i64 x41.2.2.2.2.1),(.int .i64 x41.2.2.2.2.2)])∧
 newB H43 (.cells #[(.slice x42.1 x42.2.1 x42.2.2)] tq36) fun b44 H45=>
 loadC H45 true 6 ⟨b12,0,none⟩=some (.agg #[(.int .i64 x41.1),(.string x41.2.1),(.string x41.2.2.1),(.string x41.2.2.2.1),(.int .i64 x41.2.2.2.2.1),(.int .i64 x41.2.2.2.2.2)])∧
 callW PP fq14 #[(.agg #[(.int .i64 x41.1),(.string x41.2.1),(.string x41.2.2.1),(.string x41.2.2.2.1),(.int .i64 x41.2.2.2.2.1),(.int .i64 x41.2.2.2.2.2)]),(.slice (some ⟨b44,0,none⟩) 1 1)] H45 pSlc fun(x46:Sl) H47=>
 appK H47 tq63 6 72 z1.1.1 z1.1.2.1 z1.1.2.2 x46.1 x46.2.1 fun a48 c49 H50=>
 next3 ((a48,(z1.1.2.1+x46.2.1),c49),()) H50)))
 (retK (some [(.slice z1.1.1 z1.1.2.1 z1.1.2.2)]) H6 R)
theorem spDirectives.enter (p:Nat) (fixed:Bool) (H:Heap) (R:RR) (h:spDirectives.W p fixed H R):Fn PP fq26 #[(pq p),(.bool fixed)] H R:=
 fnS mixed Tryz.func26 ⟨patL [(10,pBool),(14,pBool),(17,pStr),(23,pBool),(28,pBool),(34,pNd),(36,pSlc),(38,pSlc)],loopL [(0,[Slot.slc 5])],joinL [],joinL [],joinRL [(2,[Slot.bool 15],false)]⟩ _ H R (Eq.mp (by unfold spDirectives.W;kernel_rfl) h)
def spAsks.W (p:Nat) (H:Heap) (R:RR):Prop:=
 callW PP fq19 #[(pq p),(.int .i64 0)] H (pInt .i64) fun(x1:Int) H2=>
 forkB (x1 !=4)
 (retK (some [(.bool false)]) H2 R)
 (loopK (Int×Unit) (0,()) H2 fun z3 H4 next5=>
 joinK (Bool×Unit) (fun J6=>
 callW PP fq19 #[(pq p),(.int .i64 z3.1)] H4 (pInt .i64) fun(x9:Int) H10=>
 forkB (x9 !=1)
 (callW PP fq19 #[(pq p),(.int .i64 z3.1)] H10 (pInt .i64) fun(x11:Int) H12=>
 J6 ((x11 !=5),()) H12)
 (J6 (false,()) H10)) fun y7 H8=>
 forkB y7.1
 (callW PP fq19 #[(pq p),(.int .i64 z3.1)] H8 (pInt .i64) fun(x13:Int) H14=>
 forkB (x13==3)
 (retK (some [(.bool true)]) H14 R)
 (next5 ((IntKind.i64.wrap (z3.1+1)),()) H14))
 (retK (some [(.bool false)]) H8 R))
theorem spAsks.enter (p:Nat) (H:Heap) (R:RR) (h:spAsks.W p H R):Fn PP fq60 #[(pq p)] H R:=
 fnS mixed Tryz.func60 ⟨patL [(5,(pInt .i64)),(9,(pInt .i64)),(14,(pInt .i64)),(21,(pInt .i64))],loopL [(0,[Slot.int .i64 3])],joinL [],joinL [],joinRL [(4,[Slot.bool 16],false)]⟩ _ H R (Eq.mp (by unfold spAsks.W;kernel_rfl) h)
def spFragment.W (p:Nat) (H:Heap) (R:RR):Prop:=
 callW PP fq28 #[(pq p),(.int .i64 0),(.string (bs [111,110]))] H pBool fun(x1:Bool) H2=>
 forkB x1
 (callW PP fq13 #[(pq p)] H2 pSlc fun(x3:Sl) H4=>
 retK (some [(.slice x3.1 x3.2.1 x3.2.2)]) H4 R)
 (callW PP fq22 #[(pq p)] H2 pStr fun(x5:ByteArray) H6=>
 newB H6 (.cells #[(.int .i64 0),(.string (bs [])),(.string (bs [])),(.string (bs [])),(.int .i64 0),(.int .i64 0)] tq63) fun b7 H8=>
 storeW H8 ⟨b7,0,none⟩ [(.int .i64 3),(.string x5),(.string (bs [])),(.string (bs [])),(.int .i64 0),(.int .i64 0)] fun H9=>
 lw H9 p 5 pBool fun(x10:Bool)=>
 forkB x10
 (storeW H9 ⟨p,5,none⟩ [(.bool true)] fun H11=>
 callW PP fq59 #[(pq p)] H11 pUn fun(_:Unit) H13=>
 callW PP fq28 #[(pq p),(.int .i64 0),(.string (bs [111,110]))] H13 pBool fun(x14:Bool) H15=>
 forkB (!x14)
 (callW PP fq13 #[(pq p)] H15 pSlc fun(x16:Sl) H17=>
 retK (some [(.slice x16.1 x16.2.1 x16.2.2)]) H17 R)
 (lw H15 p 1 (pInt .i64) fun(x18:Int)=>
 storeW H15 ⟨p,1,none⟩ [(.int .i64 (IntKind.i64.wrap (x18+1)))] fun H19=>
 callW PP fq22 #[(pq p)] H19 pStr fun(x20:ByteArray) H21=>
 storeW H21 ⟨b7,3,none⟩ [(.string x20)] fun H22=>
 loadW H22 true 6 ⟨b7,0,none⟩ pNd fun(x23:Int×ByteArray×ByteArray×ByteArray×Int×Int)=>
 callW PP fq26 #[(pq p),(.bool false)] H22 pSlc fun(x24:Sl) H25=>
 loadC H25 true 6 ⟨b7,0,none⟩=some (.agg #[(.int .i64 x23.1),(.string x23.2.1),(.string x23.2.2.1),(.string x23.2.2.2.1),(.int .i64 x23.2.2.2.2.1),(.int .i64 x23.2.2.2.2.2)])∧
 callW PP fq20 #[(pq p)] H25 pSlc fun(x26:Sl) H27=>
 loadC H27 true 6 ⟨b7,0,none⟩=some (.agg #[(.int .i64 x23.1),(.string x23.2.1),(.string x23.2.2.1),(.string x23.2.2.2.1),(.int .i64 x23.2.2.2.2.1),(.int .i64 x23.2.2.2.2.2)])∧
 newB H27 (.cells #[(.slice x24.1 x24.2.1 x24.2.2),(.slice x26.1 x26.2.1 x26.2.2)] tq36) fun b28 H29=>
 loadC H29 true 6 ⟨b7,0,none⟩=some (.agg #[(.int .i64 x23.1),(.string x23.2.1),(.string x23.2.2.1),(.string x23.2.2.2.1),(.int .i64 x23.2.2.2.2.1),(.int .i64 x23.2.2.2.2.2)])∧
 callW PP fq14 #[(.agg #[(.int .i64 x23.1),(.string x23.2.1),(.string x23.2.2.1),(.string x23.2.2.2.1),(.int .i64 x23.2.2.2.2.1),(.int .i64 x23.2.2.2.2.2)]),(.slice (some ⟨b28,0,none⟩) 2 2)] H29 pSlc fun(x30:Sl) H31=>
 retK (some [(.slice x30.1 x30.2.1 x30.2.2)]) H31 R))
 (callW PP fq19 #[(pq p),(.int .i64 0)] H9 (pInt .i64) fun(x32:Int) H33=>
 storeW H33 ⟨p,5,none⟩ [(.bool (x32==4))] fun H34=>
 callW PP fq59 #[(pq p)] H34 pUn fun(_:Unit) H36=>
 callW PP fq28 #[(pq p),(.int .i64 0),(.string (bs [111,110]))] H36 pBool fun(x37:Bool) H38=>
 forkB (!x37)
 (callW PP fq13 #[(pq p)] H38 pSlc fun(x39:Sl) H40=>
 retK (some [(.slice x39.1 x39.2.1 x39.2.2)]) H40 R)
 (lw H38 p 1 (pInt .i64) fun(x41:Int)=>
 storeW H38 ⟨p,1,none⟩ [(.int .i64 (IntKind.i64.wrap (x41+1)))] fun H42=>
 callW PP fq22 #[(pq p)] H42 pStr fun(x43:ByteArray) H44=>
 storeW H44 ⟨b7,3,none⟩ [(.string x43)] fun H45=>
 loadW H45 true 6 ⟨b7,0,none⟩ pNd fun(x46:Int×ByteArray×ByteArray×ByteArray×Int×Int)=>
 callW PP fq26 #[(pq p),(.bool false)] H45 pSlc fun(x47:Sl) H48=>
 loadC H48 true 6 ⟨b7,0,none⟩=some (.agg #[(.int .i64 x46.1),(.string x46.2.1),(.string x46.2.2.1),(.string x46.2.2.2.1),(.int .i64 x46.2.2.2.2.1),(.int .i64 x46.2.2.2.2.2)])∧
 callW PP fq20 #[(pq p)] H48 pSlc fun(x49:Sl) H50=>
 loadC H50 true 6 ⟨b7,0,none⟩=some (.agg #[(.int .i64 x46.1),(.string x46.2.1),(.string x46.2.2.1),(.string x46.2.2.2.1),(.int .i64 x46.2.2.2.2.1),(.int .i64 x46.2.2.2.2.2)])∧
 newB H50 (.cells #[(.slice x47.1 x47.2.1 x47.2.2),(.slice x49.1 x49.2.1 x49.2.2)] tq36) fun b51 H52=>
 loadC H52 true 6 ⟨b7,0,none⟩=some (.agg #[(.int .i64 x46.1),(.string x46.2.1),(.string x46.2.2.1),(.string x46.2.2.2.1),(.int .i64 x46.2.2.2.2.1),(.int .i64 x46.2.2.2.2.2)])∧
 callW PP fq14 #[(.agg #[(.int .i64 x46.1),(.string x46.2.1),(.string x46.2.2.1),(.string x46.2.2.2.1),(.int .i64 x46.2.2.2.2.1),(.int .i64 x46.2.2.2.2.2)]),(.slice (some ⟨b51,0,none⟩) 2 2)] H52 pSlc fun(x53:Sl) H54=>
 retK (some [(.slice x53.1 x53.2.1 x53.2.2)]) H54 R)))
theorem spFragment.enter (p:Nat) (H:Heap) (R:RR) (h:spFragment.W p H R):Fn PP fq24 #[(pq p)] H R:=
 fnS mixed Tryz.func24 (hz [(5,pBool),(7,pSlc),(9,pStr),(15,pBool),(18,(pInt .i64)),(24,pUn),(26,pBool),(29,pSlc),(33,(pInt .i64)),(38,pStr),(40,pNd),(42,pSlc),(44,pSlc),(46,pSlc)]) _ H R (Eq.mp (by unfold spFragment.W;kernel_rfl) h)
def spValue.W (p:Nat) (fixed:Bool) (H:Heap) (R:RR):Prop:=
 callW PP fq52 #[(pq p)] H pBool fun(x1:Bool) H2=>
 forkB (!x1)
 (retK (some [(.slice none 0 0)]) H2 R)
 (callW PP fq89 #[(pq p),(.bool fixed)] H2 pSlc fun(x3:Sl) H4=>
 callW PP fq57 #[(pq p)] H4 pUn fun(_:Unit) H6=>
 retK (some [(.slice x3.1 x3.2.1 x3.2.2)]) H6 R)
theorem spValue.enter (p:Nat) (fixed:Bool) (H:Heap) (R:RR) (h:spValue.W p fixed H R):Fn PP fq65 #[(pq p),(.bool fixed)] H R:=
 fnS mixed Tryz.func65 (hz [(7,pBool),(11,pSlc),(13,pUn)]) _ H R (Eq.mp (by unfold spValue.W;kernel_rfl) h)
def spValueHere.W (p:Nat) (fixed:Bool) (H:Heap) (R:RR):Prop:=
 lw H p 1 (pInt .i64) fun(x1:Int)=>
 lw H p 0 pSlc fun(x2:Sl)=>
 forkB (decide (x1≥((x2.2.1:Nat):Int)))
 (callW PP fq13 #[(pq p)] H pSlc fun(x3:Sl) H4=>
 retK (some [(.slice x3.1 x3.2.1 x3.2.2)]) H4 R)
 (lw H p 0 pSlc fun(x5:Sl)=>
 lw H p 1 (pInt .i64) fun(x6:Int)=>
 (IxOk x5.1 x6 x5.2.1)∧
 loadW H true 4 ⟨(blkOf x5.1),(offOf x5.1+x6.toNat*4),none⟩ ⟨Int×ByteArray×Int×Int,fun x=>(.agg #[(.int .i64 x.1),(.string x.2.1),(.int .i64 x.2.2.1),(.int .i64 x.2.2.2)])⟩ fun(x7:Int×ByteArray×Int×Int)=>
 newB H (.cells #[(.int .i64 0),(.string (bs [])),(.int .i64 0),(.int .i64 0)] tq39) fun b8 H9=>
 loadC H9 true 4 ⟨(blkOf x5.1),(offOf x5.1+x6.toNat*4),none⟩=some (.agg #[(.int .i64 x7.1),(.string x7.2.1),(.int .i64 x7.2.2.1),(.int .i64 x7.2.2.2)])∧
 lc H9 p 1 (.int .i64 x6)∧
 lc H9 p 0 (.slice x5.1 x5.2.1 x5.2.2)∧
 storeW H9 ⟨b8,0,none⟩ [(.int .i64 x7.1),(.string x7.2.1),(.int .i64 x7.2.2.1),(.int .i64 x7.2.2.2)] fun H10=>
 lw H10 b8 0 (pInt .i64) fun(x11:Int)=>
 forkB (x11==3)
 (forkB fixed
 (callW PP fq13 #[(pq p)] H10 pSlc fun(x12:Sl) H13=>
 retK (some [(.slice x12.1 x12.2.1 x12.2.2)]) H13 R)
 (lw H10 p 1 (pInt .i64) fun(x14:Int)=>
 storeW H10 ⟨p,1,none⟩ [(.int .i64 (IntKind.i64.wrap (x14+1)))] fun H15=>
 callW PP fq22 #[(pq p)] H15 pStr fun(x16:ByteArray) H17=>
 callW PP fq14 #[(.agg #[(.int .i64 11),(.string x16),(.string (bs [])),(.string (bs [])),(.int .i64 0),(.int .i64 0)]),(.slice none 0 0)] H17 pSlc fun(x18:Sl) H19=>
 retK (some [(.slice x18.1 x18.2.1 x18.2.2)]) H19 R))
 (joinK (Bool×Unit) (fun J20=>
 forkB (x11==16)
 (J20 (true,()) H10)
 (J20 ((x11==17),()) H10)) fun y21 H22=>
 joinK (Bool×Unit) (fun J23=>
 forkB y21.1
 (lw H22 p 1 (pInt .i64) fun(x26:Int)=>
 storeW H22 ⟨p,1,none⟩ [(.int .i64 (IntKind.i64.wrap (x26+1)))] fun H27=>
 lw H27 b8 0 (pInt .i64) fun(x28:Int)=>
 lw H27 b8 1 pStr fun(x29:ByteArray)=>
 callW PP fq14 #[(.agg #[(.int .i64 (IntKind.i64.wrap ((IntKind.i64.wrap (12+x28)) -16))),(.string (bs [])),(.string (bs [])),(.string x29),(.int .i64 0),(.int .i64 0)]),(.slice none 0 0)] H27 pSlc fun(x30:Sl) H31=>
 retK (some [(.slice x30.1 x30.2.1 x30.2.2)]) H31 R)
 (joinK (Bool×Unit) (fun J32=>
 forkB (x11==18)
 (J32 (true,()) H22)
 (J32 ((x11==19),()) H22)) fun y33 H34=>
 joinK (Bool×Unit) (fun J35=>
 forkB y33.1
 (lw H34 p 1 (pInt .i64) fun(x38:Int)=>
 storeW H34 ⟨p,1,none⟩ [(.int .i64 (IntKind.i64.wrap (x38+1)))] fun H39=>
 lw H39 b8 1 pStr fun(x40:ByteArray)=>
 lw H39 b8 0 (pInt .i64) fun(x41:Int)=>
 callW PP fq14 #[(.agg #[(.int .i64 14),(.string (bs [])),(.string (bs [])),(.string x40),(.int .i64 (IntKind.i64.wrap (x41 -18))),(.int .i64 0)]),(.slice none 0 0)] H39 pSlc fun(x42:Sl) H43=>
 retK (some [(.slice x42.1 x42.2.1 x42.2.2)]) H43 R)
 (forkB (x11==15)
 (lw H34 p 1 (pInt .i64) fun(x44:Int)=>
 storeW H34 ⟨p,1,none⟩ [(.int .i64 (IntKind.i64.wrap (x44+1)))] fun H45=>
 lw H45 b8 1 pStr fun(x46:ByteArray)=>
 forkB (x46.toList==(bs [116,114,117,101]).toList)
 (callW PP fq14 #[(.agg #[(.int .i64 15),(.string (bs [])),(.string (bs [])),(.string (bs [])),(.int .i64 1),(.int .i64 0)]),(.slice none 0 0)] H45 pSlc fun(x47:Sl) H48=>
 retK (some [(.slice x47.1 x47.2.1 x47.2.2)]) H48 R)
 (forkB (x46.toList==(bs [102,97,108,115,101]).toList)
 (callW PP fq14 #[(.agg #[(.int .i64 15),(.string (bs [])),(.string (bs [])),(.string (bs [])),(.int .i64 0),(.int .i64 0)]),(.slice none 0 0)] H45 pSlc fun(x49:Sl) H50=>
 retK (some [(.slice x49.1 x49.2.1 x49.2.2)]) H50 R)
 (forkB (x46.toList==(bs [110,117,108,108]).toList)
 (storeW H45 ⟨p,5,none⟩ [(.bool true)] fun H51=>
 callW PP fq13 #[(pq p)] H51 pSlc fun(x52:Sl) H53=>
 retK (some [(.slice x52.1 x52.2.1 x52.2.2)]) H53 R)
 (lw H45 b8 1 pStr fun(x54:ByteArray)=>
 callW PP fq14 #[(.agg #[(.int .i64 16),(.string x54),(.string (bs [])),(.string (bs [])),(.int .i64 0),(.int .i64 0)]),(.slice none 0 0)] H45 pSlc fun(x55:Sl) H56=>
 retK (some [(.slice x55.1 x55.2.1 x55.2.2)]) H56 R))))
 (forkB (x11==10)
 (lw H34 p 1 (pInt .i64) fun(x57:Int)=>
 storeW H34 ⟨p,1,none⟩ [(.int .i64 (IntKind.i64.wrap (x57+1)))] fun H58=>
 loopK (Sl×Unit) ((none,0,0),()) H58 fun z59 H60 next61=>
 joinK (Bool×Unit) (fun J62=>
 lw H60 p 4 pBool fun(x65:Bool)=>
 forkB (!x65)
 (callW PP fq55 #[(pq p),(.int .i64 11)] H60 pBool fun(x66:Bool) H67=>
 J62 ((!x66),()) H67)
 (J62 (false,()) H60)) fun y63 H64=>
 forkB y63.1
 (callW PP fq65 #[(pq p),(.bool fixed)] H64 pSlc fun(x68:Sl) H69=>
 newB H69 (.cells #[(.slice x68.1 x68.2.1 x68.2.2)] tq36) fun b70 H71=>
 appK H71 tq36 1 24 z59.1.1 z59.1.2.1 z59.1.2.2 (some ⟨b70,0,none⟩) 1 fun a72 c73 H74=>
 next61 ((a72,(z59.1.2.1+1),c73),()) H74)
 (callW PP fq14 #[(.agg #[(.int .i64 17),(.string (bs [])),(.string (bs [])),(.string (bs [])),(.int .i64 0),(.int .i64 0)]),(.slice z59.1.1 z59.1.2.1 z59.1.2.2)] H64 pSlc fun(x75:Sl) H76=>
 retK (some [(.slice x75.1 x75.2.1 x75.2.2)]) H76 R))
 (forkB (x11==12)
 (lw H34 p 1 (pInt .i64) fun(x77:Int)=>
 storeW H34 ⟨p,1,none⟩ [(.int .i64 (IntKind.i64.wrap (x77+1)))] fun H78=>
 loopK (Sl×Unit) ((none,0,0),()) H78 fun z79 H80 next81=>
 joinK (Bool×Unit) (fun J82=>
 lw H80 p 4 pBool fun(x85:Bool)=>
 forkB (!x85)
 (callW PP fq55 #[(pq p),(.int .i64 14)] H80 pBool fun(x86:Bool) H87=>
 J82 ((!x86),()) H87)
 (J82 (false,()) H80)) fun y83 H84=>
 forkB y83.1
 (callW PP fq22 #[(pq p)] H84 pStr fun(x88:ByteArray) H89=>
 newB H89 (.cells #[(.int .i64 0),(.string (bs [])),(.string (bs [])),(.string (bs [])),(.int .i64 0),(.int .i64 0)] tq63) fun b90 H91=>
 storeW H91 ⟨b90,0,none⟩ [(.int .i64 19),(.string x88),(.string (bs [])),(.string (bs [])),(.int .i64 0),(.int .i64 0)] fun H92=>
 callW PP fq53 #[(pq p),(.int .i64 7)] H92 pUn fun(_:Unit) H94=>
 loadW H94 true 6 ⟨b90,0,none⟩ pNd fun(x95:Int×ByteArray×ByteArray×ByteArray×Int×Int)=>
 callW PP fq65 #[(pq p),(.bool fixed)] H94 pSlc fun(x96:Sl) H97=>
 loadC H97 true 6 ⟨b90,0,none⟩=some (.agg #[(.int .i64 x95.1),(.string x95.2.1),(.string x95.2.2.1),(.string x95.2.2.2.1),(.int .i64 x95.2.2.2.2.1),(.int .i64 x95.2.2.2.2.2)])∧
 newB H97 (.cells #[(.slice x96.1 x96.2.1 x96.2.2)] tq36) fun b98 H99=>
 loadC H99 true 6 ⟨b90,0,none⟩=some (.agg #[(.int .i64 x95.1),(.string x95.2.1),(.string x95.2.2.1),(.string x95.2.2.2.1),(.int .i64 x95.2.2.2.2.1),(.int .i64 x95.2.2.2.2.2)])∧
 callW PP fq14 #[(.agg #[(.int .i64 x95.1),(.string x95.2.1),(.string x95.2.2.1),(.string x95.2.2.2.1),(.int .i64 x95.2.2.2.2.1),(.int .i64 x95.2.2.2.2.2)]),(.slice (some ⟨b98,0,none⟩) 1 1)] H99 pSlc fun(x100:Sl) H101=>
 newB H101 (.cells #[(.slice x100.1 x100.2.1 x100.2.2)] tq36) fun b102 H103=>
 appK H103 tq36 1 24 z79.1.1 z79.1.2.1 z79.1.2.2 (some ⟨b102,0,none⟩) 1 fun a104 c105 H106=>
 next81 ((a104,(z79.1.2.1+1),c105),()) H106)
 (callW PP fq14 #[(.agg #[(.int .i64 18),(.string (bs [])),(.string (bs [])),(.string (bs [])),(.int .i64 0),(.int .i64 0)]),(.slice z79.1.1 z79.1.2.1 z79.1.2.2)] H84 pSlc fun(x107:Sl) H108=>
 retK (some [(.slice x107.1 x107.2.1 x107.2.2)]) H108 R))
 (J35 (false,()) H34))))) fun _y36 H37=>
 J23 (false,()) H37)) fun _y24 H25=>
 callW PP fq13 #[(pq p)] H25 pSlc fun(x109:Sl) H110=>
 retK (some [(.slice x109.1 x109.2.1 x109.2.2)]) H110 R))
theorem spValueHere.enter (p:Nat) (fixed:Bool) (H:Heap) (R:RR) (h:spValueHere.W p fixed H R):Fn PP fq89 #[(pq p),(.bool fixed)] H R:=
 fnS mixed Tryz.func89 ⟨patL [(12,(pInt .i64)),(16,pSlc),(20,pSlc),(24,pSlc),(28,(pInt .i64)),(30,⟨Int×ByteArray×Int×Int,fun x=>(.agg #[(.int .i64 x.1),(.string x.2.1),(.int .i64 x.2.2.1),(.int .i64 x.2.2.2)])⟩),(32,(pInt .i64)),(37,pSlc),(41,(pInt .i64)),(46,pStr),(48,pSlc),(55,(pInt .i64)),(60,(pInt .i64)),(64,pStr),(66,pSlc),(73,(pInt .i64)),(78,pStr),(80,(pInt .i64)),(83,pSlc),(89,(pInt .i64)),(94,pStr),(98,pSlc),(102,pSlc),(109,pSlc),(111,pStr),(113,pSlc),(119,(pInt .i64)),(126,pBool),(130,pBool),(136,pSlc),(141,pSlc),(147,(pInt .i64)),(154,pBool),(158,pBool),(162,pStr),(165,pUn),(167,pNd),(170,pSlc),(172,pSlc),(177,pSlc),(179,pSlc)],loopL [(2,[Slot.slc 6]),(4,[Slot.slc 7])],joinL [(49,[Slot.bool 49]),(67,[Slot.bool 67])],joinL [],joinRL [(32,[Slot.bool 132],false),(38,[Slot.bool 160],false)]⟩ _ H R (Eq.mp (by unfold spValueHere.W;kernel_rfl) h)
def spBody.W (p:Nat) (begin_:Int) (end_:Int) (H:Heap) (R:RR):Prop:=
 lw H p 4 pBool fun(x1:Bool)=>
 forkB x1
 (retK (some [(.bool false)]) H R)
 (joinK (Bool×Unit) (fun J2=>
 callW PP fq19 #[(pq p),(.int .i64 0)] H (pInt .i64) fun(x5:Int) H6=>
 forkB (x5 !=begin_)
 (J2 (true,()) H6)
 (callW PP fq19 #[(pq p),(.int .i64 1)] H6 (pInt .i64) fun(x7:Int) H8=>
 J2 ((x7==end_),()) H8)) fun y3 H4=>
 forkB y3.1
 (storeW H4 ⟨p,5,none⟩ [(.bool true)] fun H9=>
 callW PP fq13 #[(pq p)] H9 pSlc fun(_x10:Sl) H11=>
 retK (some [(.bool false)]) H11 R)
 (lw H4 p 1 (pInt .i64) fun(x12:Int)=>
 storeW H4 ⟨p,1,none⟩ [(.int .i64 (IntKind.i64.wrap (x12+1)))] fun H13=>
 retK (some [(.bool true)]) H13 R))
theorem spBody.enter (p:Nat) (begin_:Int) (end_:Int) (H:Heap) (R:RR) (h:spBody.W p begin_ end_ H R):Fn PP fq62 #[(pq p),(.int .i64 begin_),(.int .i64 end_)] H R:=
 fnS mixed Tryz.func62 ⟨patL [(10,pBool),(12,(pInt .i64)),(17,(pInt .i64)),(25,pSlc),(29,(pInt .i64))],loopL [],joinL [],joinL [],joinRL [(3,[Slot.bool 20],false)]⟩ _ H R (Eq.mp (by unfold spBody.W;kernel_rfl) h)
def spSchema.W (p:Nat) (text:Option Addr) (textN textC:Nat) (H:Heap) (R:RR):Prop:=
 callW PP fq26 #[(pq p),(.bool true)] H pSlc fun(x1:Sl) H2=>
 newB H2 (.cells #[(.slice text textN textC),(.slice x1.1 x1.2.1 x1.2.2)] tq36) fun b3 H4=>
 callW PP fq53 #[(pq p),(.int .i64 12)] H4 pUn fun(_:Unit) H6=>
 callW PP fq54 #[(pq p),(.int .i64 14)] H6 pUn fun(_:Unit) H8=>
 loopK (Sl×Int×Unit) (((some ⟨b3,0,none⟩),2,2),0,()) H8 fun z9 H10 next11=>
 joinK (Bool×Unit) (fun J12=>
 lw H10 p 4 pBool fun(x15:Bool)=>
 forkB (!x15)
 (forkB (z9.2.1==0)
 (J12 (true,()) H10)
 (callW PP fq55 #[(pq p),(.int .i64 14)] H10 pBool fun(x16:Bool) H17=>
 J12 ((!x16),()) H17))
 (J12 (false,()) H10)) fun y13 H14=>
 forkB y13.1
 (callW PP fq22 #[(pq p)] H14 pStr fun(x18:ByteArray) H19=>
 newB H19 (.cells #[(.int .i64 0),(.string (bs [])),(.string (bs [])),(.string (bs [])),(.int .i64 0),(.int .i64 0)] tq63) fun b20 H21=>
 storeW H21 ⟨b20,0,none⟩ [(.int .i64 25),(.string (bs [])),(.string (bs [])),(.string x18),(.int .i64 0),(.int .i64 0)] fun H22=>
 joinPK (Bool×Unit) H22 (fun J23=>
 lw H22 b20 3 pStr fun(x25:ByteArray)=>
 forkB (!(x25.toList==(bs [113,117,101,114,121]).toList))
 (lw H22 b20 3 pStr fun(x26:ByteArray)=>
 forkB (!(x26.toList==(bs [109,117,116,97,116,105,111,110]).toList))
 (lw H22 b20 3 pStr fun(x27:ByteArray)=>
 J23 ((!(x27.toList==(bs [115,117,98,115,99,114,105,112,116,105,111,110]).toList)),()) H22)
 (J23 (false,()) H22))
 (J23 (false,()) H22)) fun y24=>
 forkB y24.1
 (lw H22 p 1 (pInt .i64) fun(x28:Int)=>
 storeW H22 ⟨p,1,none⟩ [(.int .i64 (IntKind.i64.wrap (x28 -1)))] fun H29=>
 callW PP fq13 #[(pq p)] H29 pSlc fun(x30:Sl) H31=>
 retK (some [(.slice x30.1 x30.2.1 x30.2.2)]) H31 R)
 (callW PP fq53 #[(pq p),(.int .i64 7)] H22 pUn fun(_:Unit) H33=>
 callW PP fq22 #[(pq p)] H33 pStr fun(x34:ByteArray) H35=>
 storeW H35 ⟨b20,1,none⟩ [(.string x34)] fun H36=>
 loadW H36 true 6 ⟨b20,0,none⟩ pNd fun(x37:Int×ByteArray×ByteArray×ByteArray×Int×Int)=>
 callW PP fq14 #[(.agg #[(.int .i64 x37.1),(.string x37.2.1),(.string x37.2.2.1),(.string x37.2.2.2.1),(.int .i64 x37.2.2.2.2.1),(.int .i64 x37.2.2.2.2.2)]),(.slice none 0 0)] H36 pSlc fun(x38:Sl) H39=>
 newB H39 (.cells #[(.slice x38.1 x38.2.1 x38.2.2)] tq36) fun b40 H41=>
 appK H41 tq36 1 24 z9.1.1 z9.1.2.1 z9.1.2.2 (some ⟨b40,0,none⟩) 1 fun a42 c43 H44=>
 next11 ((a42,(z9.1.2.1+1),c43),(IntKind.i64.wrap (z9.2.1+1)),()) H44))
 (callW PP fq14 #[(.agg #[(.int .i64 24),(.string (bs [])),(.string (bs [])),(.string (bs [])),(.int .i64 0),(.int .i64 0)]),(.slice z9.1.1 z9.1.2.1 z9.1.2.2)] H14 pSlc fun(x45:Sl) H46=>
 retK (some [(.slice x45.1 x45.2.1 x45.2.2)]) H46 R)
theorem spSchema.enter (p:Nat) (text:Option Addr) (textN textC:Nat) (H:Heap) (R:RR) (h:spSchema.W p text textN textC H R):Fn PP fq25 #[(pq p),(.slice text textN textC)] H R:=
 fnS mixed Tryz.func25 ⟨patL [(10,pSlc),(13,pUn),(15,pUn),(19,pBool),(26,pBool),(33,pStr),(36,pStr),(40,pStr),(45,pStr),(51,(pInt .i64)),(56,pSlc),(58,pUn),(60,pStr),(63,pNd),(64,pSlc),(69,pSlc)],loopL [(0,[Slot.slc 5,Slot.int .i64 6])],joinL [],joinL [],joinRL [(5,[Slot.bool 29],false),(8,[Slot.bool 47],true)]⟩ _ H R (Eq.mp (by unfold spSchema.W;kernel_rfl) h)
def spObject.W (p:Nat) (text:Option Addr) (textN textC:Nat) (H:Heap) (R:RR):Prop:=
 callW PP fq22 #[(pq p)] H pStr fun(x1:ByteArray) H2=>
 newB H2 (.cells #[(.int .i64 0),(.string (bs [])),(.string (bs [])),(.string (bs [])),(.int .i64 0),(.int .i64 0)] tq63) fun b3 H4=>
 storeW H4 ⟨b3,0,none⟩ [(.int .i64 27),(.string x1),(.string (bs [])),(.string (bs [])),(.int .i64 0),(.int .i64 0)] fun H5=>
 newB H5 (.cells #[(.slice text textN textC)] tq36) fun b6 H7=>
 callW PP fq59 #[(pq p)] H7 pUn fun(_:Unit) H9=>
 callW PP fq28 #[(pq p),(.int .i64 0),(.string (bs [105,109,112,108,101,109,101,110,116,115]))] H9 pBool fun(x10:Bool) H11=>
 joinK (Sl×Unit) (fun J12=>
 forkB x10
 (lw H11 p 1 (pInt .i64) fun(x15:Int)=>
 storeW H11 ⟨p,1,none⟩ [(.int .i64 (IntKind.i64.wrap (x15+1)))] fun H16=>
 callW PP fq55 #[(pq p),(.int .i64 20)] H16 pBool fun(_x17:Bool) H18=>
 callW PP fq22 #[(pq p)] H18 pStr fun(x19:ByteArray) H20=>
 callW PP fq14 #[(.agg #[(.int .i64 28),(.string x19),(.string (bs [])),(.string (bs [])),(.int .i64 0),(.int .i64 0)]),(.slice none 0 0)] H20 pSlc fun(x21:Sl) H22=>
 newB H22 (.cells #[(.slice x21.1 x21.2.1 x21.2.2)] tq36) fun b23 H24=>
 appK H24 tq36 1 24 (some ⟨b6,0,none⟩) 1 1 (some ⟨b23,0,none⟩) 1 fun a25 c26 H27=>
 loopK (Sl×Unit) ((a25,(1+1),c26),()) H27 fun z28 H29 next30=>
 callW PP fq55 #[(pq p),(.int .i64 20)] H29 pBool fun(x31:Bool) H32=>
 forkB x31
 (callW PP fq22 #[(pq p)] H32 pStr fun(x33:ByteArray) H34=>
 callW PP fq14 #[(.agg #[(.int .i64 28),(.string x33),(.string (bs [])),(.string (bs [])),(.int .i64 0),(.int .i64 0)]),(.slice none 0 0)] H34 pSlc fun(x35:Sl) H36=>
 newB H36 (.cells #[(.slice x35.1 x35.2.1 x35.2.2)] tq36) fun b37 H38=>
 appK H38 tq36 1 24 z28.1.1 z28.1.2.1 z28.1.2.2 (some ⟨b37,0,none⟩) 1 fun a39 c40 H41=>
 next30 ((a39,(z28.1.2.1+1),c40),()) H41)
 (J12 ((z28.1.1,z28.1.2.1,z28.1.2.2),()) H32))
 (J12 (((some ⟨b6,0,none⟩),1,1),()) H11)) fun y13 H14=>
 loadW H14 true 6 ⟨b3,0,none⟩ pNd fun(x42:Int×ByteArray×ByteArray×ByteArray×Int×Int)=>
 callW PP fq26 #[(pq p),(.bool true)] H14 pSlc fun(x43:Sl) H44=>
 loadC H44 true 6 ⟨b3,0,none⟩=some (.agg #[(.int .i64 x42.1),(.string x42.2.1),(.string x42.2.2.1),(.string x42.2.2.2.1),(.int .i64 x42.2.2.2.2.1),(.int .i64 x42.2.2.2.2.2)])∧
 callW PP fq29 #[(pq p)] H44 pSlc fun(x45:Sl) H46=>
 loadC H46 true 6 ⟨b3,0,none⟩=some (.agg #[(.int .i64 x42.1),(.string x42.2.1),(.string x42.2.2.1),(.string x42.2.2.2.1),(.int .i64 x42.2.2.2.2.1),(.int .i64 x42.2.2.2.2.2)])∧
 newB H46 (.cells #[(.slice x43.1 x43.2.1 x43.2.2),(.slice x45.1 x45.2.1 x45.2.2)] tq36) fun b47 H48=>
 loadC H48 true 6 ⟨b3,0,none⟩=some (.agg #[(.int .i64 x42.1),(.string x42.2.1),(.string x42.2.2.1),(.string x42.2.2.2.1),(.int .i64 x42.2.2.2.2.1),(.int .i64 x42.2.2.2.2.2)])∧
 appK H48 tq36 1 24 y13.1.1 y13.1.2.1 y13.1.2.2 (some ⟨b47,0,none⟩) 2 fun a49 c50 H51=>
 loadC H51 true 6 ⟨b3,0,none⟩=some (.agg #[(.int .i64 x42.1),(.string x42.2.1),(.string x42.2.2.1),(.string x42.2.2.2.1),(.int .i64 x42.2.2.2.2.1),(.int .i64 x42.2.2.2.2.2)])∧
 callW PP fq14 #[(.agg #[(.int .i64 x42.1),(.string x42.2.1),(.string x42.2.2.1),(.string x42.2.2.2.1),(.int .i64 x42.2.2.2.2.1),(.int .i64 x42.2.2.2.2.2)]),(.slice a49 (y13.1.2.1+2) c50)] H51 pSlc fun(x52:Sl) H53=>
 retK (some [(.slice x52.1 x52.2.1 x52.2.2)]) H53 R
theorem spObject.enter (p:Nat) (text:Option Addr) (textN textC:Nat) (H:Heap) (R:RR) (h:spObject.W p text textN textC H R):Fn PP fq27 #[(pq p),(.slice text textN textC)] H R:=
 fnS mixed Tryz.func27 ⟨patL [(8,pStr),(13,pUn),(15,pBool),(19,(pInt .i64)),(24,pBool),(27,pStr),(29,pSlc),(33,pBool),(36,pStr),(38,pSlc),(41,pNd),(44,pSlc),(46,pSlc),(49,pSlc)],loopL [(0,[Slot.slc 6])],joinL [(15,[Slot.slc 6])],joinL [],joinRL []⟩ _ H R (Eq.mp (by unfold spObject.W;kernel_rfl) h)
def spFields.W (p:Nat) (H:Heap) (R:RR):Prop:=
 callW PP fq62 #[(pq p),(.int .i64 12),(.int .i64 14)] H pBool fun(x1:Bool) H2=>
 forkB (!x1)
 (retK (some [(.slice none 0 0)]) H2 R)
 (loopK (Sl×Int×Unit) ((none,0,0),0,()) H2 fun z3 H4 next5=>
 joinK (Bool×Unit) (fun J6=>
 lw H4 p 4 pBool fun(x9:Bool)=>
 forkB (!x9)
 (forkB (z3.2.1==0)
 (J6 (true,()) H4)
 (callW PP fq55 #[(pq p),(.int .i64 14)] H4 pBool fun(x10:Bool) H11=>
 J6 ((!x10),()) H11))
 (J6 (false,()) H4)) fun y7 H8=>
 forkB y7.1
 (callW PP fq63 #[(pq p)] H8 pSlc fun(x12:Sl) H13=>
 callW PP fq22 #[(pq p)] H13 pStr fun(x14:ByteArray) H15=>
 newB H15 (.cells #[(.int .i64 0),(.string (bs [])),(.string (bs [])),(.string (bs [])),(.int .i64 0),(.int .i64 0)] tq63) fun b16 H17=>
 storeW H17 ⟨b16,0,none⟩ [(.int .i64 29),(.string x14),(.string (bs [])),(.string (bs [])),(.int .i64 0),(.int .i64 0)] fun H18=>
 callW PP fq19 #[(pq p),(.int .i64 0)] H18 (pInt .i64) fun(x19:Int) H20=>
 joinK (Sl×Unit) (fun J21=>
 forkB (x19==4)
 (callW PP fq32 #[(pq p),(.int .i64 4),(.int .i64 5)] H20 pSlc fun(x24:Sl) H25=>
 J21 ((x24.1,x24.2.1,x24.2.2),()) H25)
 (J21 ((none,0,0),()) H20)) fun y22 H23=>
 callW PP fq53 #[(pq p),(.int .i64 7)] H23 pUn fun(_:Unit) H27=>
 callW PP fq64 #[(pq p)] H27 pSlc fun(x28:Sl) H29=>
 loadW H29 true 6 ⟨b16,0,none⟩ pNd fun(x30:Int×ByteArray×ByteArray×ByteArray×Int×Int)=>
 callW PP fq26 #[(pq p),(.bool true)] H29 pSlc fun(x31:Sl) H32=>
 loadC H32 true 6 ⟨b16,0,none⟩=some (.agg #[(.int .i64 x30.1),(.string x30.2.1),(.string x30.2.2.1),(.string x30.2.2.2.1),(.int .i64 x30.2.2.2.2.1),(.int .i64 x30.2.2.2.2.2)])∧
 newB H32 (.cells #[(.slice x12.1 x12.2.1 x12.2.2),(.slice y22.1.1 y22.1.2.1 y22.1.2.2),(.slice x28.1 x28.2.1 x28.2.2),(.slice x31.1 x31.2.1 x31.2.2)] tq36) fun b33 H34=>
 loadC H34 true 6 ⟨b16,0,none⟩=some (.agg #[(.int .i64 x30.1),(.string x30.2.1),(.string x30.2.2.1),(.string x30.2.2.2.1),(.int .i64 x30.2.2.2.2.1),(.int .i64 x30.2.2.2.2.2)])∧
 callW PP fq14 #[(.agg #[(.int .i64 x30.1),(.string x30.2.1),(.string x30.2.2.1),(.string x30.2.2.2.1),(.int .i64 x30.2.2.2.2.1),(.int .i64 x30.2.2.2.2.2)]),(.slice (some ⟨b33,0,none⟩) 4 4)] H34 pSlc fun(x35:Sl) H36=>
 appK H36 tq63 6 72 z3.1.1 z3.1.2.1 z3.1.2.2 x35.1 x35.2.1 fun a37 c38 H39=>
 next5 ((a37,(z3.1.2.1+x35.2.1),c38),(IntKind.i64.wrap (z3.2.1+1)),()) H39)
 (retK (some [(.slice z3.1.1 z3.1.2.1 z3.1.2.2)]) H8 R))
theorem spFields.enter (p:Nat) (H:Heap) (R:RR) (h:spFields.W p H R):Fn PP fq29 #[(pq p)] H R:=
 fnS mixed Tryz.func29 ⟨patL [(10,pBool),(15,pBool),(22,pBool),(29,pSlc),(31,pStr),(34,(pInt .i64)),(37,pSlc),(39,pUn),(41,pSlc),(43,pNd),(48,pSlc),(50,pSlc)],loopL [(0,[Slot.slc 3,Slot.int .i64 4])],joinL [(35,[Slot.slc 7])],joinL [],joinRL [(5,[Slot.bool 25],false)]⟩ _ H R (Eq.mp (by unfold spFields.W;kernel_rfl) h)
def spInputs.W (p:Nat) (begin_:Int) (end_:Int) (H:Heap) (R:RR):Prop:=
 callW PP fq62 #[(pq p),(.int .i64 begin_),(.int .i64 end_)] H pBool fun(x1:Bool) H2=>
 forkB (!x1)
 (retK (some [(.slice none 0 0)]) H2 R)
 (loopK (Sl×Int×Unit) ((none,0,0),0,()) H2 fun z3 H4 next5=>
 joinK (Bool×Unit) (fun J6=>
 lw H4 p 4 pBool fun(x9:Bool)=>
 forkB (!x9)
 (forkB (z3.2.1==0)
 (J6 (true,()) H4)
 (callW PP fq55 #[(pq p),(.int .i64 end_)] H4 pBool fun(x10:Bool) H11=>
 J6 ((!x10),()) H11))
 (J6 (false,()) H4)) fun y7 H8=>
 forkB y7.1
 (callW PP fq63 #[(pq p)] H8 pSlc fun(x12:Sl) H13=>
 callW PP fq22 #[(pq p)] H13 pStr fun(x14:ByteArray) H15=>
 newB H15 (.cells #[(.int .i64 0),(.string (bs [])),(.string (bs [])),(.string (bs [])),(.int .i64 0),(.int .i64 0)] tq63) fun b16 H17=>
 storeW H17 ⟨b16,0,none⟩ [(.int .i64 30),(.string x14),(.string (bs [])),(.string (bs [])),(.int .i64 0),(.int .i64 0)] fun H18=>
 callW PP fq53 #[(pq p),(.int .i64 7)] H18 pUn fun(_:Unit) H20=>
 callW PP fq64 #[(pq p)] H20 pSlc fun(x21:Sl) H22=>
 callW PP fq55 #[(pq p),(.int .i64 8)] H22 pBool fun(x23:Bool) H24=>
 joinK (Sl×Unit) (fun J25=>
 forkB x23
 (callW PP fq65 #[(pq p),(.bool true)] H24 pSlc fun(x28:Sl) H29=>
 J25 ((x28.1,x28.2.1,x28.2.2),()) H29)
 (J25 ((none,0,0),()) H24)) fun y26 H27=>
 loadW H27 true 6 ⟨b16,0,none⟩ pNd fun(x30:Int×ByteArray×ByteArray×ByteArray×Int×Int)=>
 callW PP fq26 #[(pq p),(.bool true)] H27 pSlc fun(x31:Sl) H32=>
 loadC H32 true 6 ⟨b16,0,none⟩=some (.agg #[(.int .i64 x30.1),(.string x30.2.1),(.string x30.2.2.1),(.string x30.2.2.2.1),(.int .i64 x30.2.2.2.2.1),(.int .i64 x30.2.2.2.2.2)])∧
 newB H32 (.cells #[(.slice x12.1 x12.2.1 x12.2.2),(.slice x21.1 x21.2.1 x21.2.2),(.slice y26.1.1 y26.1.2.1 y26.1.2.2),(.slice x31.1 x31.2.1 x31.2.2)] tq36) fun b33 H34=>
 loadC H34 true 6 ⟨b16,0,none⟩=some (.agg #[(.int .i64 x30.1),(.string x30.2.1),(.string x30.2.2.1),(.string x30.2.2.2.1),(.int .i64 x30.2.2.2.2.1),(.int .i64 x30.2.2.2.2.2)])∧
 callW PP fq14 #[(.agg #[(.int .i64 x30.1),(.string x30.2.1),(.string x30.2.2.1),(.string x30.2.2.2.1),(.int .i64 x30.2.2.2.2.1),(.int .i64 x30.2.2.2.2.2)]),(.slice (some ⟨b33,0,none⟩) 4 4)] H34 pSlc fun(x35:Sl) H36=>
 appK H36 tq63 6 72 z3.1.1 z3.1.2.1 z3.1.2.2 x35.1 x35.2.1 fun a37 c38 H39=>
 next5 ((a37,(z3.1.2.1+x35.2.1),c38),(IntKind.i64.wrap (z3.2.1+1)),()) H39)
 (retK (some [(.slice z3.1.1 z3.1.2.1 z3.1.2.2)]) H8 R))
theorem spInputs.enter (p:Nat) (begin_:Int) (end_:Int) (H:Heap) (R:RR) (h:spInputs.W p begin_ end_ H R):Fn PP fq32 #[(pq p),(.int .i64 begin_),(.int .i64 end_)] H R:=
 fnS mixed Tryz.func32 ⟨patL [(16,pBool),(21,pBool),(29,pBool),(36,pSlc),(38,pStr),(41,pUn),(43,pSlc),(45,pBool),(47,pSlc),(49,pNd),(54,pSlc),(56,pSlc)],loopL [(0,[Slot.slc 7,Slot.int .i64 8])],joinL [(45,[Slot.slc 12])],joinL [],joinRL [(5,[Slot.bool 32],false)]⟩ _ H R (Eq.mp (by unfold spInputs.W;kernel_rfl) h)
def spUnion.W (p:Nat) (text:Option Addr) (textN textC:Nat) (H:Heap) (R:RR):Prop:=
 callW PP fq22 #[(pq p)] H pStr fun(x1:ByteArray) H2=>
 newB H2 (.cells #[(.int .i64 0),(.string (bs [])),(.string (bs [])),(.string (bs [])),(.int .i64 0),(.int .i64 0)] tq63) fun b3 H4=>
 storeW H4 ⟨b3,0,none⟩ [(.int .i64 32),(.string x1),(.string (bs [])),(.string (bs [])),(.int .i64 0),(.int .i64 0)] fun H5=>
 callW PP fq26 #[(pq p),(.bool true)] H5 pSlc fun(x6:Sl) H7=>
 newB H7 (.cells #[(.slice text textN textC),(.slice x6.1 x6.2.1 x6.2.2)] tq36) fun b8 H9=>
 joinK (Bool×Unit) (fun J10=>
 lw H9 p 4 pBool fun(x13:Bool)=>
 forkB (!x13)
 (callW PP fq19 #[(pq p),(.int .i64 0)] H9 (pInt .i64) fun(x14:Int) H15=>
 J10 ((x14 !=8),()) H15)
 (J10 (false,()) H9)) fun y11 H12=>
 forkB y11.1
 (storeW H12 ⟨p,5,none⟩ [(.bool true)] fun H16=>
 callW PP fq13 #[(pq p)] H16 pSlc fun(x17:Sl) H18=>
 retK (some [(.slice x17.1 x17.2.1 x17.2.2)]) H18 R)
 (callW PP fq53 #[(pq p),(.int .i64 8)] H12 pUn fun(_:Unit) H20=>
 lw H20 p 5 pBool fun(x21:Bool)=>
 forkB x21
 (storeW H20 ⟨p,5,none⟩ [(.bool true)] fun H22=>
 callW PP fq55 #[(pq p),(.int .i64 13)] H22 pBool fun(_x23:Bool) H24=>
 callW PP fq22 #[(pq p)] H24 pStr fun(x25:ByteArray) H26=>
 callW PP fq14 #[(.agg #[(.int .i64 33),(.string x25),(.string (bs [])),(.string (bs [])),(.int .i64 0),(.int .i64 0)]),(.slice none 0 0)] H26 pSlc fun(x27:Sl) H28=>
 newB H28 (.cells #[(.slice x27.1 x27.2.1 x27.2.2)] tq36) fun b29 H30=>
 appK H30 tq36 1 24 (some ⟨b8,0,none⟩) 2 2 (some ⟨b29,0,none⟩) 1 fun a31 c32 H33=>
 loopK (Sl×Unit) ((a31,(2+1),c32),()) H33 fun z34 H35 next36=>
 callW PP fq55 #[(pq p),(.int .i64 13)] H35 pBool fun(x37:Bool) H38=>
 forkB x37
 (callW PP fq22 #[(pq p)] H38 pStr fun(x39:ByteArray) H40=>
 callW PP fq14 #[(.agg #[(.int .i64 33),(.string x39),(.string (bs [])),(.string (bs [])),(.int .i64 0),(.int .i64 0)]),(.slice none 0 0)] H40 pSlc fun(x41:Sl) H42=>
 newB H42 (.cells #[(.slice x41.1 x41.2.1 x41.2.2)] tq36) fun b43 H44=>
 appK H44 tq36 1 24 z34.1.1 z34.1.2.1 z34.1.2.2 (some ⟨b43,0,none⟩) 1 fun a45 c46 H47=>
 next36 ((a45,(z34.1.2.1+1),c46),()) H47)
 (loadW H38 true 6 ⟨b3,0,none⟩ pNd fun(x48:Int×ByteArray×ByteArray×ByteArray×Int×Int)=>
 callW PP fq14 #[(.agg #[(.int .i64 x48.1),(.string x48.2.1),(.string x48.2.2.1),(.string x48.2.2.2.1),(.int .i64 x48.2.2.2.2.1),(.int .i64 x48.2.2.2.2.2)]),(.slice z34.1.1 z34.1.2.1 z34.1.2.2)] H38 pSlc fun(x49:Sl) H50=>
 retK (some [(.slice x49.1 x49.2.1 x49.2.2)]) H50 R))
 (callW PP fq19 #[(pq p),(.int .i64 0)] H20 (pInt .i64) fun(x51:Int) H52=>
 storeW H52 ⟨p,5,none⟩ [(.bool (x51==13))] fun H53=>
 callW PP fq55 #[(pq p),(.int .i64 13)] H53 pBool fun(_x54:Bool) H55=>
 callW PP fq22 #[(pq p)] H55 pStr fun(x56:ByteArray) H57=>
 callW PP fq14 #[(.agg #[(.int .i64 33),(.string x56),(.string (bs [])),(.string (bs [])),(.int .i64 0),(.int .i64 0)]),(.slice none 0 0)] H57 pSlc fun(x58:Sl) H59=>
 newB H59 (.cells #[(.slice x58.1 x58.2.1 x58.2.2)] tq36) fun b60 H61=>
 appK H61 tq36 1 24 (some ⟨b8,0,none⟩) 2 2 (some ⟨b60,0,none⟩) 1 fun a62 c63 H64=>
 loopK (Sl×Unit) ((a62,(2+1),c63),()) H64 fun z65 H66 next67=>
 callW PP fq55 #[(pq p),(.int .i64 13)] H66 pBool fun(x68:Bool) H69=>
 forkB x68
 (callW PP fq22 #[(pq p)] H69 pStr fun(x70:ByteArray) H71=>
 callW PP fq14 #[(.agg #[(.int .i64 33),(.string x70),(.string (bs [])),(.string (bs [])),(.int .i64 0),(.int .i64 0)]),(.slice none 0 0)] H71 pSlc fun(x72:Sl) H73=>
 newB H73 (.cells #[(.slice x72.1 x72.2.1 x72.2.2)] tq36) fun b74 H75=>
 appK H75 tq36 1 24 z65.1.1 z65.1.2.1 z65.1.2.2 (some ⟨b74,0,none⟩) 1 fun a76 c77 H78=>
 next67 ((a76,(z65.1.2.1+1),c77),()) H78)
 (loadW H69 true 6 ⟨b3,0,none⟩ pNd fun(x79:Int×ByteArray×ByteArray×ByteArray×Int×Int)=>
 callW PP fq14 #[(.agg #[(.int .i64 x79.1),(.string x79.2.1),(.string x79.2.2.1),(.string x79.2.2.2.1),(.int .i64 x79.2.2.2.2.1),(.int .i64 x79.2.2.2.2.2)]),(.slice z65.1.1 z65.1.2.1 z65.1.2.2)] H69 pSlc fun(x80:Sl) H81=>
 retK (some [(.slice x80.1 x80.2.1 x80.2.2)]) H81 R)))
theorem spUnion.enter (p:Nat) (text:Option Addr) (textN textC:Nat) (H:Heap) (R:RR) (h:spUnion.W p text textN textC H R):Fn PP fq30 #[(pq p),(.slice text textN textC)] H R:=
 fnS mixed Tryz.func30 ⟨patL [(8,pStr),(12,pSlc),(17,pBool),(21,(pInt .i64)),(28,pSlc),(30,pUn),(35,pBool),(38,(pInt .i64)),(44,pBool),(47,pStr),(49,pSlc),(53,pBool),(56,pStr),(58,pSlc),(61,pNd),(63,pSlc)],loopL [(0,[Slot.slc 6])],joinL [],joinL [],joinRL [(3,[Slot.bool 23],false)]⟩ _ H R (Eq.mp (by unfold spUnion.W;kernel_rfl) h)
def spEnum.W (p:Nat) (text:Option Addr) (textN textC:Nat) (H:Heap) (R:RR):Prop:=
 callW PP fq22 #[(pq p)] H pStr fun(x1:ByteArray) H2=>
 newB H2 (.cells #[(.int .i64 0),(.string (bs [])),(.string (bs [])),(.string (bs [])),(.int .i64 0),(.int .i64 0)] tq63) fun b3 H4=>
 storeW H4 ⟨b3,0,none⟩ [(.int .i64 34),(.string x1),(.string (bs [])),(.string (bs [])),(.int .i64 0),(.int .i64 0)] fun H5=>
 callW PP fq26 #[(pq p),(.bool true)] H5 pSlc fun(x6:Sl) H7=>
 newB H7 (.cells #[(.slice text textN textC),(.slice x6.1 x6.2.1 x6.2.2)] tq36) fun b8 H9=>
 callW PP fq62 #[(pq p),(.int .i64 12),(.int .i64 14)] H9 pBool fun(x10:Bool) H11=>
 forkB (!x10)
 (retK (some [(.slice none 0 0)]) H11 R)
 (loopK (Sl×Int×Unit) (((some ⟨b8,0,none⟩),2,2),0,()) H11 fun z12 H13 next14=>
 joinK (Bool×Unit) (fun J15=>
 lw H13 p 4 pBool fun(x18:Bool)=>
 forkB (!x18)
 (forkB (z12.2.1==0)
 (J15 (true,()) H13)
 (callW PP fq55 #[(pq p),(.int .i64 14)] H13 pBool fun(x19:Bool) H20=>
 J15 ((!x19),()) H20))
 (J15 (false,()) H13)) fun y16 H17=>
 forkB y16.1
 (callW PP fq63 #[(pq p)] H17 pSlc fun(x21:Sl) H22=>
 callW PP fq22 #[(pq p)] H22 pStr fun(x23:ByteArray) H24=>
 newB H24 (.cells #[(.int .i64 0),(.string (bs [])),(.string (bs [])),(.string (bs [])),(.int .i64 0),(.int .i64 0)] tq63) fun b25 H26=>
 storeW H26 ⟨b25,0,none⟩ [(.int .i64 35),(.string x23),(.string (bs [])),(.string (bs [])),(.int .i64 0),(.int .i64 0)] fun H27=>
 lw H27 p 5 pBool fun(x28:Bool)=>
 forkB x28
 (storeW H27 ⟨p,5,none⟩ [(.bool true)] fun H29=>
 loadW H29 true 6 ⟨b25,0,none⟩ pNd fun(x30:Int×ByteArray×ByteArray×ByteArray×Int×Int)=>
 callW PP fq26 #[(pq p),(.bool true)] H29 pSlc fun(x31:Sl) H32=>
 loadC H32 true 6 ⟨b25,0,none⟩=some (.agg #[(.int .i64 x30.1),(.string x30.2.1),(.string x30.2.2.1),(.string x30.2.2.2.1),(.int .i64 x30.2.2.2.2.1),(.int .i64 x30.2.2.2.2.2)])∧
 newB H32 (.cells #[(.slice x21.1 x21.2.1 x21.2.2),(.slice x31.1 x31.2.1 x31.2.2)] tq36) fun b33 H34=>
 loadC H34 true 6 ⟨b25,0,none⟩=some (.agg #[(.int .i64 x30.1),(.string x30.2.1),(.string x30.2.2.1),(.string x30.2.2.2.1),(.int .i64 x30.2.2.2.2.1),(.int .i64 x30.2.2.2.2.2)])∧
 callW PP fq14 #[(.agg #[(.int .i64 x30.1),(.string x30.2.1),(.string x30.2.2.1),(.string x30.2.2.2.1),(.int .i64 x30.2.2.2.2.1),(.int .i64 x30.2.2.2.2.2)]),(.slice (some ⟨b33,0,none⟩) 2 2)] H34 pSlc fun(x35:Sl) H36=>
 newB H36 (.cells #[(.slice x35.1 x35.2.1 x35.2.2)] tq36) fun b37 H38=>
 appK H38 tq36 1 24 z12.1.1 z12.1.2.1 z12.1.2.2 (some ⟨b37,0,none⟩) 1 fun a39 c40 H41=>
 next14 ((a39,(z12.1.2.1+1),c40),(IntKind.i64.wrap (z12.2.1+1)),()) H41)
 (lw H27 b25 1 pStr fun(x42:ByteArray)=>
 forkB (x42.toList==(bs [116,114,117,101]).toList)
 (storeW H27 ⟨p,5,none⟩ [(.bool true)] fun H43=>
 loadW H43 true 6 ⟨b25,0,none⟩ pNd fun(x44:Int×ByteArray×ByteArray×ByteArray×Int×Int)=>
 callW PP fq26 #[(pq p),(.bool true)] H43 pSlc fun(x45:Sl) H46=>
 loadC H46 true 6 ⟨b25,0,none⟩=some (.agg #[(.int .i64 x44.1),(.string x44.2.1),(.string x44.2.2.1),(.string x44.2.2.2.1),(.int .i64 x44.2.2.2.2.1),(.int .i64 x44.2.2.2.2.2)])∧
 newB H46 (.cells #[(.slice x21.1 x21.2.1 x21.2.2),(.slice x45.1 x45.2.1 x45.2.2)] tq36) fun b47 H48=>
 loadC H48 true 6 ⟨b25,0,none⟩=some (.agg #[(.int .i64 x44.1),(.string x44.2.1),(.string x44.2.2.1),(.string x44.2.2.2.1),(.int .i64 x44.2.2.2.2.1),(.int .i64 x44.2.2.2.2.2)])∧
 callW PP fq14 #[(.agg #[(.int .i64 x44.1),(.string x44.2.1),(.string x44.2.2.1),(.string x44.2.2.2.1),(.int .i64 x44.2.2.2.2.1),(.int .i64 x44.2.2.2.2.2)]),(.slice (some ⟨b47,0,none⟩) 2 2)] H48 pSlc fun(x49:Sl) H50=>
 newB H50 (.cells #[(.slice x49.1 x49.2.1 x49.2.2)] tq36) fun b51 H52=>
 appK H52 tq36 1 24 z12.1.1 z12.1.2.1 z12.1.2.2 (some ⟨b51,0,none⟩) 1 fun a53 c54 H55=>
 next14 ((a53,(z12.1.2.1+1),c54),(IntKind.i64.wrap (z12.2.1+1)),()) H55)
 (lw H27 b25 1 pStr fun(x56:ByteArray)=>
 forkB (x56.toList==(bs [102,97,108,115,101]).toList)
 (storeW H27 ⟨p,5,none⟩ [(.bool true)] fun H57=>
 loadW H57 true 6 ⟨b25,0,none⟩ pNd fun(x58:Int×ByteArray×ByteArray×ByteArray×Int×Int)=>
 callW PP fq26 #[(pq p),(.bool true)] H57 pSlc fun(x59:Sl) H60=>
 loadC H60 true 6 ⟨b25,0,none⟩=some (.agg #[(.int .i64 x58.1),(.string x58.2.1),(.string x58.2.2.1),(.string x58.2.2.2.1),(.int .i64 x58.2.2.2.2.1),(.int .i64 x58.2.2.2.2.2)])∧
 newB H60 (.cells #[(.slice x21.1 x21.2.1 x21.2.2),(.slice x59.1 x59.2.1 x59.2.2)] tq36) fun b61 H62=>
 loadC H62 true 6 ⟨b25,0,none⟩=some (.agg #[(.int .i64 x58.1),(.string x58.2.1),(.string x58.2.2.1),(.string x58.2.2.2.1),(.int .i64 x58.2.2.2.2.1),(.int .i64 x58.2.2.2.2.2)])∧
 callW PP fq14 #[(.agg #[(.int .i64 x58.1),(.string x58.2.1),(.string x58.2.2.1),(.string x58.2.2.2.1),(.int .i64 x58.2.2.2.2.1),(.int .i64 x58.2.2.2.2.2)]),(.slice (some ⟨b61,0,none⟩) 2 2)] H62 pSlc fun(x63:Sl) H64=>
 newB H64 (.cells #[(.slice x63.1 x63.2.1 x63.2.2)] tq36) fun b65 H66=>
 appK H66 tq36 1 24 z12.1.1 z12.1.2.1 z12.1.2.2 (some ⟨b65,0,none⟩) 1 fun a67 c68 H69=>
 next14 ((a67,(z12.1.2.1+1),c68),(IntKind.i64.wrap (z12.2.1+1)),()) H69)
 (lw H27 b25 1 pStr fun(x70:ByteArray)=>
 storeW H27 ⟨p,5,none⟩ [(.bool (x70.toList==(bs [110,117,108,108]).toList))] fun H71=>
 loadW H71 true 6 ⟨b25,0,none⟩ pNd fun(x72:Int×ByteArray×ByteArray×ByteArray×Int×Int)=>
 callW PP fq26 #[(pq p),(.bool true)] H71 pSlc fun(x73:Sl) H74=>
 loadC H74 true 6 ⟨b25,0,none⟩=some (.agg #[(.int .i64 x72.1),(.string x72.2.1),(.string x72.2.2.1),(.string x72.2.2.2.1),(.int .i64 x72.2.2.2.2.1),(.int .i64 x72.2.2.2.2.2)])∧
 newB H74 (.cells #[(.slice x21.1 x21.2.1 x21.2.2),(.slice x73.1 x73.2.1 x73.2.2)] tq36) fun b75 H76=>
 loadC H76 true 6 ⟨b25,0,none⟩=some (.agg #[(.int .i64 x72.1),(.string x72.2.1),(.string x72.2.2.1),(.string x72.2.2.2.1),(.int .i64 x72.2.2.2.2.1),(.int .i64 x72.2.2.2.2.2)])∧
 callW PP fq14 #[(.agg #[(.int .i64 x72.1),(.string x72.2.1),(.string x72.2.2.1),(.string x72.2.2.2.1),(.int .i64 x72.2.2.2.2.1),(.int .i64 x72.2.2.2.2.2)]),(.slice (some ⟨b75,0,none⟩) 2 2)] H76 pSlc fun(x77:Sl) H78=>
 newB H78 (.cells #[(.slice x77.1 x77.2.1 x77.2.2)] tq36) fun b79 H80=>
 appK H80 tq36 1 24 z12.1.1 z12.1.2.1 z12.1.2.2 (some ⟨b79,0,none⟩) 1 fun a81 c82 H83=>
 next14 ((a81,(z12.1.2.1+1),c82),(IntKind.i64.wrap (z12.2.1+1)),()) H83))))
 (loadW H17 true 6 ⟨b3,0,none⟩ pNd fun(x84:Int×ByteArray×ByteArray×ByteArray×Int×Int)=>
 callW PP fq14 #[(.agg #[(.int .i64 x84.1),(.string x84.2.1),(.string x84.2.2.1),(.string x84.2.2.2.1),(.int .i64 x84.2.2.2.2.1),(.int .i64 x84.2.2.2.2.2)]),(.slice z12.1.1 z12.1.2.1 z12.1.2.2)] H17 pSlc fun(x85:Sl) H86=>
 retK (some [(.slice x85.1 x85.2.1 x85.2.2)]) H86 R))
theorem spEnum.enter (p:Nat) (text:Option Addr) (textN textC:Nat) (H:Heap) (R:RR) (h:spEnum.W p text textN textC H R):Fn PP fq31 #[(pq p),(.slice text textN textC)] H R:=
 fnS mixed Tryz.func31 ⟨patL [(11,pStr),(15,pSlc),(18,pBool),(23,pBool),(30,pBool),(37,pSlc),(39,pStr),(45,pBool),(48,pStr),(53,pStr),(58,pStr),(64,pNd),(67,pSlc),(69,pSlc),(72,pNd),(74,pSlc)],loopL [(0,[Slot.slc 6,Slot.int .i64 7])],joinL [],joinL [],joinRL [(6,[Slot.bool 33],false)]⟩ _ H R (Eq.mp (by unfold spEnum.W;kernel_rfl) h)
def spDefined.W (p:Nat) (text:Option Addr) (textN textC:Nat) (H:Heap) (R:RR):Prop:=
 callW PP fq53 #[(pq p),(.int .i64 9)] H pUn fun(_:Unit) H2=>
 callW PP fq22 #[(pq p)] H2 pStr fun(x3:ByteArray) H4=>
 newB H4 (.cells #[(.int .i64 0),(.string (bs [])),(.string (bs [])),(.string (bs [])),(.int .i64 0),(.int .i64 0)] tq63) fun b5 H6=>
 storeW H6 ⟨b5,0,none⟩ [(.int .i64 37),(.string x3),(.string (bs [])),(.string (bs [])),(.int .i64 0),(.int .i64 0)] fun H7=>
 newB H7 (.cells #[(.slice text textN textC)] tq36) fun b8 H9=>
 callW PP fq19 #[(pq p),(.int .i64 0)] H9 (pInt .i64) fun(x10:Int) H11=>
 joinK (Sl×Unit) (fun J12=>
 forkB (x10==4)
 (callW PP fq32 #[(pq p),(.int .i64 4),(.int .i64 5)] H11 pSlc fun(x15:Sl) H16=>
 newB H16 (.cells #[(.slice x15.1 x15.2.1 x15.2.2)] tq36) fun b17 H18=>
 appK H18 tq36 1 24 (some ⟨b8,0,none⟩) 1 1 (some ⟨b17,0,none⟩) 1 fun a19 c20 H21=>
 J12 ((a19,(1+1),c20),()) H21)
 (J12 (((some ⟨b8,0,none⟩),1,1),()) H11)) fun y13 H14=>
 lw H14 p 5 pBool fun(x22:Bool)=>
 forkB x22
 (storeW H14 ⟨p,5,none⟩ [(.bool true)] fun H23=>
 callW PP fq59 #[(pq p)] H23 pUn fun(_:Unit) H25=>
 callW PP fq28 #[(pq p),(.int .i64 0),(.string (bs [111,110]))] H25 pBool fun(x26:Bool) H27=>
 forkB (!x26)
 (callW PP fq13 #[(pq p)] H27 pSlc fun(x28:Sl) H29=>
 retK (some [(.slice x28.1 x28.2.1 x28.2.2)]) H29 R)
 (lw H27 p 1 (pInt .i64) fun(x30:Int)=>
 storeW H27 ⟨p,1,none⟩ [(.int .i64 (IntKind.i64.wrap (x30+1)))] fun H31=>
 lw H31 p 5 pBool fun(x32:Bool)=>
 forkB x32
 (storeW H31 ⟨p,5,none⟩ [(.bool true)] fun H33=>
 callW PP fq55 #[(pq p),(.int .i64 13)] H33 pBool fun(_x34:Bool) H35=>
 callW PP fq66 #[(pq p)] H35 pStr fun(x36:ByteArray) H37=>
 callW PP fq14 #[(.agg #[(.int .i64 38),(.string x36),(.string (bs [])),(.string (bs [])),(.int .i64 0),(.int .i64 0)]),(.slice none 0 0)] H37 pSlc fun(x38:Sl) H39=>
 newB H39 (.cells #[(.slice x38.1 x38.2.1 x38.2.2)] tq36) fun b40 H41=>
 appK H41 tq36 1 24 y13.1.1 y13.1.2.1 y13.1.2.2 (some ⟨b40,0,none⟩) 1 fun a42 c43 H44=>
 loopK (Sl×Unit) ((a42,(y13.1.2.1+1),c43),()) H44 fun z45 H46 next47=>
 callW PP fq55 #[(pq p),(.int .i64 13)] H46 pBool fun(x48:Bool) H49=>
 forkB x48
 (callW PP fq66 #[(pq p)] H49 pStr fun(x50:ByteArray) H51=>
 callW PP fq14 #[(.agg #[(.int .i64 38),(.string x50),(.string (bs [])),(.string (bs [])),(.int .i64 0),(.int .i64 0)]),(.slice none 0 0)] H51 pSlc fun(x52:Sl) H53=>
 newB H53 (.cells #[(.slice x52.1 x52.2.1 x52.2.2)] tq36) fun b54 H55=>
 appK H55 tq36 1 24 z45.1.1 z45.1.2.1 z45.1.2.2 (some ⟨b54,0,none⟩) 1 fun a56 c57 H58=>
 next47 ((a56,(z45.1.2.1+1),c57),()) H58)
 (loadW H49 true 6 ⟨b5,0,none⟩ pNd fun(x59:Int×ByteArray×ByteArray×ByteArray×Int×Int)=>
 callW PP fq14 #[(.agg #[(.int .i64 x59.1),(.string x59.2.1),(.string x59.2.2.1),(.string x59.2.2.2.1),(.int .i64 x59.2.2.2.2.1),(.int .i64 x59.2.2.2.2.2)]),(.slice z45.1.1 z45.1.2.1 z45.1.2.2)] H49 pSlc fun(x60:Sl) H61=>
 retK (some [(.slice x60.1 x60.2.1 x60.2.2)]) H61 R))
 (callW PP fq19 #[(pq p),(.int .i64 0)] H31 (pInt .i64) fun(x62:Int) H63=>
 storeW H63 ⟨p,5,none⟩ [(.bool (x62==13))] fun H64=>
 callW PP fq55 #[(pq p),(.int .i64 13)] H64 pBool fun(_x65:Bool) H66=>
 callW PP fq66 #[(pq p)] H66 pStr fun(x67:ByteArray) H68=>
 callW PP fq14 #[(.agg #[(.int .i64 38),(.string x67),(.string (bs [])),(.string (bs [])),(.int .i64 0),(.int .i64 0)]),(.slice none 0 0)] H68 pSlc fun(x69:Sl) H70=>
 newB H70 (.cells #[(.slice x69.1 x69.2.1 x69.2.2)] tq36) fun b71 H72=>
 appK H72 tq36 1 24 y13.1.1 y13.1.2.1 y13.1.2.2 (some ⟨b71,0,none⟩) 1 fun a73 c74 H75=>
 loopK (Sl×Unit) ((a73,(y13.1.2.1+1),c74),()) H75 fun z76 H77 next78=>
 callW PP fq55 #[(pq p),(.int .i64 13)] H77 pBool fun(x79:Bool) H80=>
 forkB x79
 (callW PP fq66 #[(pq p)] H80 pStr fun(x81:ByteArray) H82=>
 callW PP fq14 #[(.agg #[(.int .i64 38),(.string x81),(.string (bs [])),(.string (bs [])),(.int .i64 0),(.int .i64 0)]),(.slice none 0 0)] H82 pSlc fun(x83:Sl) H84=>
 newB H84 (.cells #[(.slice x83.1 x83.2.1 x83.2.2)] tq36) fun b85 H86=>
 appK H86 tq36 1 24 z76.1.1 z76.1.2.1 z76.1.2.2 (some ⟨b85,0,none⟩) 1 fun a87 c88 H89=>
 next78 ((a87,(z76.1.2.1+1),c88),()) H89)
 (loadW H80 true 6 ⟨b5,0,none⟩ pNd fun(x90:Int×ByteArray×ByteArray×ByteArray×Int×Int)=>
 callW PP fq14 #[(.agg #[(.int .i64 x90.1),(.string x90.2.1),(.string x90.2.2.1),(.string x90.2.2.2.1),(.int .i64 x90.2.2.2.2.1),(.int .i64 x90.2.2.2.2.2)]),(.slice z76.1.1 z76.1.2.1 z76.1.2.2)] H80 pSlc fun(x91:Sl) H92=>
 retK (some [(.slice x91.1 x91.2.1 x91.2.2)]) H92 R))))
 (callW PP fq28 #[(pq p),(.int .i64 0),(.string (bs [114,101,112,101,97,116,97,98,108,101]))] H14 pBool fun(x93:Bool) H94=>
 storeW H94 ⟨p,5,none⟩ [(.bool x93)] fun H95=>
 callW PP fq59 #[(pq p)] H95 pUn fun(_:Unit) H97=>
 callW PP fq28 #[(pq p),(.int .i64 0),(.string (bs [111,110]))] H97 pBool fun(x98:Bool) H99=>
 forkB (!x98)
 (callW PP fq13 #[(pq p)] H99 pSlc fun(x100:Sl) H101=>
 retK (some [(.slice x100.1 x100.2.1 x100.2.2)]) H101 R)
 (lw H99 p 1 (pInt .i64) fun(x102:Int)=>
 storeW H99 ⟨p,1,none⟩ [(.int .i64 (IntKind.i64.wrap (x102+1)))] fun H103=>
 lw H103 p 5 pBool fun(x104:Bool)=>
 forkB x104
 (storeW H103 ⟨p,5,none⟩ [(.bool true)] fun H105=>
 callW PP fq55 #[(pq p),(.int .i64 13)] H105 pBool fun(_x106:Bool) H107=>
 callW PP fq66 #[(pq p)] H107 pStr fun(x108:ByteArray) H109=>
 callW PP fq14 #[(.agg #[(.int .i64 38),(.string x108),(.string (bs [])),(.string (bs [])),(.int .i64 0),(.int .i64 0)]),(.slice none 0 0)] H109 pSlc fun(x110:Sl) H111=>
 newB H111 (.cells #[(.slice x110.1 x110.2.1 x110.2.2)] tq36) fun b112 H113=>
 appK H113 tq36 1 24 y13.1.1 y13.1.2.1 y13.1.2.2 (some ⟨b112,0,none⟩) 1 fun a114 c115 H116=>
 loopK (Sl×Unit) ((a114,(y13.1.2.1+1),c115),()) H116 fun z117 H118 next119=>
 callW PP fq55 #[(pq p),(.int .i64 13)] H118 pBool fun(x120:Bool) H121=>
 forkB x120
 (callW PP fq66 #[(pq p)] H121 pStr fun(x122:ByteArray) H123=>
 callW PP fq14 #[(.agg #[(.int .i64 38),(.string x122),(.string (bs [])),(.string (bs [])),(.int .i64 0),(.int .i64 0)]),(.slice none 0 0)] H123 pSlc fun(x124:Sl) H125=>
 newB H125 (.cells #[(.slice x124.1 x124.2.1 x124.2.2)] tq36) fun b126 H127=>
 appK H127 tq36 1 24 z117.1.1 z117.1.2.1 z117.1.2.2 (some ⟨b126,0,none⟩) 1 fun a128 c129 H130=>
 next119 ((a128,(z117.1.2.1+1),c129),()) H130)
 (loadW H121 true 6 ⟨b5,0,none⟩ pNd fun(x131:Int×ByteArray×ByteArray×ByteArray×Int×Int)=>
 callW PP fq14 #[(.agg #[(.int .i64 x131.1),(.string x131.2.1),(.string x131.2.2.1),(.string x131.2.2.2.1),(.int .i64 x131.2.2.2.2.1),(.int .i64 x131.2.2.2.2.2)]),(.slice z117.1.1 z117.1.2.1 z117.1.2.2)] H121 pSlc fun(x132:Sl) H133=>
 retK (some [(.slice x132.1 x132.2.1 x132.2.2)]) H133 R))
 (callW PP fq19 #[(pq p),(.int .i64 0)] H103 (pInt .i64) fun(x134:Int) H135=>
 storeW H135 ⟨p,5,none⟩ [(.bool (x134==13))] fun H136=>
 callW PP fq55 #[(pq p),(.int .i64 13)] H136 pBool fun(_x137:Bool) H138=>
 callW PP fq66 #[(pq p)] H138 pStr fun(x139:ByteArray) H140=>
 callW PP fq14 #[(.agg #[(.int .i64 38),(.string x139),(.string (bs [])),(.string (bs [])),(.int .i64 0),(.int .i64 0)]),(.slice none 0 0)] H140 pSlc fun(x141:Sl) H142=>
 newB H142 (.cells #[(.slice x141.1 x141.2.1 x141.2.2)] tq36) fun b143 H144=>
 appK H144 tq36 1 24 y13.1.1 y13.1.2.1 y13.1.2.2 (some ⟨b143,0,none⟩) 1 fun a145 c146 H147=>
 loopK (Sl×Unit) ((a145,(y13.1.2.1+1),c146),()) H147 fun z148 H149 next150=>
 callW PP fq55 #[(pq p),(.int .i64 13)] H149 pBool fun(x151:Bool) H152=>
 forkB x151
 (callW PP fq66 #[(pq p)] H152 pStr fun(x153:ByteArray) H154=>
 callW PP fq14 #[(.agg #[(.int .i64 38),(.string x153),(.string (bs [])),(.string (bs [])),(.int .i64 0),(.int .i64 0)]),(.slice none 0 0)] H154 pSlc fun(x155:Sl) H156=>
 newB H156 (.cells #[(.slice x155.1 x155.2.1 x155.2.2)] tq36) fun b157 H158=>
 appK H158 tq36 1 24 z148.1.1 z148.1.2.1 z148.1.2.2 (some ⟨b157,0,none⟩) 1 fun a159 c160 H161=>
 next150 ((a159,(z148.1.2.1+1),c160),()) H161)
 (loadW H152 true 6 ⟨b5,0,none⟩ pNd fun(x162:Int×ByteArray×ByteArray×ByteArray×Int×Int)=>
 callW PP fq14 #[(.agg #[(.int .i64 x162.1),(.string x162.2.1),(.string x162.2.2.1),(.string x162.2.2.2.1),(.int .i64 x162.2.2.2.2.1),(.int .i64 x162.2.2.2.2.2)]),(.slice z148.1.1 z148.1.2.1 z148.1.2.2)] H152 pSlc fun(x163:Sl) H164=>
 retK (some [(.slice x163.1 x163.2.1 x163.2.2)]) H164 R))))
theorem spDefined.enter (p:Nat) (text:Option Addr) (textN textC:Nat) (H:Heap) (R:RR) (h:spDefined.W p text textN textC H R):Fn PP fq33 #[(pq p),(.slice text textN textC)] H R:=
 fnS mixed Tryz.func33 ⟨patL [(8,pUn),(10,pStr),(15,(pInt .i64)),(19,pSlc),(26,pBool),(29,pBool),(34,pUn),(36,pBool),(39,pSlc),(43,(pInt .i64)),(51,pBool),(54,(pInt .i64)),(60,pBool),(63,pStr),(65,pSlc),(69,pBool),(72,pStr),(74,pSlc),(77,pNd),(79,pSlc)],loopL [(0,[Slot.slc 6])],joinL [(16,[Slot.slc 6])],joinL [],joinRL []⟩ _ H R (Eq.mp (by unfold spDefined.W;kernel_rfl) h)
def spLocation.W (p:Nat) (H:Heap) (R:RR):Prop:=
 callW PP fq22 #[(pq p)] H pStr fun(x1:ByteArray) H2=>
 newB H2 (.cells #[(.string (bs [81,85,69,82,89])),(.string (bs [77,85,84,65,84,73,79,78])),(.string (bs [83,85,66,83,67,82,73,80,84,73,79,78])),(.string (bs [70,73,69,76,68])),(.string (bs [70,82,65,71,77,69,78,84,95,68,69,70,73,78,73,84,73,79,78])),(.string (bs [70,82,65,71,77,69,78,84,95,83,80,82,69,65,68])),(.string (bs [73,78,76,73,78,69,95,70,82,65,71,77,69,78,84])),(.string (bs [86,65,82,73,65,66,76,69,95,68,69,70,73,78,73,84,73,79,78])),(.string (bs [83,67,72,69,77,65])),(.string (bs [83,67,65,76,65,82])),(.string (bs [79,66,74,69,67,84])),(.string (bs [70,73,69,76,68,95,68,69,70,73,78,73,84,73,79,78])),(.string (bs [65,82,71,85,77,69,78,84,95,68,69,70,73,78,73,84,73,79,78])),(.string (bs [73,78,84,69,82,70,65,67,69])),(.string (bs [85,78,73,79,78])),(.string (bs [69,78,85,77])),(.string (bs [69,78,85,77,95,86,65,76,85,69])),(.string (bs [73,78,80,85,84,95,79,66,74,69,67,84])),(.string (bs [73,78,80,85,84,95,70,73,69,76,68,95,68,69,70,73,78,73,84,73,79,78]))] tq9) fun b3 H4=>
 loopK (Int×Unit) (0,()) H4 fun z5 H6 next7=>
 forkB (decide (z5.1<((19:Nat):Int)))
 ((IxOk (some ⟨b3,0,none⟩) z5.1 19)∧
 loadW H6 false 1 ⟨b3,(0+z5.1.toNat*1),none⟩ pStr fun(x8:ByteArray)=>
 forkB (x8.toList==x1.toList)
 (retK (some [(.string x1)]) H6 R)
 (next7 ((IntKind.i64.wrap (z5.1+1)),()) H6))
 (storeW H6 ⟨p,5,none⟩ [(.bool true)] fun H9=>
 retK (some [(.string x1)]) H9 R)
theorem spLocation.enter (p:Nat) (H:Heap) (R:RR) (h:spLocation.W p H R):Fn PP fq66 #[(pq p)] H R:=
 fnS mixed Tryz.func66 ⟨patL [(7,pStr),(18,pStr)],loopL [(0,[Slot.int .i64 5])],joinL [],joinL [],joinRL []⟩ _ H R (Eq.mp (by unfold spLocation.W;kernel_rfl) h)
def Made.W (n:Nd) (kids:Option Addr) (kidsN _kidsC:Nat) (H:Heap) (R:RR):Prop:=
 newB H (.cells #[(.int .i64 n.kind),(.string n.name),(.string n.alias),(.string n.text),(.int .i64 n.flag),(.int .i64 n.size)] tq63) fun b1 H2=>
 loadW H2 true 6 ⟨b1,0,none⟩ pNd fun(x3:Int×ByteArray×ByteArray×ByteArray×Int×Int)=>
 newB H2 (.cells #[(.int .i64 x3.1),(.string x3.2.1),(.string x3.2.2.1),(.string x3.2.2.2.1),(.int .i64 x3.2.2.2.2.1),(.int .i64 x3.2.2.2.2.2)] tq63) fun b4 H5=>
 loopK (Sl×Int×Unit) (((some ⟨b4,0,none⟩),1,1),0,()) H5 fun z6 H7 next8=>
 forkB (decide (z6.2.1<((kidsN:Nat):Int)))
 ((IxOk kids z6.2.1 kidsN)∧
 loadW H7 false 1 ⟨(blkOf kids),(offOf kids+z6.2.1.toNat*1),none⟩ pSlc fun(x9:Sl)=>
 appK H7 tq63 6 72 z6.1.1 z6.1.2.1 z6.1.2.2 x9.1 x9.2.1 fun a10 c11 H12=>
 next8 ((a10,(z6.1.2.1+x9.2.1),c11),(IntKind.i64.wrap (z6.2.1+1)),()) H12)
 ((IxOk z6.1.1 0 z6.1.2.1)∧
 storeW H7 ⟨(blkOf z6.1.1),((offOf z6.1.1+(0:Int).toNat*6)+5),none⟩ [(.int .i64 ((z6.1.2.1:Nat):Int))] fun H13=>
 retK (some [(.slice z6.1.1 z6.1.2.1 z6.1.2.2)]) H13 R)
theorem Made.enter (n:Nd) (kids:Option Addr) (kidsN kidsC:Nat) (H:Heap) (R:RR) (h:Made.W n kids kidsN kidsC H R):Fn PP fq14 #[(.agg #[(.int .i64 n.kind),(.string n.name),(.string n.alias),(.string n.text),(.int .i64 n.flag),(.int .i64 n.size)]),(.slice kids kidsN kidsC)] H R:=
 fnS mixed Tryz.func14 ⟨patL [(7,pNd),(19,pSlc)],loopL [(0,[Slot.slc 5,Slot.int .i64 6])],joinL [],joinL [],joinRL []⟩ _ H R (Eq.mp (by unfold Made.W;kernel_rfl) h)
def RefusedAt.W (s:ByteArray) (H:Heap) (R:RR):Prop:=
 callW PP fq8 #[(.string s)] H ⟨Sl×Bool×Bool,fun x=>(.tuple #[(.slice x.1.1 x.1.2.1 x.1.2.2),(.bool x.2.1),(.bool x.2.2)])⟩ fun(x1:Sl×Bool×Bool) H2=>
 joinPK (Bool×Unit) H2 (fun J3=>
 forkB (!x1.2.1)
 (J3 (true,()) H2)
 (J3 ((!x1.2.2),()) H2)) fun y4=>
 forkB y4.1
 (retK (some [(.int .i64 0),(.bool false)]) H2 R)
 (newB H2 (.cells #[(.slice x1.1.1 x1.1.2.1 x1.1.2.2),(.int .i64 0),(.int .i64 0),(.int .i64 0),(.bool false),(.bool false)] tq35) fun b5 H6=>
 callW PP fq9 #[(pq b5)] H6 pSlc fun(_x7:Sl) H8=>
 joinPK (Bool×Unit) H8 (fun J9=>
 lw H8 b5 4 pBool fun(x11:Bool)=>
 forkB (!x11)
 (J9 (true,()) H8)
 (lw H8 b5 5 pBool fun(x12:Bool)=>
 J9 (x12,()) H8)) fun y10=>
 forkB y10.1
 (retK (some [(.int .i64 0),(.bool false)]) H8 R)
 (lw H8 b5 3 (pInt .i64) fun(x13:Int)=>
 forkB (decide (x13<((x1.1.2.1:Nat):Int)))
 (lw H8 b5 3 (pInt .i64) fun(x14:Int)=>
 (IxOk x1.1.1 x14 x1.1.2.1)∧
 loadW H8 false 1 ⟨(blkOf x1.1.1),((offOf x1.1.1+x14.toNat*4)+2),none⟩ (pInt .i64) fun(x15:Int)=>
 retK (some [(.int .i64 x15),(.bool true)]) H8 R)
 (retK (some [(.int .i64 ((s.size:Nat):Int)),(.bool true)]) H8 R)))
theorem RefusedAt.enter (s:ByteArray) (H:Heap) (R:RR) (h:RefusedAt.W s H R):Fn PP fq6 #[(.string s)] H R:=
 fnS mixed Tryz.func6 ⟨patL [(9,⟨Sl×Bool×Bool,fun x=>(.tuple #[(.slice x.1.1 x.1.2.1 x.1.2.2),(.bool x.2.1),(.bool x.2.2)])⟩),(23,pSlc),(28,pBool),(34,pBool),(40,(pInt .i64)),(48,(pInt .i64)),(51,(pInt .i64))],loopL [],joinL [],joinL [],joinRL [(2,[Slot.bool 18],true),(6,[Slot.bool 24],true)]⟩ _ H R (Eq.mp (by unfold RefusedAt.W;kernel_rfl) h)
def ascii9.W (s:ByteArray) (H:Heap) (R:RR):Prop:=
 loopK (Int×Unit) (0,()) H fun z1 H2 next3=>
 forkB (decide (z1.1<((s.size:Nat):Int)))
 (((0:Int)≤z1.1∧z1.1<((s.size:Nat):Int))∧
 forkB (decide ((bt s z1.1)≥128))
 (retK (some [(.bool false)]) H2 R)
 (next3 ((IntKind.i64.wrap (z1.1+1)),()) H2))
 (retK (some [(.bool true)]) H2 R)
theorem ascii9.enter (s:ByteArray) (H:Heap) (R:RR) (h:ascii9.W s H R):Fn PP fq5 #[(.string s)] H R:=
 fnS mixed Tryz.func5 ⟨patL [],loopL [(0,[Slot.int .i64 3])],joinL [],joinL [],joinRL []⟩ _ H R (Eq.mp (by unfold ascii9.W;kernel_rfl) h)
def FnRefusedBehind.W (text:ByteArray) (more:Int) (H:Heap) (R:RR):Prop:=
 forkB (decide (((text.size:Nat):Int)>2147483647))
 (retK (some [(.bool true)]) H R)
 (joinK (Bool×Unit) (fun J1=>
 forkB (decide (((text.size:Nat):Int)>300))
 (J1 (true,()) H)
 (callW PP fq5 #[(.string text)] H pBool fun(x4:Bool) H5=>
 J1 ((!x4),()) H5)) fun y2 H3=>
 forkB y2.1
 (retK (some [(.bool true)]) H3 R)
 (callW PP fq6 #[(.string text)] H3 ⟨Int×Bool,fun x=>(.tuple #[(.int .i64 x.1),(.bool x.2)])⟩ fun(x6:Int×Bool) H7=>
 joinPK (Bool×Unit) H7 (fun J8=>
 forkB (!x6.2)
 (J8 (true,()) H7)
 (forkB (decide (x6.1<0))
 (J8 (true,()) H7)
 (J8 ((decide (x6.1≥((text.size:Nat):Int))),()) H7))) fun y9=>
 forkB y9.1
 (retK (some [(.bool true)]) H7 R)
 (newB H7 (.cells #[(.string (bs [32,97])),(.string (bs [32,125])),(.string (bs [32,123,32,98,32,125])),(.string (bs [32,41])),(.string (bs [32,10,32,97]))] tq9) fun b10 H11=>
 (IxOk (some ⟨b10,0,none⟩) (Int.tmod more 5) 5)∧
 loadW H11 false 1 ⟨b10,(0+(Int.tmod more 5).toNat*1),none⟩ pStr fun(x12:ByteArray)=>
 (((text.size+x12.size:Nat):Int)≤9223372036854775807)∧
 callW PP fq6 #[(.string (text++x12))] H11 ⟨Int×Bool,fun x=>(.tuple #[(.int .i64 x.1),(.bool x.2)])⟩ fun(x13:Int×Bool) H14=>
 joinPK (Bool×Unit) H14 (fun J15=>
 forkB (!x13.2)
 (J15 (true,()) H14)
 (J15 ((x13.1 !=x6.1),()) H14)) fun y16=>
 forkB y16.1
 (retK (some [(.bool true)]) H14 R)
 (callW PP fq7 #[(.string text)] H14 ⟨Int×Int×Bool,fun x=>(.tuple #[(.int .i64 x.1),(.int .i64 x.2.1),(.bool x.2.2)])⟩ fun(x17:Int×Int×Bool) H18=>
 callW PP fq7 #[(.string (text++x12))] H18 ⟨Int×Int×Bool,fun x=>(.tuple #[(.int .i64 x.1),(.int .i64 x.2.1),(.bool x.2.2)])⟩ fun(x19:Int×Int×Bool) H20=>
 joinPK (Bool×Unit) H20 (fun J21=>
 forkB x17.2.2
 (forkB x19.2.2
 (forkB (x17.1==x19.1)
 (J21 ((x17.2.1==x19.2.1),()) H20)
 (J21 (false,()) H20))
 (J21 (false,()) H20))
 (J21 (false,()) H20)) fun y22=>
 retK (some [(.bool y22.1)]) H20 R))))
theorem FnRefusedBehind.enter (text:ByteArray) (more:Int) (H:Heap) (R:RR) (h:FnRefusedBehind.W text more H R):Fn PP fq3 #[(.string text),(.int .u8 more)] H R:=
 fnS mixed Tryz.func3 ⟨patL [(24,pBool),(29,⟨Int×Bool,fun x=>(.tuple #[(.int .i64 x.1),(.bool x.2)])⟩),(49,pStr),(53,⟨Int×Bool,fun x=>(.tuple #[(.int .i64 x.1),(.bool x.2)])⟩),(65,⟨Int×Int×Bool,fun x=>(.tuple #[(.int .i64 x.1),(.int .i64 x.2.1),(.bool x.2.2)])⟩),(71,⟨Int×Int×Bool,fun x=>(.tuple #[(.int .i64 x.1),(.int .i64 x.2.1),(.bool x.2.2)])⟩)],loopL [],joinL [],joinL [],joinRL [(3,[Slot.bool 26],false),(6,[Slot.bool 43],true),(10,[Slot.bool 62],true),(14,[Slot.bool 4],true)]⟩ _ H R (Eq.mp (by unfold FnRefusedBehind.W;kernel_rfl) h)
def FnRefusedLines.W (text:ByteArray) (lines:Int) (blanks:Int) (H:Heap) (R:RR):Prop:=
 forkB (decide (((text.size:Nat):Int)>2147483647))
 (retK (some [(.bool true)]) H R)
 (joinK (Bool×Unit) (fun J1=>
 forkB (decide (((text.size:Nat):Int)>300))
 (J1 (true,()) H)
 (callW PP fq5 #[(.string text)] H pBool fun(x4:Bool) H5=>
 forkB (!x4)
 (J1 (true,()) H5)
 (forkB (decide (lines>20))
 (J1 (true,()) H5)
 (J1 ((decide (blanks>20)),()) H5)))) fun y2 H3=>
 forkB y2.1
 (retK (some [(.bool true)]) H3 R)
 (callW PP fq6 #[(.string text)] H3 ⟨Int×Bool,fun x=>(.tuple #[(.int .i64 x.1),(.bool x.2)])⟩ fun(x6:Int×Bool) H7=>
 joinPK (Bool×Unit) H7 (fun J8=>
 forkB (!x6.2)
 (J8 (true,()) H7)
 (J8 ((decide (x6.1<0)),()) H7)) fun y9=>
 forkB y9.1
 (retK (some [(.bool true)]) H7 R)
 (loopK (ByteArray×Int×Unit) ((bs []),0,()) H7 fun z10 H11 next12=>
 forkB (decide (z10.2.1<lines))
 ((((z10.1.size+(bs [10]).size:Nat):Int)≤9223372036854775807)∧
 next12 ((z10.1++(bs [10])),(IntKind.u8.wrap (z10.2.1+1)),()) H11)
 (loopK (ByteArray×Int×Unit) ((bs []),0,()) H11 fun z13 H14 next15=>
 forkB (decide (z13.2.1<blanks))
 ((((z13.1.size+(bs [32]).size:Nat):Int)≤9223372036854775807)∧
 next15 ((z13.1++(bs [32])),(IntKind.u8.wrap (z13.2.1+1)),()) H14)
 (callW PP fq7 #[(.string text)] H14 ⟨Int×Int×Bool,fun x=>(.tuple #[(.int .i64 x.1),(.int .i64 x.2.1),(.bool x.2.2)])⟩ fun(x16:Int×Int×Bool) H17=>
 (((z10.1.size+text.size:Nat):Int)≤9223372036854775807)∧
 callW PP fq7 #[(.string (z10.1++text))] H17 ⟨Int×Int×Bool,fun x=>(.tuple #[(.int .i64 x.1),(.int .i64 x.2.1),(.bool x.2.2)])⟩ fun(x18:Int×Int×Bool) H19=>
 (((z13.1.size+text.size:Nat):Int)≤9223372036854775807)∧
 callW PP fq7 #[(.string (z13.1++text))] H19 ⟨Int×Int×Bool,fun x=>(.tuple #[(.int .i64 x.1),(.int .i64 x.2.1),(.bool x.2.2)])⟩ fun(x20:Int×Int×Bool) H21=>
 forkB (x16.1==1)
 (joinPK (Bool×Unit) H21 (fun J22=>
 forkB x16.2.2
 (forkB x18.2.2
 (forkB x20.2.2
 (forkB (x18.1==(IntKind.i64.wrap (x16.1+(IntKind.i64.wrap lines))))
 (forkB (x18.2.1==x16.2.1)
 (forkB (x20.1==x16.1)
 (J22 ((x20.2.1==(IntKind.i64.wrap (x16.2.1+(IntKind.i64.wrap blanks)))),()) H21)
 (J22 (false,()) H21))
 (J22 (false,()) H21))
 (J22 (false,()) H21))
 (J22 (false,()) H21))
 (J22 (false,()) H21))
 (J22 (false,()) H21)) fun y23=>
 retK (some [(.bool y23.1)]) H21 R)
 (joinPK (Bool×Unit) H21 (fun J24=>
 forkB x16.2.2
 (forkB x18.2.2
 (forkB x20.2.2
 (forkB (x18.1==(IntKind.i64.wrap (x16.1+(IntKind.i64.wrap lines))))
 (forkB (x18.2.1==x16.2.1)
 (forkB (x20.1==x16.1)
 (J24 ((x20.2.1==x16.2.1),()) H21)
 (J24 (false,()) H21))
 (J24 (false,()) H21))
 (J24 (false,()) H21))
 (J24 (false,()) H21))
 (J24 (false,()) H21))
 (J24 (false,()) H21)) fun y25=>
 retK (some [(.bool y25.1)]) H21 R))))))
theorem FnRefusedLines.enter (text:ByteArray) (lines:Int) (blanks:Int) (H:Heap) (R:RR) (h:FnRefusedLines.W text lines blanks H R):Fn PP fq4 #[(.string text),(.int .u8 lines),(.int .u8 blanks)] H R:=
 fnS mixed Tryz.func4 ⟨patL [(29,pBool),(42,⟨Int×Bool,fun x=>(.tuple #[(.int .i64 x.1),(.bool x.2)])⟩),(65,⟨Int×Int×Bool,fun x=>(.tuple #[(.int .i64 x.1),(.int .i64 x.2.1),(.bool x.2.2)])⟩),(73,⟨Int×Int×Bool,fun x=>(.tuple #[(.int .i64 x.1),(.int .i64 x.2.1),(.bool x.2.2)])⟩),(81,⟨Int×Int×Bool,fun x=>(.tuple #[(.int .i64 x.1),(.int .i64 x.2.1),(.bool x.2.2)])⟩)],loopL [(0,[Slot.str 9,Slot.int .u8 52]),(2,[Slot.str 10,Slot.int .u8 58])],joinL [],joinL [],joinRL [(3,[Slot.bool 39],false),(6,[Slot.bool 50],true),(24,[Slot.bool 6],true)]⟩ _ H R (Eq.mp (by unfold FnRefusedLines.W;kernel_rfl) h)
def parseDocumentX.W (p:Nat) (H:Heap) (R:RR):Prop:=
 lw H p 6 (pInt .i64) fun(x1:Int)=>
 loopK (Sl×Unit) ((none,0,0),()) H fun z2 H3 next4=>
 callW PP fq35 #[(pq p),(.int .i64 1)] H3 pBoE fun(x5:Bool) H6=>
 forkB x5
 (callW PP fq40 #[(pq p),(.int .i64 x1)] H6 pBlk fun(x7:Nat) H8=>
 newB H8 (.cells #[(.string (bs [])),(pq x7),(.slice z2.1.1 z2.1.2.1 z2.1.2.2)] tq103) fun b9 H10=>
 callW PP fq39 #[(pq b9)] H10 pBlk fun(x11:Nat) H12=>
 retK (some [(pq x11),.nilIface]) H12 R)
 (lw H6 p 5 (pInt .i64) fun(x13:Int)=>
 forkB (x13==12)
 (call2W PP fq36 #[(pq p)] H6 pIfE ⟨Nat,fun x=>(.tuple #[.nilIface,(.iface tq49 (pq x))])⟩ (fun(x14:(Nat×Nat)) H16=>
 newB H16 (.cells #[(.iface x14.1 (pq x14.2))] tq92) fun b17 H18=>
 appK H18 tq92 1 16 z2.1.1 z2.1.2.1 z2.1.2.2 (some ⟨b17,0,none⟩) 1 fun a19 c20 H21=>
 next4 ((a19,(z2.1.2.1+1),c20),()) H21)
 (fun(e15:Nat) H16=>
 retK (some [(.pointer none),(.iface tq49 (pq e15))]) H16 R))
 (forkB (x13==15)
 (call2W PP fq37 #[(pq p)] H6 pIfE ⟨Nat,fun x=>(.tuple #[.nilIface,(.iface tq49 (pq x))])⟩ (fun(x22:(Nat×Nat)) H24=>
 newB H24 (.cells #[(.iface x22.1 (pq x22.2))] tq92) fun b25 H26=>
 appK H26 tq92 1 16 z2.1.1 z2.1.2.1 z2.1.2.2 (some ⟨b25,0,none⟩) 1 fun a27 c28 H29=>
 next4 ((a27,(z2.1.2.1+1),c28),()) H29)
 (fun(e23:Nat) H24=>
 retK (some [(.pointer none),(.iface tq49 (pq e23))]) H24 R))
 (forkB (x13==18)
 (call2W PP fq37 #[(pq p)] H6 pIfE ⟨Nat,fun x=>(.tuple #[.nilIface,(.iface tq49 (pq x))])⟩ (fun(x30:(Nat×Nat)) H32=>
 newB H32 (.cells #[(.iface x30.1 (pq x30.2))] tq92) fun b33 H34=>
 appK H34 tq92 1 16 z2.1.1 z2.1.2.1 z2.1.2.2 (some ⟨b33,0,none⟩) 1 fun a35 c36 H37=>
 next4 ((a35,(z2.1.2.1+1),c36),()) H37)
 (fun(e31:Nat) H32=>
 retK (some [(.pointer none),(.iface tq49 (pq e31))]) H32 R))
 (forkB (x13==19)
 (call2W PP fq37 #[(pq p)] H6 pIfE ⟨Nat,fun x=>(.tuple #[.nilIface,(.iface tq49 (pq x))])⟩ (fun(x38:(Nat×Nat)) H40=>
 newB H40 (.cells #[(.iface x38.1 (pq x38.2))] tq92) fun b41 H42=>
 appK H42 tq92 1 16 z2.1.1 z2.1.2.1 z2.1.2.2 (some ⟨b41,0,none⟩) 1 fun a43 c44 H45=>
 next4 ((a43,(z2.1.2.1+1),c44),()) H45)
 (fun(e39:Nat) H40=>
 retK (some [(.pointer none),(.iface tq49 (pq e39))]) H40 R))
 (callW PP fq38 #[(pq p),(.agg #[(.int .i64 0),(.int .i64 0),(.int .i64 0),(.string (bs []))])] H6 ⟨Nat,fun x=>(.iface tq49 (pq x))⟩ fun(x46:Nat) H47=>
 retK (some [(.pointer none),(.iface tq49 (pq x46))]) H47 R)))))
theorem parseDocumentX.enter (p:Nat) (H:Heap) (R:RR) (h:parseDocumentX.W p H R):Fn PP fq17 #[(pq p)] H R:=
 fnS mixed Tryz.func17 ⟨patX [(44,pIfE,⟨Nat,fun x=>(.tuple #[.nilIface,(.iface tq49 (pq x))])⟩)] [(16,(pInt .i64)),(19,pBoE),(30,(pInt .i64)),(34,⟨Nat,fun x=>(.iface tq49 (pq x))⟩),(56,pBlk),(60,pBlk)],loopL [(0,[Slot.slc 4])],joinL [],joinL [],joinRL []⟩ _ H R (Eq.mp (by unfold parseDocumentX.W;kernel_rfl) h)
def zzDefinition.W (name:ByteArray) (H:Heap) (R:RR):Prop:=
 forkB (name.toList==(bs [102,114,97,103,109,101,110,116]).toList)
 (retK (some [(.func (.func fq104) #[] #[]),(.bool true)]) H R)
 (forkB (name.toList==(bs [113,117,101,114,121]).toList)
 (retK (some [(.func (.func fq36) #[] #[]),(.bool true)]) H R)
 (forkB (name.toList==(bs [109,117,116,97,116,105,111,110]).toList)
 (retK (some [(.func (.func fq36) #[] #[]),(.bool true)]) H R)
 (forkB (name.toList==(bs [115,117,98,115,99,114,105,112,116,105,111,110]).toList)
 (retK (some [(.func (.func fq36) #[] #[]),(.bool true)]) H R)
 (forkB (name.toList==(bs [115,99,104,101,109,97]).toList)
 (retK (some [(.func (.func fq105) #[] #[]),(.bool true)]) H R)
 (forkB (name.toList==(bs [115,99,97,108,97,114]).toList)
 (retK (some [(.func (.func fq106) #[] #[]),(.bool true)]) H R)
 (forkB (name.toList==(bs [116,121,112,101]).toList)
 (retK (some [(.func (.func fq107) #[] #[]),(.bool true)]) H R)
 (forkB (name.toList==(bs [105,110,116,101,114,102,97,99,101]).toList)
 (retK (some [(.func (.func fq108) #[] #[]),(.bool true)]) H R)
 (forkB (name.toList==(bs [117,110,105,111,110]).toList)
 (retK (some [(.func (.func fq109) #[] #[]),(.bool true)]) H R)
 (forkB (name.toList==(bs [101,110,117,109]).toList)
 (retK (some [(.func (.func fq110) #[] #[]),(.bool true)]) H R)
 (forkB (name.toList==(bs [105,110,112,117,116]).toList)
 (retK (some [(.func (.func fq111) #[] #[]),(.bool true)]) H R)
 (forkB (name.toList==(bs [101,120,116,101,110,100]).toList)
 (retK (some [(.func (.func fq112) #[] #[]),(.bool true)]) H R)
 (forkB (name.toList==(bs [100,105,114,101,99,116,105,118,101]).toList)
 (retK (some [(.func (.func fq113) #[] #[]),(.bool true)]) H R)
 (retK (some [.nilFunc,(.bool false)]) H R)))))))))))))
theorem zzDefinition.enter (name:ByteArray) (H:Heap) (R:RR) (h:zzDefinition.W name H R):Fn PP fq79 #[(.string name)] H R:=
 fnS mixed Tryz.func79 (hz []) _ H R (Eq.mp (by unfold zzDefinition.W;kernel_rfl) h)
def isBegin.W (c:Int) (H:Heap) (R:RR):Prop:=
 forkB (decide (c≥97))
 (forkB (decide (c≤122))
 (retK (some [(.bool true)]) H R)
 (forkB (decide (c≥65))
 (forkB (decide (c≤90))
 (retK (some [(.bool true)]) H R)
 (retK (some [(.bool (c==95))]) H R))
 (retK (some [(.bool (c==95))]) H R)))
 (forkB (decide (c≥65))
 (forkB (decide (c≤90))
 (retK (some [(.bool true)]) H R)
 (retK (some [(.bool (c==95))]) H R))
 (retK (some [(.bool (c==95))]) H R))
theorem isBegin.enter (c:Int) (H:Heap) (R:RR) (h:isBegin.W c H R):Fn PP fq45 #[(.int .u8 c)] H R:=
 fnS mixed Tryz.func45 (hz []) _ H R (Eq.mp (by unfold isBegin.W;kernel_rfl) h)
def isDigit.W (c:Int) (H:Heap) (R:RR):Prop:=
 forkB (decide (c≥48))
 (retK (some [(.bool (decide (c≤57)))]) H R)
 (retK (some [(.bool false)]) H R)
theorem isDigit.enter (c:Int) (H:Heap) (R:RR) (h:isDigit.W c H R):Fn PP fq47 #[(.int .u8 c)] H R:=
 fnS mixed Tryz.func47 (hz []) _ H R (Eq.mp (by unfold isDigit.W;kernel_rfl) h)
def Point.W (s:ByteArray) (at_:Int) (H:Heap) (R:RR):Prop:=
 ((0:Int)≤at_∧at_<((s.size:Nat):Int))∧
 forkB (decide ((IntKind.i64.wrap (bt s at_))<128))
 (retK (some [(.int .i64 (IntKind.i64.wrap (bt s at_))),(.int .i64 1)]) H R)
 (joinPK (Bool×Unit) H (fun J1=>
 forkB (decide ((IntKind.i64.wrap (bt s at_))≥194))
 (J1 ((decide ((IntKind.i64.wrap (bt s at_))<224)),()) H)
 (J1 (false,()) H)) fun y2=>
 joinK (Int×Int×Int×Unit) (fun J3=>
 forkB y2.1
 (J3 ((IntKind.i64.wrap ((IntKind.i64.wrap (bt s at_)) -192)),2,128,()) H)
 (joinPK (Bool×Unit) H (fun J6=>
 forkB (decide ((IntKind.i64.wrap (bt s at_))≥224))
 (J6 ((decide ((IntKind.i64.wrap (bt s at_))<240)),()) H)
 (J6 (false,()) H)) fun y7=>
 joinK (Int×Int×Int×Unit) (fun J8=>
 forkB y7.1
 (J8 ((IntKind.i64.wrap ((IntKind.i64.wrap (bt s at_)) -224)),3,2048,()) H)
 (joinPK (Bool×Unit) H (fun J11=>
 forkB (decide ((IntKind.i64.wrap (bt s at_))≥240))
 (J11 ((decide ((IntKind.i64.wrap (bt s at_))<245)),()) H)
 (J11 (false,()) H)) fun y12=>
 joinK (Int×Int×Int×Unit) (fun J13=>
 forkB y12.1
 (J13 ((IntKind.i64.wrap ((IntKind.i64.wrap (bt s at_)) -240)),4,65536,()) H)
 (J13 (0,0,0,()) H)) fun y14 H15=>
 J8 (y14.1,y14.2.1,y14.2.2.1,()) H15)) fun y9 H10=>
 J3 (y9.1,y9.2.1,y9.2.2.1,()) H10)) fun y4 H5=>
 joinPK (Bool×Unit) H5 (fun J16=>
 forkB (y4.2.1==0)
 (J16 (true,()) H5)
 (J16 ((decide ((IntKind.i64.wrap (at_+y4.2.1))>((s.size:Nat):Int))),()) H5)) fun y17=>
 forkB y17.1
 (retK (some [(.int .i64 0),(.int .i64 0)]) H5 R)
 (loopK (Int×Int×Int×Unit) (y4.1,y4.2.1,(IntKind.i64.wrap (at_+1)),()) H5 fun z18 H19 next20=>
 forkB (decide (z18.2.2.1<(IntKind.i64.wrap (at_+z18.2.1))))
 (joinPK (Bool×Unit) H19 (fun J21=>
 ((0:Int)≤z18.2.2.1∧z18.2.2.1<((s.size:Nat):Int))∧
 forkB (decide ((bt s z18.2.2.1)<128))
 (J21 (true,()) H19)
 (((0:Int)≤z18.2.2.1∧z18.2.2.1<((s.size:Nat):Int))∧
 J21 ((decide ((bt s z18.2.2.1)>191)),()) H19)) fun y22=>
 forkB y22.1
 (retK (some [(.int .i64 0),(.int .i64 0)]) H19 R)
 (((0:Int)≤z18.2.2.1∧z18.2.2.1<((s.size:Nat):Int))∧
 next20 ((IntKind.i64.wrap ((IntKind.i64.wrap ((IntKind.i64.wrap (z18.1*2^(min (6:Int).toNat 64)))+(IntKind.i64.wrap (bt s z18.2.2.1)))) -128)),z18.2.1,(IntKind.i64.wrap (z18.2.2.1+1)),()) H19))
 (joinPK (Bool×Unit) H19 (fun J23=>
 forkB (decide (z18.1<y4.2.2.1))
 (J23 (true,()) H19)
 (forkB (decide (z18.1>1114111))
 (J23 (true,()) H19)
 (forkB (decide (z18.1≥55296))
 (J23 ((decide (z18.1<57344)),()) H19)
 (J23 (false,()) H19)))) fun y24=>
 forkB y24.1
 (retK (some [(.int .i64 0),(.int .i64 0)]) H19 R)
 (retK (some [(.int .i64 z18.1),(.int .i64 z18.2.1)]) H19 R))))
theorem Point.enter (s:ByteArray) (at_:Int) (H:Heap) (R:RR) (h:Point.W s at_ H R):Fn PP fq82 #[(.string s),(.int .i64 at_)] H R:=
 fnS mixed Tryz.func82 ⟨patL [],loopL [(1,[Slot.int .i64 4,Slot.int .i64 5,Slot.int .i64 8])],joinL [(17,[Slot.int .i64 4,Slot.int .i64 5,Slot.int .i64 7]),(26,[Slot.int .i64 4,Slot.int .i64 5,Slot.int .i64 7]),(35,[Slot.int .i64 4,Slot.int .i64 5,Slot.int .i64 7])],joinL [],joinRL [(5,[Slot.bool 17],true),(7,[Slot.bool 26],true),(9,[Slot.bool 35],true),(11,[Slot.bool 53],true),(16,[Slot.bool 72],true),(19,[Slot.bool 95],true)]⟩ _ H R (Eq.mp (by unfold Point.W;kernel_rfl) h)
def hexadecimal.W (c:Int) (H:Heap) (R:RR):Prop:=
 forkB (decide (c≥48))
 (forkB (decide (c≤57))
 (retK (some [(.int .i64 (IntKind.i64.wrap (IntKind.u8.wrap (c -48))))]) H R)
 (forkB (decide (c≥97))
 (forkB (decide (c≤102))
 (retK (some [(.int .i64 (IntKind.i64.wrap ((IntKind.i64.wrap (IntKind.u8.wrap (c -97)))+10)))]) H R)
 (forkB (decide (c≥65))
 (forkB (decide (c≤70))
 (retK (some [(.int .i64 (IntKind.i64.wrap ((IntKind.i64.wrap (IntKind.u8.wrap (c -65)))+10)))]) H R)
 (retK (some [(.int .i64 (-1))]) H R))
 (retK (some [(.int .i64 (-1))]) H R)))
 (forkB (decide (c≥65))
 (forkB (decide (c≤70))
 (retK (some [(.int .i64 (IntKind.i64.wrap ((IntKind.i64.wrap (IntKind.u8.wrap (c -65)))+10)))]) H R)
 (retK (some [(.int .i64 (-1))]) H R))
 (retK (some [(.int .i64 (-1))]) H R))))
 (forkB (decide (c≥97))
 (forkB (decide (c≤102))
 (retK (some [(.int .i64 (IntKind.i64.wrap ((IntKind.i64.wrap (IntKind.u8.wrap (c -97)))+10)))]) H R)
 (forkB (decide (c≥65))
 (forkB (decide (c≤70))
 (retK (some [(.int .i64 (IntKind.i64.wrap ((IntKind.i64.wrap (IntKind.u8.wrap (c -65)))+10)))]) H R)
 (retK (some [(.int .i64 (-1))]) H R))
 (retK (some [(.int .i64 (-1))]) H R)))
 (forkB (decide (c≥65))
 (forkB (decide (c≤70))
 (retK (some [(.int .i64 (IntKind.i64.wrap ((IntKind.i64.wrap (IntKind.u8.wrap (c -65)))+10)))]) H R)
 (retK (some [(.int .i64 (-1))]) H R))
 (retK (some [(.int .i64 (-1))]) H R)))
theorem hexadecimal.enter (c:Int) (H:Heap) (R:RR) (h:hexadecimal.W c H R):Fn PP fq119 #[(.int .u8 c)] H R:=
 fnS mixed Tryz.func119 (hz []) _ H R (Eq.mp (by unfold hexadecimal.W;kernel_rfl) h)
def sign.W (c:Int) (H:Heap) (R:RR):Prop:=
 forkB (c==33)
 (retK (some [(.int .i64 2)]) H R)
 (forkB (c==36)
 (retK (some [(.int .i64 3)]) H R)
 (forkB (c==40)
 (retK (some [(.int .i64 4)]) H R)
 (forkB (c==41)
 (retK (some [(.int .i64 5)]) H R)
 (forkB (c==58)
 (retK (some [(.int .i64 7)]) H R)
 (forkB (c==61)
 (retK (some [(.int .i64 8)]) H R)
 (forkB (c==64)
 (retK (some [(.int .i64 9)]) H R)
 (forkB (c==91)
 (retK (some [(.int .i64 10)]) H R)
 (forkB (c==93)
 (retK (some [(.int .i64 11)]) H R)
 (forkB (c==123)
 (retK (some [(.int .i64 12)]) H R)
 (forkB (c==124)
 (retK (some [(.int .i64 13)]) H R)
 (forkB (c==125)
 (retK (some [(.int .i64 14)]) H R)
 (forkB (c==38)
 (retK (some [(.int .i64 20)]) H R)
 (retK (some [(.int .i64 0)]) H R)))))))))))))
theorem sign.enter (c:Int) (H:Heap) (R:RR) (h:sign.W c H R):Fn PP fq44 #[(.int .u8 c)] H R:=
 fnS mixed Tryz.func44 (hz []) _ H R (Eq.mp (by unfold sign.W;kernel_rfl) h)
def starts.W (s:ByteArray) (at_:Int) (t:ByteArray) (H:Heap) (R:RR):Prop:=
 forkB (decide ((IntKind.i64.wrap (at_+((t.size:Nat):Int)))≤((s.size:Nat):Int)))
 ((((0:Int)≤(IntKind.i64.wrap (at_+((t.size:Nat):Int)))∧(IntKind.i64.wrap (at_+((t.size:Nat):Int)))≤((s.size:Nat):Int))∧((0:Int)≤at_∧at_≤(((IntKind.i64.wrap (at_+((t.size:Nat):Int))).toNat:Nat):Int)))∧
 retK (some [(.bool ((s.extract at_.toNat (IntKind.i64.wrap (at_+((t.size:Nat):Int))).toNat).toList==t.toList))]) H R)
 (retK (some [(.bool false)]) H R)
theorem starts.enter (s:ByteArray) (at_:Int) (t:ByteArray) (H:Heap) (R:RR) (h:starts.W s at_ t H R):Fn PP fq41 #[(.string s),(.int .i64 at_),(.string t)] H R:=
 fnS mixed Tryz.func41 (hz []) _ H R (Eq.mp (by unfold starts.W;kernel_rfl) h)
def source_.W (c:Int) (H:Heap) (R:RR):Prop:=
 forkB (c==9)
 (retK (some [(.bool true),(.bool (decide (c≤65535)))]) H R)
 (forkB (c==10)
 (retK (some [(.bool true),(.bool (decide (c≤65535)))]) H R)
 (forkB (c==13)
 (retK (some [(.bool true),(.bool (decide (c≤65535)))]) H R)
 (retK (some [(.bool (decide (c≥32))),(.bool (decide (c≤65535)))]) H R)))
theorem source_.enter (c:Int) (H:Heap) (R:RR) (h:source_.W c H R):Fn PP fq83 #[(.int .i64 c)] H R:=
 fnS mixed Tryz.func83 (hz []) _ H R (Eq.mp (by unfold source_.W;kernel_rfl) h)
def Encoded.W (c:Int) (H:Heap) (R:RR):Prop:=
 newB H (.cells #[(.int .i32 (IntKind.i32.wrap c))] tq21) fun b1 H2=>
 runeW H2 ⟨b1,0,none⟩ fun(c3:Int)=>
 retK (some [(.string (Utf8.encode c3))]) H2 R
theorem Encoded.enter (c:Int) (H:Heap) (R:RR) (h:Encoded.W c H R):Fn PP fq120 #[(.int .i64 c)] H R:=
 fnS mixed Tryz.func120 (hz []) _ H R (Eq.mp (by unfold Encoded.W;kernel_rfl) h)
def leading.W (s:ByteArray) (H:Heap) (R:RR):Prop:=
 loopK (Int×Unit) (0,()) H fun z1 H2 next3=>
 joinPK (Bool×Unit) H2 (fun J4=>
 forkB (decide (z1.1<((s.size:Nat):Int)))
 (((0:Int)≤z1.1∧z1.1<((s.size:Nat):Int))∧
 forkB ((bt s z1.1)==32)
 (J4 (true,()) H2)
 (((0:Int)≤z1.1∧z1.1<((s.size:Nat):Int))∧
 J4 (((bt s z1.1)==9),()) H2))
 (J4 (false,()) H2)) fun y5=>
 forkB y5.1
 (next3 ((IntKind.i64.wrap (z1.1+1)),()) H2)
 (retK (some [(.int .i64 z1.1)]) H2 R)
theorem leading.enter (s:ByteArray) (H:Heap) (R:RR) (h:leading.W s H R):Fn PP fq118 #[(.string s)] H R:=
 fnS mixed Tryz.func118 ⟨patL [],loopL [(0,[Slot.int .i64 3])],joinL [],joinL [],joinRL [(2,[Slot.bool 19],true)]⟩ _ H R (Eq.mp (by unfold leading.W;kernel_rfl) h)
def common.W (l lO lN _lC:Nat) (H:Heap) (R:RR):Prop:=
 loopK (Int×Int×Unit) ((-1),1,()) H fun z1 H2 next3=>
 forkB (decide (z1.2.1<((lN:Nat):Int)))
 ((IxOk (some ⟨l,lO,none⟩) z1.2.1 lN)∧
 loadW H2 false 1 ⟨l,(lO+z1.2.1.toNat*1),none⟩ pStr fun(x4:ByteArray)=>
 callW PP fq118 #[(.string x4)] H2 (pInt .i64) fun(x5:Int) H6=>
 joinPK (Bool×Unit) H6 (fun J7=>
 (IxOk (some ⟨l,lO,none⟩) z1.2.1 lN)∧
 loadW H6 false 1 ⟨l,(lO+z1.2.1.toNat*1),none⟩ pStr fun(x9:ByteArray)=>
 forkB (decide (x5<((x9.size:Nat):Int)))
 (forkB (decide (z1.1<0))
 (J7 (true,()) H6)
 (J7 ((decide (x5<z1.1)),()) H6))
 (J7 (false,()) H6)) fun y8=>
 joinK (Int×Unit) (fun J10=>
 forkB y8.1
 (J10 (x5,()) H6)
 (J10 (z1.1,()) H6)) fun y11 H12=>
 next3 (y11.1,(IntKind.i64.wrap (z1.2.1+1)),()) H12)
 (retK (some [(.int .i64 (if 0>z1.1 then 0 else z1.1))]) H2 R)
theorem common.enter (l lO lN lC:Nat) (H:Heap) (R:RR) (h:common.W l lO lN lC H R):Fn PP fq117 #[(.slice (some ⟨l,lO,none⟩) lN lC)] H R:=
 fnS mixed Tryz.func117 ⟨patL [(15,pStr),(16,(pInt .i64)),(21,pStr)],loopL [(0,[Slot.int .i64 3,Slot.int .i64 4])],joinL [(32,[Slot.int .i64 3])],joinL [],joinRL [(6,[Slot.bool 32],true)]⟩ _ H R (Eq.mp (by unfold common.W;kernel_rfl) h)
def Lines.W (s:ByteArray) (H:Heap) (R:RR):Prop:=
 loopK (Sl×Int×Int×Unit) ((none,0,0),0,0,()) H fun z1 H2 next3=>
 forkB (decide (z1.2.2.1<((s.size:Nat):Int)))
 (joinPK (Bool×Unit) H2 (fun J4=>
 ((0:Int)≤z1.2.2.1∧z1.2.2.1<((s.size:Nat):Int))∧
 forkB ((bt s z1.2.2.1) !=10)
 (((0:Int)≤z1.2.2.1∧z1.2.2.1<((s.size:Nat):Int))∧
 J4 (((bt s z1.2.2.1) !=13),()) H2)
 (J4 (false,()) H2)) fun y5=>
 forkB y5.1
 (next3 ((z1.1.1,z1.1.2.1,z1.1.2.2),z1.2.1,(IntKind.i64.wrap (z1.2.2.1+1)),()) H2)
 ((((0:Int)≤z1.2.2.1∧z1.2.2.1≤((s.size:Nat):Int))∧((0:Int)≤z1.2.1∧z1.2.1≤((z1.2.2.1.toNat:Nat):Int)))∧
 newB H2 (.cells #[(.string (s.extract z1.2.1.toNat z1.2.2.1.toNat))] tq9) fun b6 H7=>
 appK H7 tq9 1 16 z1.1.1 z1.1.2.1 z1.1.2.2 (some ⟨b6,0,none⟩) 1 fun a8 c9 H10=>
 joinPK (Bool×Unit) H10 (fun J11=>
 ((0:Int)≤z1.2.2.1∧z1.2.2.1<((s.size:Nat):Int))∧
 forkB ((bt s z1.2.2.1)==13)
 (forkB (decide ((IntKind.i64.wrap (z1.2.2.1+1))<((s.size:Nat):Int)))
 (((0:Int)≤(IntKind.i64.wrap (z1.2.2.1+1))∧(IntKind.i64.wrap (z1.2.2.1+1))<((s.size:Nat):Int))∧
 J11 (((bt s (IntKind.i64.wrap (z1.2.2.1+1)))==10),()) H10)
 (J11 (false,()) H10))
 (J11 (false,()) H10)) fun y12=>
 joinK (Int×Unit) (fun J13=>
 forkB y12.1
 (J13 ((IntKind.i64.wrap (z1.2.2.1+1)),()) H10)
 (J13 (z1.2.2.1,()) H10)) fun y14 H15=>
 next3 ((a8,(z1.1.2.1+1),c9),(IntKind.i64.wrap (y14.1+1)),(IntKind.i64.wrap (y14.1+1)),()) H15))
 (((0:Int)≤z1.2.1∧z1.2.1≤((s.size:Nat):Int))∧
 newB H2 (.cells #[(.string (s.extract z1.2.1.toNat s.size))] tq9) fun b16 H17=>
 appK H17 tq9 1 16 z1.1.1 z1.1.2.1 z1.1.2.2 (some ⟨b16,0,none⟩) 1 fun a18 c19 H20=>
 retK (some [(.slice a18 (z1.1.2.1+1) c19)]) H20 R)
theorem Lines.enter (s:ByteArray) (H:Heap) (R:RR) (h:Lines.W s H R):Fn PP fq116 #[(.string s)] H R:=
 fnS mixed Tryz.func116 ⟨patL [],loopL [(0,[Slot.slc 3,Slot.int .i64 4,Slot.int .i64 5])],joinL [(46,[Slot.int .i64 5])],joinL [],joinRL [(6,[Slot.bool 21],true),(8,[Slot.bool 46],true)]⟩ _ H R (Eq.mp (by unfold Lines.W;kernel_rfl) h)
def plainBlock.W (raw:ByteArray) (H:Heap) (R:RR):Prop:=
 callW PP fq116 #[(.string raw)] H pSlc fun(x1:Sl) H2=>
 callW PP fq117 #[(.slice x1.1 x1.2.1 x1.2.2)] H2 (pInt .i64) fun(x3:Int) H4=>
 forkB (decide (x3>0))
 ((IxOk x1.1 0 x1.2.1)∧
 loadW H4 false 1 ⟨(blkOf x1.1),(offOf x1.1+(0:Int).toNat*1),none⟩ pStr fun(x5:ByteArray)=>
 (IxOk x1.1 0 x1.2.1)∧
 loadW H4 false 1 ⟨(blkOf x1.1),(offOf x1.1+(0:Int).toNat*1),none⟩ pStr fun(x6:ByteArray)=>
 callW PP fq118 #[(.string x5)] H4 (pInt .i64) fun(x7:Int) H8=>
 loadC H8 false 1 ⟨(blkOf x1.1),(offOf x1.1+(0:Int).toNat*1),none⟩=some (.string x6)∧
 forkB (decide (x7<((x6.size:Nat):Int)))
 (retK (some [(.bool false)]) H8 R)
 (loopK (Int×Unit) (1,()) H8 fun z9 H10 next11=>
 forkB (decide (z9.1<((x1.2.1:Nat):Int)))
 ((IxOk x1.1 z9.1 x1.2.1)∧
 loadW H10 false 1 ⟨(blkOf x1.1),(offOf x1.1+z9.1.toNat*1),none⟩ pStr fun(x12:ByteArray)=>
 (IxOk x1.1 z9.1 x1.2.1)∧
 loadW H10 false 1 ⟨(blkOf x1.1),(offOf x1.1+z9.1.toNat*1),none⟩ pStr fun(x13:ByteArray)=>
 callW PP fq118 #[(.string x12)] H10 (pInt .i64) fun(x14:Int) H15=>
 loadC H15 false 1 ⟨(blkOf x1.1),(offOf x1.1+z9.1.toNat*1),none⟩=some (.string x13)∧
 forkB (x14==((x13.size:Nat):Int))
 ((IxOk x1.1 z9.1 x1.2.1)∧
 loadW H15 false 1 ⟨(blkOf x1.1),(offOf x1.1+z9.1.toNat*1),none⟩ pStr fun(x16:ByteArray)=>
 forkB (decide (((x16.size:Nat):Int)>0))
 ((IxOk x1.1 z9.1 x1.2.1)∧
 loadW H15 false 1 ⟨(blkOf x1.1),(offOf x1.1+z9.1.toNat*1),none⟩ pStr fun(x17:ByteArray)=>
 forkB (decide (((x17.size:Nat):Int)<x3))
 (retK (some [(.bool false)]) H15 R)
 (next11 ((IntKind.i64.wrap (z9.1+1)),()) H15))
 (next11 ((IntKind.i64.wrap (z9.1+1)),()) H15))
 (next11 ((IntKind.i64.wrap (z9.1+1)),()) H15))
 (retK (some [(.bool true)]) H10 R)))
 (loopK (Int×Unit) (1,()) H4 fun z18 H19 next20=>
 forkB (decide (z18.1<((x1.2.1:Nat):Int)))
 ((IxOk x1.1 z18.1 x1.2.1)∧
 loadW H19 false 1 ⟨(blkOf x1.1),(offOf x1.1+z18.1.toNat*1),none⟩ pStr fun(x21:ByteArray)=>
 (IxOk x1.1 z18.1 x1.2.1)∧
 loadW H19 false 1 ⟨(blkOf x1.1),(offOf x1.1+z18.1.toNat*1),none⟩ pStr fun(x22:ByteArray)=>
 callW PP fq118 #[(.string x21)] H19 (pInt .i64) fun(x23:Int) H24=>
 loadC H24 false 1 ⟨(blkOf x1.1),(offOf x1.1+z18.1.toNat*1),none⟩=some (.string x22)∧
 forkB (x23==((x22.size:Nat):Int))
 ((IxOk x1.1 z18.1 x1.2.1)∧
 loadW H24 false 1 ⟨(blkOf x1.1),(offOf x1.1+z18.1.toNat*1),none⟩ pStr fun(x25:ByteArray)=>
 forkB (decide (((x25.size:Nat):Int)>0))
 ((IxOk x1.1 z18.1 x1.2.1)∧
 loadW H24 false 1 ⟨(blkOf x1.1),(offOf x1.1+z18.1.toNat*1),none⟩ pStr fun(x26:ByteArray)=>
 forkB (decide (((x26.size:Nat):Int)<x3))
 (retK (some [(.bool false)]) H24 R)
 (next20 ((IntKind.i64.wrap (z18.1+1)),()) H24))
 (next20 ((IntKind.i64.wrap (z18.1+1)),()) H24))
 (next20 ((IntKind.i64.wrap (z18.1+1)),()) H24))
 (retK (some [(.bool true)]) H19 R))
theorem plainBlock.enter (raw:ByteArray) (H:Heap) (R:RR) (h:plainBlock.W raw H R):Fn PP fq85 #[(.string raw)] H R:=
 fnS mixed Tryz.func85 ⟨patL [(7,pSlc),(9,(pInt .i64)),(15,pStr),(16,(pInt .i64)),(19,pStr),(32,pStr),(33,(pInt .i64)),(37,pStr),(44,pStr),(52,pStr)],loopL [(0,[Slot.int .i64 5])],joinL [],joinL [],joinRL []⟩ _ H R (Eq.mp (by unfold plainBlock.W;kernel_rfl) h)
def BlockValue.W (raw:ByteArray) (H:Heap) (R:RR):Prop:=
 callW PP fq116 #[(.string raw)] H pSlc fun(x1:Sl) H2=>
 callW PP fq117 #[(.slice x1.1 x1.2.1 x1.2.2)] H2 (pInt .i64) fun(x3:Int) H4=>
 loopK (Int×Unit) (1,()) H4 fun z5 H6 next7=>
 forkB (decide (z5.1<((x1.2.1:Nat):Int)))
 ((IxOk x1.1 z5.1 x1.2.1)∧
 loadW H6 false 1 ⟨(blkOf x1.1),(offOf x1.1+z5.1.toNat*1),none⟩ pStr fun(x8:ByteArray)=>
 (IxOk x1.1 z5.1 x1.2.1)∧
 loadW H6 false 1 ⟨(blkOf x1.1),(offOf x1.1+z5.1.toNat*1),none⟩ pStr fun(x9:ByteArray)=>
 ((0:Int)≤(if((x9.size:Nat):Int)<x3 then((x9.size:Nat):Int) else x3)∧(if((x9.size:Nat):Int)<x3 then((x9.size:Nat):Int) else x3)≤((x8.size:Nat):Int))∧
 (IxOk x1.1 z5.1 x1.2.1)∧
 storeW H6 ⟨(blkOf x1.1),(offOf x1.1+z5.1.toNat*1),none⟩ [(.string (x8.extract (if((x9.size:Nat):Int)<x3 then((x9.size:Nat):Int) else x3).toNat x8.size))] fun H10=>
 next7 ((IntKind.i64.wrap (z5.1+1)),()) H10)
 (joinK (Sl×Unit) (fun J11=>
 loopK (Sl×Unit) ((x1.1,x1.2.1,x1.2.2),()) H6 fun z14 H15 next16=>
 forkB (decide (((z14.1.2.1:Nat):Int)>0))
 ((IxOk z14.1.1 0 z14.1.2.1)∧
 loadW H15 false 1 ⟨(blkOf z14.1.1),(offOf z14.1.1+(0:Int).toNat*1),none⟩ pStr fun(x17:ByteArray)=>
 (IxOk z14.1.1 0 z14.1.2.1)∧
 loadW H15 false 1 ⟨(blkOf z14.1.1),(offOf z14.1.1+(0:Int).toNat*1),none⟩ pStr fun(x18:ByteArray)=>
 callW PP fq118 #[(.string x17)] H15 (pInt .i64) fun(x19:Int) H20=>
 loadC H20 false 1 ⟨(blkOf z14.1.1),(offOf z14.1.1+(0:Int).toNat*1),none⟩=some (.string x18)∧
 forkB (x19==((x18.size:Nat):Int))
 (((0:Int)≤1∧1≤((z14.1.2.1:Nat):Int))∧
 next16 (((slcA z14.1.1 z14.1.2.2 (1:Int).toNat 1),(z14.1.2.1 -(1:Int).toNat),(z14.1.2.2 -(1:Int).toNat)),()) H20)
 (J11 ((z14.1.1,z14.1.2.1,z14.1.2.2),()) H20))
 (J11 ((z14.1.1,z14.1.2.1,z14.1.2.2),()) H15)) fun y12 H13=>
 joinK (Sl×Unit) (fun J21=>
 loopK (Sl×Unit) ((y12.1.1,y12.1.2.1,y12.1.2.2),()) H13 fun z24 H25 next26=>
 forkB (decide (((z24.1.2.1:Nat):Int)>0))
 ((IxOk z24.1.1 (IntKind.i64.wrap (((z24.1.2.1:Nat):Int) -1)) z24.1.2.1)∧
 loadW H25 false 1 ⟨(blkOf z24.1.1),(offOf z24.1.1+(IntKind.i64.wrap (((z24.1.2.1:Nat):Int) -1)).toNat*1),none⟩ pStr fun(x27:ByteArray)=>
 (IxOk z24.1.1 (IntKind.i64.wrap (((z24.1.2.1:Nat):Int) -1)) z24.1.2.1)∧
 loadW H25 false 1 ⟨(blkOf z24.1.1),(offOf z24.1.1+(IntKind.i64.wrap (((z24.1.2.1:Nat):Int) -1)).toNat*1),none⟩ pStr fun(x28:ByteArray)=>
 callW PP fq118 #[(.string x27)] H25 (pInt .i64) fun(x29:Int) H30=>
 loadC H30 false 1 ⟨(blkOf z24.1.1),(offOf z24.1.1+(IntKind.i64.wrap (((z24.1.2.1:Nat):Int) -1)).toNat*1),none⟩=some (.string x28)∧
 forkB (x29==((x28.size:Nat):Int))
 (((0:Int)≤(IntKind.i64.wrap (((z24.1.2.1:Nat):Int) -1))∧(IntKind.i64.wrap (((z24.1.2.1:Nat):Int) -1))≤((z24.1.2.2:Nat):Int))∧
 next26 (((slcA z24.1.1 z24.1.2.2 0 1),(IntKind.i64.wrap (((z24.1.2.1:Nat):Int) -1)).toNat,z24.1.2.2),()) H30)
 (J21 ((z24.1.1,z24.1.2.1,z24.1.2.2),()) H30))
 (J21 ((z24.1.1,z24.1.2.1,z24.1.2.2),()) H25)) fun y22 H23=>
 loopK (ByteArray×Int×Unit) ((bs []),0,()) H23 fun z31 H32 next33=>
 forkB (decide (z31.2.1<((y22.1.2.1:Nat):Int)))
 (joinK (ByteArray×Unit) (fun J34=>
 forkB (decide (z31.2.1>0))
 ((((z31.1.size+(bs [10]).size:Nat):Int)≤9223372036854775807)∧
 J34 ((z31.1++(bs [10])),()) H32)
 (J34 (z31.1,()) H32)) fun y35 H36=>
 (IxOk y22.1.1 z31.2.1 y22.1.2.1)∧
 loadW H36 false 1 ⟨(blkOf y22.1.1),(offOf y22.1.1+z31.2.1.toNat*1),none⟩ pStr fun(x37:ByteArray)=>
 (((y35.1.size+x37.size:Nat):Int)≤9223372036854775807)∧
 next33 ((y35.1++x37),(IntKind.i64.wrap (z31.2.1+1)),()) H36)
 (retK (some [(.string z31.1)]) H32 R))
theorem BlockValue.enter (raw:ByteArray) (H:Heap) (R:RR) (h:BlockValue.W raw H R):Fn PP fq86 #[(.string raw)] H R:=
 fnS mixed Tryz.func86 ⟨patL [(9,pSlc),(11,(pInt .i64)),(23,pStr),(28,pStr),(39,pStr),(40,(pInt .i64)),(43,pStr),(58,pStr),(59,(pInt .i64)),(65,pStr),(88,pStr)],loopL [(0,[Slot.int .i64 5]),(2,[Slot.slc 3]),(4,[Slot.slc 3]),(6,[Slot.str 6,Slot.int .i64 7])],joinL [(81,[Slot.str 6])],joinL [(2,[Slot.slc 3]),(4,[Slot.slc 3])],joinRL []⟩ _ H R (Eq.mp (by unfold BlockValue.W;kernel_rfl) h)
def lexFail.W (x:Nat) (H:Heap) (R:RR):Prop:=
 storeW H ⟨x,3,none⟩ [(.bool true)] fun H1=>
 retK (some []) H1 R
theorem lexFail.enter (x:Nat) (H:Heap) (R:RR) (h:lexFail.W x H R):Fn PP fq51 #[(pq x)] H R:=
 fnS mixed Tryz.func51 (hz []) _ H R (Eq.mp (by unfold lexFail.W;kernel_rfl) h)
def lexAdd.W (x:Nat) (kind:Int) (to:Int) (value:ByteArray) (H:Heap) (R:RR):Prop:=
 lw H x 2 pSlc fun(x1:Sl)=>
 lw H x 1 (pInt .i64) fun(x2:Int)=>
 newB H (.cells #[(.int .i64 kind),(.string value),(.int .i64 x2),(.int .i64 to)] tq39) fun b3 H4=>
 lc H4 x 2 (.slice x1.1 x1.2.1 x1.2.2)∧
 appK H4 tq39 4 40 x1.1 x1.2.1 x1.2.2 (some ⟨b3,0,none⟩) 1 fun a5 c6 H7=>
 storeW H7 ⟨x,2,none⟩ [(.slice a5 (x1.2.1+1) c6)] fun H8=>
 storeW H8 ⟨x,1,none⟩ [(.int .i64 to)] fun H9=>
 retK (some []) H9 R
theorem lexAdd.enter (x:Nat) (kind:Int) (to:Int) (value:ByteArray) (H:Heap) (R:RR) (h:lexAdd.W x kind to value H R):Fn PP fq43 #[(pq x),(.int .i64 kind),(.int .i64 to),(.string value)] H R:=
 fnS mixed Tryz.func43 (hz [(12,pSlc),(18,(pInt .i64))]) _ H R (Eq.mp (by unfold lexAdd.W;kernel_rfl) h)
def lexNext.W (x:Nat) (i:Int) (H:Heap) (R:RR):Prop:=
 lw H x 0 pStr fun(x1:ByteArray)=>
 forkB (decide (i≥((x1.size:Nat):Int)))
 (retK (some [(.int .u8 0)]) H R)
 (lw H x 0 pStr fun(x2:ByteArray)=>
 ((0:Int)≤i∧i<((x2.size:Nat):Int))∧
 retK (some [(.int .u8 (bt x2 i))]) H R)
theorem lexNext.enter (x:Nat) (i:Int) (H:Heap) (R:RR) (h:lexNext.W x i H R):Fn PP fq46 #[(pq x),(.int .i64 i)] H R:=
 fnS mixed Tryz.func46 (hz [(9,pStr),(15,pStr)]) _ H R (Eq.mp (by unfold lexNext.W;kernel_rfl) h)
def lexComment.W (x:Nat) (H:Heap) (R:RR):Prop:=
 loopK (Unit) (()) H fun _z1 H2 next3=>
 lw H2 x 1 (pInt .i64) fun(x4:Int)=>
 lw H2 x 0 pStr fun(x5:ByteArray)=>
 forkB (decide (x4<((x5.size:Nat):Int)))
 (lw H2 x 0 pStr fun(x6:ByteArray)=>
 lw H2 x 1 (pInt .i64) fun(x7:Int)=>
 ((0:Int)≤x7∧x7<((x6.size:Nat):Int))∧
 forkB ((bt x6 x7) !=10)
 (lw H2 x 0 pStr fun(x8:ByteArray)=>
 lw H2 x 1 (pInt .i64) fun(x9:Int)=>
 ((0:Int)≤x9∧x9<((x8.size:Nat):Int))∧
 forkB ((bt x8 x9) !=13)
 (lw H2 x 0 pStr fun(x10:ByteArray)=>
 lw H2 x 1 (pInt .i64) fun(x11:Int)=>
 callW PP fq82 #[(.string x10),(.int .i64 x11)] H2 pII fun(x12:Int×Int) H13=>
 forkB (x12.2==0)
 (storeW H13 ⟨x,3,none⟩ [(.bool true)] fun H14=>
 storeW H14 ⟨x,4,none⟩ [(.bool true)] fun H15=>
 retK (some []) H15 R)
 (callW PP fq83 #[(.int .i64 x12.1)] H13 ⟨Bool×Bool,fun x=>(.tuple #[(.bool x.1),(.bool x.2)])⟩ fun(x16:Bool×Bool) H17=>
 lw H17 x 4 pBool fun(x18:Bool)=>
 forkB x18
 (storeW H17 ⟨x,4,none⟩ [(.bool true)] fun H19=>
 lw H19 x 1 (pInt .i64) fun(x20:Int)=>
 storeW H19 ⟨x,1,none⟩ [(.int .i64 (IntKind.i64.wrap (x20+x12.2)))] fun H21=>
 next3 (()) H21)
 (forkB (!x16.2)
 (storeW H17 ⟨x,4,none⟩ [(.bool true)] fun H22=>
 lw H22 x 1 (pInt .i64) fun(x23:Int)=>
 storeW H22 ⟨x,1,none⟩ [(.int .i64 (IntKind.i64.wrap (x23+x12.2)))] fun H24=>
 next3 (()) H24)
 (forkB (!x16.1)
 (storeW H17 ⟨x,4,none⟩ [(.bool true)] fun H25=>
 lw H25 x 1 (pInt .i64) fun(x26:Int)=>
 storeW H25 ⟨x,1,none⟩ [(.int .i64 (IntKind.i64.wrap (x26+x12.2)))] fun H27=>
 next3 (()) H27)
 (storeW H17 ⟨x,4,none⟩ [(.bool (decide (x12.1≥128)))] fun H28=>
 lw H28 x 1 (pInt .i64) fun(x29:Int)=>
 storeW H28 ⟨x,1,none⟩ [(.int .i64 (IntKind.i64.wrap (x29+x12.2)))] fun H30=>
 next3 (()) H30)))))
 (retK (some []) H2 R))
 (retK (some []) H2 R))
 (retK (some []) H2 R)
theorem lexComment.enter (x:Nat) (H:Heap) (R:RR) (h:lexComment.W x H R):Fn PP fq42 #[(pq x)] H R:=
 fnS mixed Tryz.func42 ⟨patL [(9,(pInt .i64)),(13,pStr),(20,pStr),(24,(pInt .i64)),(32,pStr),(36,(pInt .i64)),(44,pStr),(48,(pInt .i64)),(49,pII),(62,⟨Bool×Bool,fun x=>(.tuple #[(.bool x.1),(.bool x.2)])⟩),(69,pBool),(87,(pInt .i64))],loopL [(0,[])],joinL [],joinL [],joinRL []⟩ _ H R (Eq.mp (by unfold lexComment.W;kernel_rfl) h)
def lexDigits.W (x:Nat) (i:Int) (H:Heap) (R:RR):Prop:=
 loopK (Int×Unit) (i,()) H fun z1 H2 next3=>
 callW PP fq46 #[(pq x),(.int .i64 z1.1)] H2 (pInt .u8) fun(x4:Int) H5=>
 callW PP fq47 #[(.int .u8 x4)] H5 pBool fun(x6:Bool) H7=>
 forkB x6
 (next3 ((IntKind.i64.wrap (z1.1+1)),()) H7)
 (retK (some [(.int .i64 z1.1)]) H7 R)
theorem lexDigits.enter (x:Nat) (i:Int) (H:Heap) (R:RR) (h:lexDigits.W x i H R):Fn PP fq115 #[(pq x),(.int .i64 i)] H R:=
 fnS mixed Tryz.func115 ⟨patL [(7,(pInt .u8)),(8,pBool)],loopL [(0,[Slot.int .i64 1])],joinL [],joinL [],joinRL []⟩ _ H R (Eq.mp (by unfold lexDigits.W;kernel_rfl) h)
def lexNumeral.W (x:Nat) (i:Int) (H:Heap) (R:RR):Prop:=
 callW PP fq46 #[(pq x),(.int .i64 i)] H (pInt .u8) fun(x1:Int) H2=>
 joinK (Int×Unit) (fun J3=>
 forkB (x1==45)
 (J3 ((IntKind.i64.wrap (i+1)),()) H2)
 (J3 (i,()) H2)) fun y4 H5=>
 callW PP fq115 #[(pq x),(.int .i64 y4.1)] H5 (pInt .i64) fun(x6:Int) H7=>
 joinPK (Bool×Unit) H7 (fun J8=>
 forkB (x6==y4.1)
 (J8 (true,()) H7)
 (lw H7 x 0 pStr fun(x10:ByteArray)=>
 ((0:Int)≤y4.1∧y4.1<((x10.size:Nat):Int))∧
 forkB ((bt x10 y4.1)==48)
 (J8 ((decide (x6>(IntKind.i64.wrap (y4.1+1)))),()) H7)
 (J8 (false,()) H7))) fun y9=>
 forkB y9.1
 (retK (some [(.int .i64 0),(.int .i64 0)]) H7 R)
 (callW PP fq46 #[(pq x),(.int .i64 x6)] H7 (pInt .u8) fun(x11:Int) H12=>
 joinK (Int×Int×Unit) (fun J13=>
 forkB (x11==46)
 (callW PP fq115 #[(pq x),(.int .i64 (IntKind.i64.wrap (x6+1)))] H12 (pInt .i64) fun(x16:Int) H17=>
 forkB (x16==(IntKind.i64.wrap (x6+1)))
 (retK (some [(.int .i64 0),(.int .i64 0)]) H17 R)
 (J13 (17,x16,()) H17))
 (J13 (16,x6,()) H12)) fun y14 H15=>
 callW PP fq46 #[(pq x),(.int .i64 y14.2.1)] H15 (pInt .u8) fun(x18:Int) H19=>
 joinPK (Bool×Unit) H19 (fun J20=>
 forkB (x18==101)
 (J20 (true,()) H19)
 (J20 ((x18==69),()) H19)) fun y21=>
 joinK (Int×Int×Unit) (fun J22=>
 forkB y21.1
 (callW PP fq46 #[(pq x),(.int .i64 (IntKind.i64.wrap (y14.2.1+1)))] H19 (pInt .u8) fun(x25:Int) H26=>
 joinPK (Bool×Unit) H26 (fun J27=>
 forkB (x25==43)
 (J27 (true,()) H26)
 (J27 ((x25==45),()) H26)) fun y28=>
 joinK (Int×Unit) (fun J29=>
 forkB y28.1
 (J29 ((IntKind.i64.wrap ((IntKind.i64.wrap (y14.2.1+1))+1)),()) H26)
 (J29 ((IntKind.i64.wrap (y14.2.1+1)),()) H26)) fun y30 H31=>
 callW PP fq115 #[(pq x),(.int .i64 y30.1)] H31 (pInt .i64) fun(x32:Int) H33=>
 forkB (x32==y30.1)
 (retK (some [(.int .i64 0),(.int .i64 0)]) H33 R)
 (J22 (17,x32,()) H33))
 (J22 (y14.1,y14.2.1,()) H19)) fun y23 H24=>
 retK (some [(.int .i64 y23.1),(.int .i64 y23.2.1)]) H24 R)
theorem lexNumeral.enter (x:Nat) (i:Int) (H:Heap) (R:RR) (h:lexNumeral.W x i H R):Fn PP fq84 #[(pq x),(.int .i64 i)] H R:=
 fnS mixed Tryz.func84 ⟨patL [(10,(pInt .u8)),(16,(pInt .i64)),(24,pStr),(37,(pInt .u8)),(44,(pInt .i64)),(50,(pInt .u8)),(61,(pInt .u8)),(72,(pInt .i64))],loopL [],joinL [(11,[Slot.int .i64 1]),(38,[Slot.int .i64 4,Slot.int .i64 5]),(56,[Slot.int .i64 4,Slot.int .i64 5]),(67,[Slot.int .i64 1])],joinL [],joinRL [(4,[Slot.bool 34],true),(13,[Slot.bool 56],true),(17,[Slot.bool 67],true)]⟩ _ H R (Eq.mp (by unfold lexNumeral.W;kernel_rfl) h)
def lexNumber.W (x:Nat) (H:Heap) (R:RR):Prop:=
 lw H x 1 (pInt .i64) fun(x1:Int)=>
 callW PP fq84 #[(pq x),(.int .i64 x1)] H pII fun(x2:Int×Int) H3=>
 forkB (x2.1==0)
 (callW PP fq51 #[(pq x)] H3 pUn fun(_:Unit) H5=>
 retK (some []) H5 R)
 (callW PP fq46 #[(pq x),(.int .i64 x2.2)] H3 (pInt .u8) fun(x6:Int) H7=>
 joinK (Bool×Unit) (fun J8=>
 forkB (x6==46)
 (J8 (true,()) H7)
 (callW PP fq45 #[(.int .u8 x6)] H7 pBool fun(x11:Bool) H12=>
 J8 (x11,()) H12)) fun y9 H10=>
 forkB y9.1
 (storeW H10 ⟨x,4,none⟩ [(.bool true)] fun H13=>
 callW PP fq51 #[(pq x)] H13 pUn fun(_:Unit) H15=>
 retK (some []) H15 R)
 (lw H10 x 0 pStr fun(x16:ByteArray)=>
 lw H10 x 1 (pInt .i64) fun(x17:Int)=>
 (((0:Int)≤x2.2∧x2.2≤((x16.size:Nat):Int))∧((0:Int)≤x17∧x17≤((x2.2.toNat:Nat):Int)))∧
 callW PP fq43 #[(pq x),(.int .i64 x2.1),(.int .i64 x2.2),(.string (x16.extract x17.toNat x2.2.toNat))] H10 pUn fun(_:Unit) H19=>
 retK (some []) H19 R))
theorem lexNumber.enter (x:Nat) (H:Heap) (R:RR) (h:lexNumber.W x H R):Fn PP fq48 #[(pq x)] H R:=
 fnS mixed Tryz.func48 ⟨patL [(10,(pInt .i64)),(11,pII),(17,pUn),(20,(pInt .u8)),(25,pBool),(31,pUn),(38,pStr),(42,(pInt .i64)),(45,pUn)],loopL [],joinL [],joinL [],joinRL [(4,[Slot.bool 26],false)]⟩ _ H R (Eq.mp (by unfold lexNumber.W;kernel_rfl) h)
def lexEscape.W (x:Nat) (i:Int) (H:Heap) (R:RR):Prop:=
 callW PP fq46 #[(pq x),(.int .i64 (IntKind.i64.wrap (i+1)))] H (pInt .u8) fun(x1:Int) H2=>
 loopK (Int×Unit) (0,()) H2 fun z3 H4 next5=>
 forkB (decide (z3.1<(((bs [34,92,47,98,102,110,114,116]).size:Nat):Int)))
 (((0:Int)≤z3.1∧z3.1<(((bs [34,92,47,98,102,110,114,116]).size:Nat):Int))∧
 forkB ((bt (bs [34,92,47,98,102,110,114,116]) z3.1)==x1)
 ((((0:Int)≤(IntKind.i64.wrap (z3.1+1))∧(IntKind.i64.wrap (z3.1+1))≤(((bs [34,92,47,8,12,10,13,9]).size:Nat):Int))∧((0:Int)≤z3.1∧z3.1≤(((IntKind.i64.wrap (z3.1+1)).toNat:Nat):Int)))∧
 retK (some [(.string ((bs [34,92,47,8,12,10,13,9]).extract z3.1.toNat (IntKind.i64.wrap (z3.1+1)).toNat)),(.int .i64 2)]) H4 R)
 (next5 ((IntKind.i64.wrap (z3.1+1)),()) H4))
 (forkB (x1 !=117)
 (retK (some [(.string (bs [])),(.int .i64 0)]) H4 R)
 (loopK (Int×Int×Unit) (0,(IntKind.i64.wrap (i+2)),()) H4 fun z6 H7 next8=>
 forkB (decide (z6.2.1<(IntKind.i64.wrap (i+6))))
 (callW PP fq46 #[(pq x),(.int .i64 z6.2.1)] H7 (pInt .u8) fun(x9:Int) H10=>
 callW PP fq119 #[(.int .u8 x9)] H10 (pInt .i64) fun(x11:Int) H12=>
 forkB (decide (x11<0))
 (lw H12 x 4 pBool fun(x13:Bool)=>
 forkB x13
 (storeW H12 ⟨x,4,none⟩ [(.bool true)] fun H14=>
 retK (some [(.string (bs [])),(.int .i64 0)]) H14 R)
 (callW PP fq46 #[(pq x),(.int .i64 z6.2.1)] H12 (pInt .u8) fun(x15:Int) H16=>
 storeW H16 ⟨x,4,none⟩ [(.bool (x15==123))] fun H17=>
 retK (some [(.string (bs [])),(.int .i64 0)]) H17 R))
 (next8 ((IntKind.i64.wrap ((IntKind.i64.wrap (16*z6.1))+x11)),(IntKind.i64.wrap (z6.2.1+1)),()) H12))
 (joinPK (Bool×Unit) H7 (fun J18=>
 forkB (decide (z6.1≥55296))
 (J18 ((decide (z6.1<57344)),()) H7)
 (J18 (false,()) H7)) fun y19=>
 forkB y19.1
 (storeW H7 ⟨x,4,none⟩ [(.bool true)] fun H20=>
 retK (some [(.string (bs [])),(.int .i64 0)]) H20 R)
 (lw H7 x 4 pBool fun(x21:Bool)=>
 forkB x21
 (storeW H7 ⟨x,4,none⟩ [(.bool true)] fun H22=>
 callW PP fq120 #[(.int .i64 z6.1)] H22 pStr fun(x23:ByteArray) H24=>
 retK (some [(.string x23),(.int .i64 6)]) H24 R)
 (storeW H7 ⟨x,4,none⟩ [(.bool (z6.1==0))] fun H25=>
 callW PP fq120 #[(.int .i64 z6.1)] H25 pStr fun(x26:ByteArray) H27=>
 retK (some [(.string x26),(.int .i64 6)]) H27 R)))))
theorem lexEscape.enter (x:Nat) (i:Int) (H:Heap) (R:RR) (h:lexEscape.W x i H R):Fn PP fq87 #[(pq x),(.int .i64 i)] H R:=
 fnS mixed Tryz.func87 ⟨patL [(16,(pInt .u8)),(45,(pInt .u8)),(46,(pInt .i64)),(53,pBool),(57,(pInt .u8)),(79,pBool),(87,pStr)],loopL [(0,[Slot.int .i64 9]),(2,[Slot.int .i64 10,Slot.int .i64 11])],joinL [],joinL [],joinRL [(20,[Slot.bool 71],true)]⟩ _ H R (Eq.mp (by unfold lexEscape.W;kernel_rfl) h)
def lexText.W (x:Nat) (H:Heap) (R:RR):Prop:=
 lw H x 1 (pInt .i64) fun(x1:Int)=>
 loopK (ByteArray×Int×Unit) ((bs []),(IntKind.i64.wrap (x1+1)),()) H fun z2 H3 next4=>
 lw H3 x 0 pStr fun(x5:ByteArray)=>
 forkB (decide (z2.2.1<((x5.size:Nat):Int)))
 (lw H3 x 0 pStr fun(x6:ByteArray)=>
 ((0:Int)≤z2.2.1∧z2.2.1<((x6.size:Nat):Int))∧
 forkB ((bt x6 z2.2.1)==34)
 (callW PP fq43 #[(pq x),(.int .i64 18),(.int .i64 (IntKind.i64.wrap (z2.2.1+1))),(.string z2.1)] H3 pUn fun(_:Unit) H8=>
 retK (some []) H8 R)
 (joinPK (Bool×Unit) H3 (fun J9=>
 forkB ((bt x6 z2.2.1)==10)
 (J9 (true,()) H3)
 (J9 (((bt x6 z2.2.1)==13),()) H3)) fun y10=>
 forkB y10.1
 (callW PP fq51 #[(pq x)] H3 pUn fun(_:Unit) H12=>
 retK (some []) H12 R)
 (forkB ((bt x6 z2.2.1)==92)
 (callW PP fq87 #[(pq x),(.int .i64 z2.2.1)] H3 ⟨ByteArray×Int,fun x=>(.tuple #[(.string x.1),(.int .i64 x.2)])⟩ fun(x13:ByteArray×Int) H14=>
 forkB (x13.2==0)
 (callW PP fq51 #[(pq x)] H14 pUn fun(_:Unit) H16=>
 retK (some []) H16 R)
 ((((z2.1.size+x13.1.size:Nat):Int)≤9223372036854775807)∧
 next4 ((z2.1++x13.1),(IntKind.i64.wrap (z2.2.1+x13.2)),()) H14))
 (lw H3 x 0 pStr fun(x17:ByteArray)=>
 callW PP fq82 #[(.string x17),(.int .i64 z2.2.1)] H3 pII fun(x18:Int×Int) H19=>
 callW PP fq83 #[(.int .i64 x18.1)] H19 ⟨Bool×Bool,fun x=>(.tuple #[(.bool x.1),(.bool x.2)])⟩ fun(x20:Bool×Bool) H21=>
 joinPK (Bool×Unit) H21 (fun J22=>
 forkB (x18.2==0)
 (J22 (true,()) H21)
 (J22 ((!x20.1),()) H21)) fun y23=>
 forkB y23.1
 (lw H21 x 4 pBool fun(x24:Bool)=>
 forkB x24
 (storeW H21 ⟨x,4,none⟩ [(.bool true)] fun H25=>
 callW PP fq51 #[(pq x)] H25 pUn fun(_:Unit) H27=>
 retK (some []) H27 R)
 (storeW H21 ⟨x,4,none⟩ [(.bool (x18.2==0))] fun H28=>
 callW PP fq51 #[(pq x)] H28 pUn fun(_:Unit) H30=>
 retK (some []) H30 R))
 (lw H21 x 4 pBool fun(x31:Bool)=>
 forkB x31
 (storeW H21 ⟨x,4,none⟩ [(.bool true)] fun H32=>
 lw H32 x 0 pStr fun(x33:ByteArray)=>
 (((0:Int)≤(IntKind.i64.wrap (z2.2.1+x18.2))∧(IntKind.i64.wrap (z2.2.1+x18.2))≤((x33.size:Nat):Int))∧((0:Int)≤z2.2.1∧z2.2.1≤(((IntKind.i64.wrap (z2.2.1+x18.2)).toNat:Nat):Int)))∧
 (((z2.1.size+(x33.extract z2.2.1.toNat (IntKind.i64.wrap (z2.2.1+x18.2)).toNat).size:Nat):Int)≤9223372036854775807)∧
 next4 ((z2.1++(x33.extract z2.2.1.toNat (IntKind.i64.wrap (z2.2.1+x18.2)).toNat)),(IntKind.i64.wrap (z2.2.1+x18.2)),()) H32)
 (storeW H21 ⟨x,4,none⟩ [(.bool (!x20.2))] fun H34=>
 lw H34 x 0 pStr fun(x35:ByteArray)=>
 (((0:Int)≤(IntKind.i64.wrap (z2.2.1+x18.2))∧(IntKind.i64.wrap (z2.2.1+x18.2))≤((x35.size:Nat):Int))∧((0:Int)≤z2.2.1∧z2.2.1≤(((IntKind.i64.wrap (z2.2.1+x18.2)).toNat:Nat):Int)))∧
 (((z2.1.size+(x35.extract z2.2.1.toNat (IntKind.i64.wrap (z2.2.1+x18.2)).toNat).size:Nat):Int)≤9223372036854775807)∧
 next4 ((z2.1++(x35.extract z2.2.1.toNat (IntKind.i64.wrap (z2.2.1+x18.2)).toNat)),(IntKind.i64.wrap (z2.2.1+x18.2)),()) H34))))))
 (callW PP fq51 #[(pq x)] H3 pUn fun(_:Unit) H37=>
 retK (some []) H37 R)
theorem lexText.enter (x:Nat) (H:Heap) (R:RR) (h:lexText.W x H R):Fn PP fq50 #[(pq x)] H R:=
 fnS mixed Tryz.func50 ⟨patL [(14,(pInt .i64)),(20,pStr),(26,pStr),(33,pStr),(35,pII),(40,⟨Bool×Bool,fun x=>(.tuple #[(.bool x.1),(.bool x.2)])⟩),(53,pBool),(61,pUn),(66,pBool),(77,pStr),(94,pUn),(103,pUn),(110,⟨ByteArray×Int,fun x=>(.tuple #[(.string x.1),(.int .i64 x.2)])⟩),(116,pUn),(124,pUn)],loopL [(0,[Slot.str 2,Slot.int .i64 3])],joinL [],joinL [],joinRL [(6,[Slot.bool 48],true),(13,[Slot.bool 95],true)]⟩ _ H R (Eq.mp (by unfold lexText.W;kernel_rfl) h)
def lexBlock.W (x:Nat) (H:Heap) (R:RR):Prop:=
 lw H x 1 (pInt .i64) fun(x1:Int)=>
 loopK (ByteArray×Int×Unit) ((bs []),(IntKind.i64.wrap (x1+3)),()) H fun z2 H3 next4=>
 lw H3 x 0 pStr fun(x5:ByteArray)=>
 forkB (decide (z2.2.1<((x5.size:Nat):Int)))
 (lw H3 x 0 pStr fun(x6:ByteArray)=>
 callW PP fq41 #[(.string x6),(.int .i64 z2.2.1),(.string (bs [34,34,34]))] H3 pBool fun(x7:Bool) H8=>
 forkB x7
 (lw H8 x 4 pBool fun(x9:Bool)=>
 forkB x9
 (storeW H8 ⟨x,4,none⟩ [(.bool true)] fun H10=>
 callW PP fq86 #[(.string z2.1)] H10 pStr fun(x11:ByteArray) H12=>
 callW PP fq43 #[(pq x),(.int .i64 19),(.int .i64 (IntKind.i64.wrap (z2.2.1+3))),(.string x11)] H12 pUn fun(_:Unit) H14=>
 retK (some []) H14 R)
 (callW PP fq85 #[(.string z2.1)] H8 pBool fun(x15:Bool) H16=>
 storeW H16 ⟨x,4,none⟩ [(.bool (!x15))] fun H17=>
 callW PP fq86 #[(.string z2.1)] H17 pStr fun(x18:ByteArray) H19=>
 callW PP fq43 #[(pq x),(.int .i64 19),(.int .i64 (IntKind.i64.wrap (z2.2.1+3))),(.string x18)] H19 pUn fun(_:Unit) H21=>
 retK (some []) H21 R))
 (lw H8 x 0 pStr fun(x22:ByteArray)=>
 callW PP fq41 #[(.string x22),(.int .i64 z2.2.1),(.string (bs [92,34,34,34]))] H8 pBool fun(x23:Bool) H24=>
 forkB x23
 (storeW H24 ⟨x,4,none⟩ [(.bool true)] fun H25=>
 (((z2.1.size+(bs [34,34,34]).size:Nat):Int)≤9223372036854775807)∧
 next4 ((z2.1++(bs [34,34,34])),(IntKind.i64.wrap (z2.2.1+4)),()) H25)
 (lw H24 x 0 pStr fun(x26:ByteArray)=>
 callW PP fq82 #[(.string x26),(.int .i64 z2.2.1)] H24 pII fun(x27:Int×Int) H28=>
 callW PP fq83 #[(.int .i64 x27.1)] H28 ⟨Bool×Bool,fun x=>(.tuple #[(.bool x.1),(.bool x.2)])⟩ fun(x29:Bool×Bool) H30=>
 joinPK (Bool×Unit) H30 (fun J31=>
 forkB (x27.2==0)
 (J31 (true,()) H30)
 (J31 ((!x29.1),()) H30)) fun y32=>
 forkB y32.1
 (lw H30 x 4 pBool fun(x33:Bool)=>
 forkB x33
 (storeW H30 ⟨x,4,none⟩ [(.bool true)] fun H34=>
 callW PP fq51 #[(pq x)] H34 pUn fun(_:Unit) H36=>
 retK (some []) H36 R)
 (storeW H30 ⟨x,4,none⟩ [(.bool (x27.2==0))] fun H37=>
 callW PP fq51 #[(pq x)] H37 pUn fun(_:Unit) H39=>
 retK (some []) H39 R))
 (lw H30 x 4 pBool fun(x40:Bool)=>
 forkB x40
 (storeW H30 ⟨x,4,none⟩ [(.bool true)] fun H41=>
 lw H41 x 0 pStr fun(x42:ByteArray)=>
 (((0:Int)≤(IntKind.i64.wrap (z2.2.1+x27.2))∧(IntKind.i64.wrap (z2.2.1+x27.2))≤((x42.size:Nat):Int))∧((0:Int)≤z2.2.1∧z2.2.1≤(((IntKind.i64.wrap (z2.2.1+x27.2)).toNat:Nat):Int)))∧
 (((z2.1.size+(x42.extract z2.2.1.toNat (IntKind.i64.wrap (z2.2.1+x27.2)).toNat).size:Nat):Int)≤9223372036854775807)∧
 next4 ((z2.1++(x42.extract z2.2.1.toNat (IntKind.i64.wrap (z2.2.1+x27.2)).toNat)),(IntKind.i64.wrap (z2.2.1+x27.2)),()) H41)
 (storeW H30 ⟨x,4,none⟩ [(.bool (!x29.2))] fun H43=>
 lw H43 x 0 pStr fun(x44:ByteArray)=>
 (((0:Int)≤(IntKind.i64.wrap (z2.2.1+x27.2))∧(IntKind.i64.wrap (z2.2.1+x27.2))≤((x44.size:Nat):Int))∧((0:Int)≤z2.2.1∧z2.2.1≤(((IntKind.i64.wrap (z2.2.1+x27.2)).toNat:Nat):Int)))∧
 (((z2.1.size+(x44.extract z2.2.1.toNat (IntKind.i64.wrap (z2.2.1+x27.2)).toNat).size:Nat):Int)≤9223372036854775807)∧
 next4 ((z2.1++(x44.extract z2.2.1.toNat (IntKind.i64.wrap (z2.2.1+x27.2)).toNat)),(IntKind.i64.wrap (z2.2.1+x27.2)),()) H43)))))
 (callW PP fq51 #[(pq x)] H3 pUn fun(_:Unit) H46=>
 retK (some []) H46 R)
theorem lexBlock.enter (x:Nat) (H:Heap) (R:RR) (h:lexBlock.W x H R):Fn PP fq49 #[(pq x)] H R:=
 fnS mixed Tryz.func49 ⟨patL [(11,(pInt .i64)),(17,pStr),(24,pStr),(26,pII),(31,⟨Bool×Bool,fun x=>(.tuple #[(.bool x.1),(.bool x.2)])⟩),(44,pBool),(52,pUn),(57,pBool),(68,pStr),(82,pStr),(84,pBool),(89,pBool),(92,pBool),(101,pStr),(102,pUn),(107,pStr),(109,pBool),(118,pUn)],loopL [(0,[Slot.str 2,Slot.int .i64 3])],joinL [],joinL [],joinRL [(5,[Slot.bool 39],true)]⟩ _ H R (Eq.mp (by unfold lexBlock.W;kernel_rfl) h)
def lexToken.W (x:Nat) (H:Heap) (R:RR):Prop:=
 lw H x 0 pStr fun(x1:ByteArray)=>
 lw H x 1 (pInt .i64) fun(x2:Int)=>
 ((0:Int)≤x2∧x2<((x1.size:Nat):Int))∧
 joinPK (Bool×Unit) H (fun J3=>
 forkB ((bt x1 x2)==32)
 (J3 (true,()) H)
 (forkB ((bt x1 x2)==9)
 (J3 (true,()) H)
 (forkB ((bt x1 x2)==10)
 (J3 (true,()) H)
 (forkB ((bt x1 x2)==13)
 (J3 (true,()) H)
 (J3 (((bt x1 x2)==44),()) H))))) fun y4=>
 forkB y4.1
 (lw H x 1 (pInt .i64) fun(x5:Int)=>
 storeW H ⟨x,1,none⟩ [(.int .i64 (IntKind.i64.wrap (x5+1)))] fun H6=>
 retK (some []) H6 R)
 (lw H x 0 pStr fun(x7:ByteArray)=>
 lw H x 1 (pInt .i64) fun(x8:Int)=>
 callW PP fq41 #[(.string x7),(.int .i64 x8),(.string (bs [239,187,191]))] H pBool fun(x9:Bool) H10=>
 forkB x9
 (storeW H10 ⟨x,4,none⟩ [(.bool true)] fun H11=>
 lw H11 x 1 (pInt .i64) fun(x12:Int)=>
 storeW H11 ⟨x,1,none⟩ [(.int .i64 (IntKind.i64.wrap (x12+3)))] fun H13=>
 retK (some []) H13 R)
 (forkB ((bt x1 x2)==35)
 (callW PP fq42 #[(pq x)] H10 pUn fun(_:Unit) H15=>
 retK (some []) H15 R)
 (lw H10 x 0 pStr fun(x16:ByteArray)=>
 lw H10 x 1 (pInt .i64) fun(x17:Int)=>
 callW PP fq41 #[(.string x16),(.int .i64 x17),(.string (bs [46,46,46]))] H10 pBool fun(x18:Bool) H19=>
 forkB x18
 (lw H19 x 1 (pInt .i64) fun(x20:Int)=>
 callW PP fq43 #[(pq x),(.int .i64 6),(.int .i64 (IntKind.i64.wrap (x20+3))),(.string (bs []))] H19 pUn fun(_:Unit) H22=>
 retK (some []) H22 R)
 (callW PP fq44 #[(.int .u8 (bt x1 x2))] H19 (pInt .i64) fun(x23:Int) H24=>
 forkB (decide (x23>0))
 (lw H24 x 1 (pInt .i64) fun(x25:Int)=>
 callW PP fq44 #[(.int .u8 (bt x1 x2))] H24 (pInt .i64) fun(x26:Int) H27=>
 lc H27 x 1 (.int .i64 x25)∧
 callW PP fq43 #[(pq x),(.int .i64 x26),(.int .i64 (IntKind.i64.wrap (x25+1))),(.string (bs []))] H27 pUn fun(_:Unit) H29=>
 retK (some []) H29 R)
 (callW PP fq45 #[(.int .u8 (bt x1 x2))] H24 pBool fun(x30:Bool) H31=>
 forkB x30
 (lw H31 x 1 (pInt .i64) fun(x32:Int)=>
 loopK (Int×Unit) (x32,()) H31 fun z33 H34 next35=>
 joinK (Bool×Unit) (fun J36=>
 callW PP fq46 #[(pq x),(.int .i64 z33.1)] H34 (pInt .u8) fun(x39:Int) H40=>
 callW PP fq45 #[(.int .u8 x39)] H40 pBool fun(x41:Bool) H42=>
 forkB x41
 (J36 (true,()) H42)
 (callW PP fq46 #[(pq x),(.int .i64 z33.1)] H42 (pInt .u8) fun(x43:Int) H44=>
 callW PP fq47 #[(.int .u8 x43)] H44 pBool fun(x45:Bool) H46=>
 J36 (x45,()) H46)) fun y37 H38=>
 forkB y37.1
 (next35 ((IntKind.i64.wrap (z33.1+1)),()) H38)
 (lw H38 x 0 pStr fun(x47:ByteArray)=>
 lw H38 x 1 (pInt .i64) fun(x48:Int)=>
 (((0:Int)≤z33.1∧z33.1≤((x47.size:Nat):Int))∧((0:Int)≤x48∧x48≤((z33.1.toNat:Nat):Int)))∧
 callW PP fq43 #[(pq x),(.int .i64 15),(.int .i64 z33.1),(.string (x47.extract x48.toNat z33.1.toNat))] H38 pUn fun(_:Unit) H50=>
 retK (some []) H50 R))
 (joinK (Bool×Unit) (fun J51=>
 forkB ((bt x1 x2)==45)
 (J51 (true,()) H31)
 (callW PP fq47 #[(.int .u8 (bt x1 x2))] H31 pBool fun(x54:Bool) H55=>
 J51 (x54,()) H55)) fun y52 H53=>
 forkB y52.1
 (callW PP fq48 #[(pq x)] H53 pUn fun(_:Unit) H57=>
 retK (some []) H57 R)
 (lw H53 x 0 pStr fun(x58:ByteArray)=>
 lw H53 x 1 (pInt .i64) fun(x59:Int)=>
 callW PP fq41 #[(.string x58),(.int .i64 x59),(.string (bs [34,34,34]))] H53 pBool fun(x60:Bool) H61=>
 forkB x60
 (callW PP fq49 #[(pq x)] H61 pUn fun(_:Unit) H63=>
 retK (some []) H63 R)
 (forkB ((bt x1 x2)==34)
 (callW PP fq50 #[(pq x)] H61 pUn fun(_:Unit) H65=>
 retK (some []) H65 R)
 (callW PP fq51 #[(pq x)] H61 pUn fun(_:Unit) H67=>
 retK (some []) H67 R)))))))))
theorem lexToken.enter (x:Nat) (H:Heap) (R:RR) (h:lexToken.W x H R):Fn PP fq18 #[(pq x)] H R:=
 fnS mixed Tryz.func18 ⟨patL [(7,pStr),(11,(pInt .i64)),(14,pUn),(37,(pInt .i64)),(45,pStr),(49,(pInt .i64)),(50,pBool),(57,(pInt .i64)),(65,pUn),(70,pStr),(74,(pInt .i64)),(75,pBool),(80,(pInt .i64)),(82,pUn),(85,(pInt .i64)),(89,(pInt .i64)),(93,(pInt .i64)),(95,pUn),(98,pBool),(102,(pInt .i64)),(105,(pInt .u8)),(106,pBool),(110,(pInt .u8)),(111,pBool),(120,pStr),(124,(pInt .i64)),(127,pUn),(133,pBool),(136,pUn),(141,pStr),(145,(pInt .i64)),(146,pBool),(148,pUn),(153,pUn)],loopL [(1,[Slot.int .i64 3])],joinL [],joinL [],joinRL [(2,[Slot.bool 15],true),(15,[Slot.bool 112],false),(18,[Slot.bool 128],false)]⟩ _ H R (Eq.mp (by unfold lexToken.W;kernel_rfl) h)
def lexed.W (s:ByteArray) (H:Heap) (R:RR):Prop:=
 newB H (.cells #[(.string s),(.int .i64 0),(.slice none 0 0),(.bool false),(.bool false)] tq75) fun b1 H2=>
 loopK (Unit) (()) H2 fun _z3 H4 next5=>
 lw H4 b1 3 pBool fun(x6:Bool)=>
 forkB (!x6)
 (lw H4 b1 1 (pInt .i64) fun(x7:Int)=>
 forkB (decide (x7<((s.size:Nat):Int)))
 (callW PP fq18 #[(pq b1)] H4 pUn fun(_:Unit) H9=>
 next5 (()) H9)
 (lw H4 b1 2 pSlc fun(x10:Sl)=>
 lw H4 b1 3 pBool fun(x11:Bool)=>
 lw H4 b1 4 pBool fun(x12:Bool)=>
 retK (some [(.slice x10.1 x10.2.1 x10.2.2),(.bool (!x11)),(.bool (!x12))]) H4 R))
 (lw H4 b1 2 pSlc fun(x13:Sl)=>
 lw H4 b1 3 pBool fun(x14:Bool)=>
 lw H4 b1 4 pBool fun(x15:Bool)=>
 retK (some [(.slice x13.1 x13.2.1 x13.2.2),(.bool (!x14)),(.bool (!x15))]) H4 R)
theorem lexed.enter (s:ByteArray) (H:Heap) (R:RR) (h:lexed.W s H R):Fn PP fq11 #[(.string s)] H R:=
 fnS mixed Tryz.func11 ⟨patL [(12,pBool),(18,(pInt .i64)),(24,pUn),(28,pSlc),(32,pBool),(37,pBool)],loopL [(0,[])],joinL [],joinL [],joinRL []⟩ _ H R (Eq.mp (by unfold lexed.W;kernel_rfl) h)
def Lex.W (s:ByteArray) (H:Heap) (R:RR):Prop:=
 callW PP fq11 #[(.string s)] H ⟨Sl×Bool×Bool,fun x=>(.tuple #[(.slice x.1.1 x.1.2.1 x.1.2.2),(.bool x.2.1),(.bool x.2.2)])⟩ fun(x1:Sl×Bool×Bool) H2=>
 forkB (!x1.2.1)
 (retK (some [(.slice none 0 0),(.bool false),(.bool x1.2.2)]) H2 R)
 (retK (some [(.slice x1.1.1 x1.1.2.1 x1.1.2.2),(.bool true),(.bool x1.2.2)]) H2 R)
theorem Lex.enter (s:ByteArray) (H:Heap) (R:RR) (h:Lex.W s H R):Fn PP fq8 #[(.string s)] H R:=
 fnS mixed Tryz.func8 (hz [(7,⟨Sl×Bool×Bool,fun x=>(.tuple #[(.slice x.1.1 x.1.2.1 x.1.2.2),(.bool x.2.1),(.bool x.2.2)])⟩)]) _ H R (Eq.mp (by unfold Lex.W;kernel_rfl) h)
end Go.Vx
