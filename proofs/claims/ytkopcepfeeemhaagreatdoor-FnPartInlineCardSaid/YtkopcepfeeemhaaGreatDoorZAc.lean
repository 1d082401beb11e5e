/- A part of the proof of what the last text of this claim says: WA0, WA1, WA2, WA3. Conditions: none. -/
import Derived.Test.YtkopcepfeeemhaaGreatDoorProg
import Derived.KernelRfl
import Derived.Test.YtkopcepfeeemhaaGreatDoorZAb
namespace Go.Vx
open Go Go.Proofs
abbrev pTk:Pat:=⟨Int×Int×Int×ByteArray,fun x=>(.agg #[(.int .i64 x.1),(.int .i64 x.2.1),(.int .i64 x.2.2.1),(.string x.2.2.2)])⟩
abbrev pNd:Pat:=⟨Int×ByteArray×ByteArray×ByteArray×Int×Int,fun x=>(.agg #[(.int .i64 x.1),(.string x.2.1),(.string x.2.2.1),(.string x.2.2.2.1),(.int .i64 x.2.2.2.2.1),(.int .i64 x.2.2.2.2.2)])⟩
abbrev pUn:Pat:=⟨Unit,fun _=>(.tuple #[])⟩
abbrev pTkE:Pat:=⟨Int×Int×Int×ByteArray,fun x=>(.tuple #[(.agg #[(.int .i64 x.1),(.int .i64 x.2.1),(.int .i64 x.2.2.1),(.string x.2.2.2)]),.nilIface])⟩
abbrev pSlE:Pat:=⟨(Option Addr×Nat×Nat),fun x=>(.tuple #[(.slice x.1 x.2.1 x.2.2),.nilIface])⟩
abbrev pRu:Pat:=⟨Int×Int,fun x=>(.tuple #[(.int .i32 x.1),(.int .i64 x.2)])⟩
abbrev pBlE:Pat:=⟨Nat,fun x=>(.tuple #[(.pointer (some ⟨x,0,none⟩)),.nilIface])⟩
abbrev pIfE:Pat:=⟨(Nat×Nat),fun x=>(.tuple #[(.iface x.1 (.pointer (some ⟨x.2,0,none⟩))),.nilIface])⟩
abbrev pIf:Pat:=⟨(Nat×Nat),fun x=>(.iface x.1 (.pointer (some ⟨x.2,0,none⟩)))⟩
abbrev pIE:Pat:=⟨Int,fun x=>(.tuple #[(.int .i64 x),.nilIface])⟩
abbrev pSIB:Pat:=⟨(Option Addr×Nat×Nat)×Int×Bool,fun x=>(.tuple #[(.slice x.1.1 x.1.2.1 x.1.2.2),(.int .i64 x.2.1),(.bool x.2.2)])⟩
abbrev pSl4:Pat:=⟨(Nat×Nat×Nat×Nat),fun x=>(.slice (some ⟨x.1,x.2.1,none⟩) x.2.2.1 x.2.2.2)⟩
abbrev pII:Pat:=⟨Int×Int,fun x=>(.tuple #[(.int .i64 x.1),(.int .i64 x.2)])⟩
abbrev pBoE:Pat:=⟨Bool,fun x=>(.tuple #[(.bool x),.nilIface])⟩
abbrev Sl:Type:=Option Addr×Nat×Nat
abbrev pq (b:Nat):Value:= .pointer (some ⟨b,0,none⟩)
abbrev RR:Type:=Value→Heap→Prop
def hz (l:List (Nat×Pat)):Hints:=⟨patL l,loopL [],joinL [],joinL [],joinRL []⟩
abbrev lw (H:Heap) (b o:Nat) (p:Pat) (K:p.α→Prop):Prop:=loadW H false 1 ⟨b,o,none⟩ p K
abbrev lc (H:Heap) (b o:Nat) (v:Value):Prop:=loadC H false 1 ⟨b,o,none⟩=some v
set_option maxRecDepth 100000
noncomputable abbrev PP:Program:=Tryz.prog
theorem mixed:Tryz.prog.follows .mixedOrders=true:=by kernel_rfl
abbrev fq315:FuncId:=315
abbrev fq177:FuncId:=177
abbrev fq214:FuncId:=214
abbrev fq178:FuncId:=178
abbrev fq162:FuncId:=162
abbrev fq158:FuncId:=158
abbrev fq215:FuncId:=215
abbrev fq159:FuncId:=159
abbrev fq174:FuncId:=174
abbrev fq152:FuncId:=152
abbrev fq213:FuncId:=213
abbrev fq169:FuncId:=169
abbrev fq175:FuncId:=175
abbrev fq176:FuncId:=176
abbrev fq160:FuncId:=160
abbrev fq155:FuncId:=155
abbrev fq212:FuncId:=212
abbrev fq156:FuncId:=156
abbrev fq204:FuncId:=204
abbrev fq234:FuncId:=234
abbrev fq200:FuncId:=200
abbrev fq203:FuncId:=203
abbrev fq202:FuncId:=202
abbrev fq205:FuncId:=205
abbrev fq148:FuncId:=148
abbrev fq248:FuncId:=248
abbrev fq236:FuncId:=236
abbrev fq166:FuncId:=166
abbrev fq145:FuncId:=145
abbrev fq147:FuncId:=147
abbrev fq140:FuncId:=140
abbrev fq208:FuncId:=208
abbrev fq206:FuncId:=206
abbrev fq161:FuncId:=161
abbrev fq157:FuncId:=157
abbrev fq209:FuncId:=209
abbrev fq172:FuncId:=172
abbrev fq262:FuncId:=262
abbrev fq244:FuncId:=244
abbrev fq242:FuncId:=242
abbrev fq245:FuncId:=245
abbrev fq232:FuncId:=232
abbrev fq198:FuncId:=198
abbrev fq247:FuncId:=247
abbrev fq17:FuncId:=17
abbrev fq27:FuncId:=27
abbrev fq68:FuncId:=68
abbrev fq33:FuncId:=33
abbrev fq30:FuncId:=30
abbrev fq64:FuncId:=64
abbrev fq120:FuncId:=120
abbrev fq74:FuncId:=74
abbrev fq128:FuncId:=128
abbrev fq129:FuncId:=129
abbrev fq66:FuncId:=66
abbrev fq65:FuncId:=65
abbrev fq121:FuncId:=121
abbrev fq70:FuncId:=70
abbrev fq122:FuncId:=122
abbrev fq71:FuncId:=71
abbrev fq123:FuncId:=123
abbrev fq187:FuncId:=187
abbrev fq216:FuncId:=216
abbrev fq38:FuncId:=38
abbrev fq67:FuncId:=67
abbrev fq73:FuncId:=73
abbrev fq124:FuncId:=124
abbrev fq126:FuncId:=126
abbrev fq127:FuncId:=127
abbrev fq125:FuncId:=125
abbrev fq184:FuncId:=184
abbrev fq130:FuncId:=130
abbrev fq185:FuncId:=185
abbrev fq186:FuncId:=186
abbrev fq188:FuncId:=188
abbrev fq189:FuncId:=189
abbrev fq190:FuncId:=190
abbrev fq191:FuncId:=191
abbrev fq192:FuncId:=192
abbrev fq193:FuncId:=193
abbrev fq194:FuncId:=194
abbrev fq118:FuncId:=118
abbrev fq179:FuncId:=179
abbrev fq180:FuncId:=180
abbrev fq119:FuncId:=119
abbrev fq181:FuncId:=181
abbrev fq182:FuncId:=182
abbrev fq183:FuncId:=183
abbrev fq63:FuncId:=63
abbrev fq117:FuncId:=117
abbrev fq69:FuncId:=69
abbrev fq3:FuncId:=3
abbrev fq4:FuncId:=4
abbrev fq5:FuncId:=5
abbrev fq6:FuncId:=6
abbrev fq7:FuncId:=7
abbrev fq8:FuncId:=8
abbrev fq9:FuncId:=9
abbrev fq10:FuncId:=10
abbrev fq11:FuncId:=11
abbrev fq12:FuncId:=12
abbrev fq13:FuncId:=13
abbrev fq14:FuncId:=14
abbrev fq18:FuncId:=18
abbrev fq25:FuncId:=25
abbrev fq15:FuncId:=15
abbrev fq28:FuncId:=28
abbrev fq136:FuncId:=136
abbrev fq196:FuncId:=196
abbrev fq243:FuncId:=243
abbrev fq261:FuncId:=261
abbrev fq256:FuncId:=256
abbrev fq257:FuncId:=257
abbrev fq226:FuncId:=226
abbrev fq225:FuncId:=225
abbrev fq230:FuncId:=230
abbrev fq241:FuncId:=241
abbrev fq228:FuncId:=228
abbrev fq229:FuncId:=229
abbrev fq231:FuncId:=231
abbrev fq197:FuncId:=197
abbrev fq227:FuncId:=227
abbrev fq246:FuncId:=246
abbrev fq255:FuncId:=255
abbrev fq263:FuncId:=263
abbrev fq271:FuncId:=271
abbrev fq37:FuncId:=37
abbrev fq149:FuncId:=149
abbrev fq87:FuncId:=87
abbrev fq61:FuncId:=61
abbrev fq116:FuncId:=116
abbrev fq143:FuncId:=143
abbrev fq137:FuncId:=137
abbrev fq95:FuncId:=95
abbrev fq106:FuncId:=106
abbrev fq92:FuncId:=92
abbrev fq141:FuncId:=141
abbrev fq85:FuncId:=85
abbrev fq114:FuncId:=114
abbrev fq96:FuncId:=96
abbrev fq173:FuncId:=173
abbrev fq154:FuncId:=154
abbrev fq108:FuncId:=108
abbrev fq115:FuncId:=115
abbrev fq105:FuncId:=105
abbrev fq107:FuncId:=107
abbrev fq138:FuncId:=138
abbrev fq101:FuncId:=101
abbrev fq102:FuncId:=102
abbrev fq112:FuncId:=112
abbrev fq94:FuncId:=94
abbrev fq113:FuncId:=113
abbrev fq110:FuncId:=110
abbrev fq168:FuncId:=168
abbrev fq93:FuncId:=93
abbrev fq103:FuncId:=103
abbrev fq97:FuncId:=97
abbrev fq98:FuncId:=98
abbrev fq210:FuncId:=210
abbrev fq146:FuncId:=146
abbrev fq144:FuncId:=144
abbrev fq211:FuncId:=211
abbrev fq235:FuncId:=235
abbrev fq91:FuncId:=91
abbrev fq109:FuncId:=109
abbrev fq142:FuncId:=142
abbrev fq89:FuncId:=89
abbrev fq90:FuncId:=90
abbrev fq88:FuncId:=88
abbrev fq207:FuncId:=207
abbrev fq165:FuncId:=165
abbrev fq164:FuncId:=164
abbrev fq151:FuncId:=151
abbrev fq104:FuncId:=104
abbrev fq100:FuncId:=100
abbrev fq99:FuncId:=99
abbrev fq171:FuncId:=171
abbrev fq233:FuncId:=233
abbrev fq170:FuncId:=170
abbrev fq111:FuncId:=111
abbrev fq167:FuncId:=167
abbrev fq62:FuncId:=62
abbrev fq153:FuncId:=153
abbrev fq163:FuncId:=163
abbrev fq139:FuncId:=139
abbrev fq150:FuncId:=150
abbrev fq201:FuncId:=201
abbrev fq199:FuncId:=199
abbrev fq86:FuncId:=86
abbrev fq16:FuncId:=16
abbrev fq75:FuncId:=75
abbrev fq81:FuncId:=81
abbrev fq251:FuncId:=251
abbrev fq23:FuncId:=23
abbrev fq49:FuncId:=49
abbrev fq50:FuncId:=50
abbrev fq19:FuncId:=19
abbrev fq26:FuncId:=26
abbrev fq20:FuncId:=20
abbrev fq78:FuncId:=78
abbrev fq133:FuncId:=133
abbrev fq79:FuncId:=79
abbrev fq76:FuncId:=76
abbrev fq24:FuncId:=24
abbrev fq22:FuncId:=22
abbrev fq21:FuncId:=21
abbrev fq52:FuncId:=52
abbrev fq32:FuncId:=32
abbrev fq134:FuncId:=134
abbrev fq57:FuncId:=57
abbrev fq84:FuncId:=84
abbrev fq35:FuncId:=35
abbrev fq250:FuncId:=250
abbrev fq47:FuncId:=47
abbrev fq48:FuncId:=48
abbrev fq59:FuncId:=59
abbrev fq83:FuncId:=83
abbrev fq56:FuncId:=56
abbrev fq44:FuncId:=44
abbrev fq45:FuncId:=45
abbrev fq135:FuncId:=135
abbrev fq132:FuncId:=132
abbrev fq218:FuncId:=218
abbrev fq222:FuncId:=222
abbrev fq217:FuncId:=217
abbrev fq249:FuncId:=249
abbrev fq239:FuncId:=239
abbrev fq224:FuncId:=224
abbrev fq220:FuncId:=220
abbrev fq221:FuncId:=221
abbrev fq238:FuncId:=238
abbrev fq223:FuncId:=223
abbrev fq195:FuncId:=195
abbrev fq82:FuncId:=82
abbrev fq29:FuncId:=29
abbrev fq53:FuncId:=53
abbrev fq54:FuncId:=54
abbrev fq58:FuncId:=58
abbrev fq55:FuncId:=55
abbrev fq36:FuncId:=36
abbrev fq60:FuncId:=60
abbrev fq219:FuncId:=219
abbrev fq34:FuncId:=34
abbrev fq237:FuncId:=237
abbrev fq80:FuncId:=80
abbrev fq51:FuncId:=51
abbrev fq131:FuncId:=131
abbrev fq77:FuncId:=77
abbrev fq42:FuncId:=42
abbrev fq43:FuncId:=43
abbrev fq41:FuncId:=41
abbrev fq31:FuncId:=31
abbrev fq39:FuncId:=39
abbrev fq40:FuncId:=40
abbrev fq46:FuncId:=46
abbrev fq258:FuncId:=258
abbrev fq240:FuncId:=240
abbrev tq65:TypeId:=65
abbrev tq20:TypeId:=20
abbrev tq180:TypeId:=180
abbrev tq306:TypeId:=306
abbrev tq182:TypeId:=182
abbrev tq273:TypeId:=273
abbrev tq260:TypeId:=260
abbrev tq308:TypeId:=308
abbrev tq125:TypeId:=125
abbrev tq194:TypeId:=194
abbrev tq187:TypeId:=187
abbrev tq303:TypeId:=303
abbrev tq205:TypeId:=205
abbrev tq197:TypeId:=197
abbrev tq199:TypeId:=199
abbrev tq265:TypeId:=265
abbrev tq189:TypeId:=189
abbrev tq301:TypeId:=301
abbrev tq251:TypeId:=251
abbrev tq297:TypeId:=297
abbrev tq312:TypeId:=312
abbrev tq185:TypeId:=185
abbrev tq115:TypeId:=115
abbrev tq113:TypeId:=113
abbrev tq131:TypeId:=131
abbrev tq299:TypeId:=299
abbrev tq238:TypeId:=238
abbrev tq319:TypeId:=319
abbrev tq316:TypeId:=316
abbrev tq202:TypeId:=202
abbrev tq109:TypeId:=109
abbrev tq234:TypeId:=234
abbrev tq222:TypeId:=222
abbrev tq191:TypeId:=191
abbrev tq322:TypeId:=322
abbrev tq183:TypeId:=183
abbrev tq269:TypeId:=269
abbrev tq255:TypeId:=255
abbrev tq173:TypeId:=173
abbrev tq176:TypeId:=176
abbrev tq175:TypeId:=175
abbrev tq375:TypeId:=375
abbrev tq397:TypeId:=397
abbrev tq41:TypeId:=41
abbrev tq138:TypeId:=138
abbrev tq63:TypeId:=63
abbrev tq3:TypeId:=3
abbrev tq21:TypeId:=21
abbrev tq85:TypeId:=85
abbrev tq394:TypeId:=394
abbrev tq96:TypeId:=96
abbrev tq304:TypeId:=304
abbrev tq99:TypeId:=99
abbrev tq270:TypeId:=270
abbrev tq257:TypeId:=257
abbrev tq307:TypeId:=307
abbrev tq123:TypeId:=123
abbrev tq126:TypeId:=126
abbrev tq117:TypeId:=117
abbrev tq302:TypeId:=302
abbrev tq203:TypeId:=203
abbrev tq128:TypeId:=128
abbrev tq129:TypeId:=129
abbrev tq262:TypeId:=262
abbrev tq120:TypeId:=120
abbrev tq300:TypeId:=300
abbrev tq248:TypeId:=248
abbrev tq295:TypeId:=295
abbrev tq309:TypeId:=309
abbrev tq111:TypeId:=111
abbrev tq107:TypeId:=107
abbrev tq298:TypeId:=298
abbrev tq235:TypeId:=235
abbrev tq317:TypeId:=317
abbrev tq313:TypeId:=313
abbrev tq200:TypeId:=200
abbrev tq104:TypeId:=104
abbrev tq231:TypeId:=231
abbrev tq218:TypeId:=218
abbrev tq192:TypeId:=192
abbrev tq102:TypeId:=102
abbrev tq266:TypeId:=266
abbrev tq252:TypeId:=252
abbrev tq169:TypeId:=169
abbrev tq93:TypeId:=93
abbrev tq328:TypeId:=328
abbrev tq60:TypeId:=60
abbrev tq88:TypeId:=88
abbrev tq46:TypeId:=46
abbrev tq90:TypeId:=90
abbrev tq92:TypeId:=92
abbrev tq30:TypeId:=30
abbrev tq145:TypeId:=145
abbrev tq326:TypeId:=326
abbrev tq73:TypeId:=73
abbrev tq49:TypeId:=49
abbrev tq9:TypeId:=9
abbrev tq5:TypeId:=5
abbrev g_first:Nat:=0
abbrev g_accept:Nat:=1
def isBegin.W (c:Int) (H:Heap) (R:RR):Prop:=
 forkB (decide (c≥97))
 (forkB (decide (c≤122))
 (retK (some [(.bool true)]) H R)
 (forkB (decide (c≥65))
 (forkB (decide (c≤90))
 (retK (some [(.bool true)]) H R)
 (retK (some [(.bool (c==95))]) H R))
 (retK (some [(.bool (c==95))]) H R)))
 (forkB (decide (c≥65))
 (forkB (decide (c≤90))
 (retK (some [(.bool true)]) H R)
 (retK (some [(.bool (c==95))]) H R))
 (retK (some [(.bool (c==95))]) H R))
theorem isBegin.enter (c:Int) (H:Heap) (R:RR) (h:isBegin.W c H R):Fn PP fq47 #[(.int .u8 c)] H R:=
 fnS mixed Tryz.func47 (hz []) _ H R (Eq.mp (by unfold isBegin.W;kernel_rfl) h)
def isDigit.W (c:Int) (H:Heap) (R:RR):Prop:=
 forkB (decide (c≥48))
 (retK (some [(.bool (decide (c≤57)))]) H R)
 (retK (some [(.bool false)]) H R)
theorem isDigit.enter (c:Int) (H:Heap) (R:RR) (h:isDigit.W c H R):Fn PP fq48 #[(.int .u8 c)] H R:=
 fnS mixed Tryz.func48 (hz []) _ H R (Eq.mp (by unfold isDigit.W;kernel_rfl) h)
def IsName.W (s:ByteArray) (H:Heap) (R:RR):Prop:=
 loopK (Int×Unit) (0,()) H fun z1 H2 next3=>
 forkB (decide (z1.1<((s.size:Nat):Int)))
 (((0:Int)≤z1.1∧z1.1<((s.size:Nat):Int))∧
 callW PP fq47 #[(.int .u8 (bt s z1.1))] H2 pBool fun(x4:Bool) H5=>
 forkB (!x4)
 (forkB (z1.1==0)
 (retK (some [(.bool false)]) H5 R)
 (((0:Int)≤z1.1∧z1.1<((s.size:Nat):Int))∧
 callW PP fq48 #[(.int .u8 (bt s z1.1))] H5 pBool fun(x6:Bool) H7=>
 forkB (!x6)
 (retK (some [(.bool false)]) H7 R)
 (next3 ((IntKind.i64.wrap (z1.1+1)),()) H7)))
 (next3 ((IntKind.i64.wrap (z1.1+1)),()) H5))
 (retK (some [(.bool (!(s.toList==(bs []).toList)))]) H2 R)
theorem IsName.enter (s:ByteArray) (H:Heap) (R:RR) (h:IsName.W s H R):Fn PP fq49 #[(.string s)] H R:=
 fnS mixed Tryz.func49 ⟨patL [(13,pBool),(22,pBool)],loopL [(0,[Slot.int .i64 3])],joinL [],joinL [],joinRL []⟩ _ H R (Eq.mp (by unfold IsName.W;kernel_rfl) h)
def Point.W (s:ByteArray) (at_:Int) (H:Heap) (R:RR):Prop:=
 ((0:Int)≤at_∧at_<((s.size:Nat):Int))∧
 forkB (decide ((IntKind.i64.wrap (bt s at_))<128))
 (retK (some [(.int .i64 (IntKind.i64.wrap (bt s at_))),(.int .i64 1)]) H R)
 (joinPK (Bool×Unit) H (fun J1=>
 forkB (decide ((IntKind.i64.wrap (bt s at_))≥194))
 (J1 ((decide ((IntKind.i64.wrap (bt s at_))<224)),()) H)
 (J1 (false,()) H)) fun y2=>
 joinK (Int×Int×Int×Unit) (fun J3=>
 forkB y2.1
 (J3 ((IntKind.i64.wrap ((IntKind.i64.wrap (bt s at_)) -192)),2,128,()) H)
 (joinPK (Bool×Unit) H (fun J6=>
 forkB (decide ((IntKind.i64.wrap (bt s at_))≥224))
 (J6 ((decide ((IntKind.i64.wrap (bt s at_))<240)),()) H)
 (J6 (false,()) H)) fun y7=>
 joinK (Int×Int×Int×Unit) (fun J8=>
 forkB y7.1
 (J8 ((IntKind.i64.wrap ((IntKind.i64.wrap (bt s at_)) -224)),3,2048,()) H)
 (joinPK (Bool×Unit) H (fun J11=>
 forkB (decide ((IntKind.i64.wrap (bt s at_))≥240))
 (J11 ((decide ((IntKind.i64.wrap (bt s at_))<245)),()) H)
 (J11 (false,()) H)) fun y12=>
 joinK (Int×Int×Int×Unit) (fun J13=>
 forkB y12.1
 (J13 ((IntKind.i64.wrap ((IntKind.i64.wrap (bt s at_)) -240)),4,65536,()) H)
 (J13 (0,0,0,()) H)) fun y14 H15=>
 J8 (y14.1,y14.2.1,y14.2.2.1,()) H15)) fun y9 H10=>
 J3 (y9.1,y9.2.1,y9.2.2.1,()) H10)) fun y4 H5=>
 joinPK (Bool×Unit) H5 (fun J16=>
 forkB (y4.2.1==0)
 (J16 (true,()) H5)
 (J16 ((decide ((IntKind.i64.wrap (at_+y4.2.1))>((s.size:Nat):Int))),()) H5)) fun y17=>
 forkB y17.1
 (retK (some [(.int .i64 0),(.int .i64 0)]) H5 R)
 (loopK (Int×Int×Int×Unit) (y4.1,y4.2.1,(IntKind.i64.wrap (at_+1)),()) H5 fun z18 H19 next20=>
 forkB (decide (z18.2.2.1<(IntKind.i64.wrap (at_+z18.2.1))))
 (joinPK (Bool×Unit) H19 (fun J21=>
 ((0:Int)≤z18.2.2.1∧z18.2.2.1<((s.size:Nat):Int))∧
 forkB (decide ((bt s z18.2.2.1)<128))
 (J21 (true,()) H19)
 (((0:Int)≤z18.2.2.1∧z18.2.2.1<((s.size:Nat):Int))∧
 J21 ((decide ((bt s z18.2.2.1)>191)),()) H19)) fun y22=>
 forkB y22.1
 (retK (some [(.int .i64 0),(.int .i64 0)]) H19 R)
 (((0:Int)≤z18.2.2.1∧z18.2.2.1<((s.size:Nat):Int))∧
 next20 ((IntKind.i64.wrap ((IntKind.i64.wrap ((IntKind.i64.wrap (z18.1*2^(min (6:Int).toNat 64)))+(IntKind.i64.wrap (bt s z18.2.2.1)))) -128)),z18.2.1,(IntKind.i64.wrap (z18.2.2.1+1)),()) H19))
 (joinPK (Bool×Unit) H19 (fun J23=>
 forkB (decide (z18.1<y4.2.2.1))
 (J23 (true,()) H19)
 (forkB (decide (z18.1>1114111))
 (J23 (true,()) H19)
 (forkB (decide (z18.1≥55296))
 (J23 ((decide (z18.1<57344)),()) H19)
 (J23 (false,()) H19)))) fun y24=>
 forkB y24.1
 (retK (some [(.int .i64 0),(.int .i64 0)]) H19 R)
 (retK (some [(.int .i64 z18.1),(.int .i64 z18.2.1)]) H19 R))))
theorem Point.enter (s:ByteArray) (at_:Int) (H:Heap) (R:RR) (h:Point.W s at_ H R):Fn PP fq79 #[(.string s),(.int .i64 at_)] H R:=
 fnS mixed Tryz.func79 ⟨patL [],loopL [(1,[Slot.int .i64 4,Slot.int .i64 5,Slot.int .i64 8])],joinL [(17,[Slot.int .i64 4,Slot.int .i64 5,Slot.int .i64 7]),(26,[Slot.int .i64 4,Slot.int .i64 5,Slot.int .i64 7]),(35,[Slot.int .i64 4,Slot.int .i64 5,Slot.int .i64 7])],joinL [],joinRL [(5,[Slot.bool 17],true),(7,[Slot.bool 26],true),(9,[Slot.bool 35],true),(11,[Slot.bool 53],true),(16,[Slot.bool 72],true),(19,[Slot.bool 95],true)]⟩ _ H R (Eq.mp (by unfold Point.W;kernel_rfl) h)
def hexadecimal.W (c:Int) (H:Heap) (R:RR):Prop:=
 forkB (decide (c≥48))
 (forkB (decide (c≤57))
 (retK (some [(.int .i64 (IntKind.i64.wrap (IntKind.u8.wrap (c -48))))]) H R)
 (forkB (decide (c≥97))
 (forkB (decide (c≤102))
 (retK (some [(.int .i64 (IntKind.i64.wrap ((IntKind.i64.wrap (IntKind.u8.wrap (c -97)))+10)))]) H R)
 (forkB (decide (c≥65))
 (forkB (decide (c≤70))
 (retK (some [(.int .i64 (IntKind.i64.wrap ((IntKind.i64.wrap (IntKind.u8.wrap (c -65)))+10)))]) H R)
 (retK (some [(.int .i64 (-1))]) H R))
 (retK (some [(.int .i64 (-1))]) H R)))
 (forkB (decide (c≥65))
 (forkB (decide (c≤70))
 (retK (some [(.int .i64 (IntKind.i64.wrap ((IntKind.i64.wrap (IntKind.u8.wrap (c -65)))+10)))]) H R)
 (retK (some [(.int .i64 (-1))]) H R))
 (retK (some [(.int .i64 (-1))]) H R))))
 (forkB (decide (c≥97))
 (forkB (decide (c≤102))
 (retK (some [(.int .i64 (IntKind.i64.wrap ((IntKind.i64.wrap (IntKind.u8.wrap (c -97)))+10)))]) H R)
 (forkB (decide (c≥65))
 (forkB (decide (c≤70))
 (retK (some [(.int .i64 (IntKind.i64.wrap ((IntKind.i64.wrap (IntKind.u8.wrap (c -65)))+10)))]) H R)
 (retK (some [(.int .i64 (-1))]) H R))
 (retK (some [(.int .i64 (-1))]) H R)))
 (forkB (decide (c≥65))
 (forkB (decide (c≤70))
 (retK (some [(.int .i64 (IntKind.i64.wrap ((IntKind.i64.wrap (IntKind.u8.wrap (c -65)))+10)))]) H R)
 (retK (some [(.int .i64 (-1))]) H R))
 (retK (some [(.int .i64 (-1))]) H R)))
theorem hexadecimal.enter (c:Int) (H:Heap) (R:RR) (h:hexadecimal.W c H R):Fn PP fq250 #[(.int .u8 c)] H R:=
 fnS mixed Tryz.func250 (hz []) _ H R (Eq.mp (by unfold hexadecimal.W;kernel_rfl) h)
def sign.W (c:Int) (H:Heap) (R:RR):Prop:=
 forkB (c==33)
 (retK (some [(.int .i64 2)]) H R)
 (forkB (c==36)
 (retK (some [(.int .i64 3)]) H R)
 (forkB (c==40)
 (retK (some [(.int .i64 4)]) H R)
 (forkB (c==41)
 (retK (some [(.int .i64 5)]) H R)
 (forkB (c==58)
 (retK (some [(.int .i64 7)]) H R)
 (forkB (c==61)
 (retK (some [(.int .i64 8)]) H R)
 (forkB (c==64)
 (retK (some [(.int .i64 9)]) H R)
 (forkB (c==91)
 (retK (some [(.int .i64 10)]) H R)
 (forkB (c==93)
 (retK (some [(.int .i64 11)]) H R)
 (forkB (c==123)
 (retK (some [(.int .i64 12)]) H R)
 (forkB (c==124)
 (retK (some [(.int .i64 13)]) H R)
 (forkB (c==125)
 (retK (some [(.int .i64 14)]) H R)
 (forkB (c==38)
 (retK (some [(.int .i64 20)]) H R)
 (retK (some [(.int .i64 0)]) H R)))))))))))))
theorem sign.enter (c:Int) (H:Heap) (R:RR) (h:sign.W c H R):Fn PP fq219 #[(.int .u8 c)] H R:=
 fnS mixed Tryz.func219 (hz []) _ H R (Eq.mp (by unfold sign.W;kernel_rfl) h)
def starts.W (s:ByteArray) (at_:Int) (t:ByteArray) (H:Heap) (R:RR):Prop:=
 forkB (decide ((IntKind.i64.wrap (at_+((t.size:Nat):Int)))≤((s.size:Nat):Int)))
 ((((0:Int)≤(IntKind.i64.wrap (at_+((t.size:Nat):Int)))∧(IntKind.i64.wrap (at_+((t.size:Nat):Int)))≤((s.size:Nat):Int))∧((0:Int)≤at_∧at_≤(((IntKind.i64.wrap (at_+((t.size:Nat):Int))).toNat:Nat):Int)))∧
 retK (some [(.bool ((s.extract at_.toNat (IntKind.i64.wrap (at_+((t.size:Nat):Int))).toNat).toList==t.toList))]) H R)
 (retK (some [(.bool false)]) H R)
theorem starts.enter (s:ByteArray) (at_:Int) (t:ByteArray) (H:Heap) (R:RR) (h:starts.W s at_ t H R):Fn PP fq80 #[(.string s),(.int .i64 at_),(.string t)] H R:=
 fnS mixed Tryz.func80 (hz []) _ H R (Eq.mp (by unfold starts.W;kernel_rfl) h)
def source_.W (c:Int) (H:Heap) (R:RR):Prop:=
 forkB (c==9)
 (retK (some [(.bool true),(.bool (decide (c≤65535)))]) H R)
 (forkB (c==10)
 (retK (some [(.bool true),(.bool (decide (c≤65535)))]) H R)
 (forkB (c==13)
 (retK (some [(.bool true),(.bool (decide (c≤65535)))]) H R)
 (retK (some [(.bool (decide (c≥32))),(.bool (decide (c≤65535)))]) H R)))
theorem source_.enter (c:Int) (H:Heap) (R:RR) (h:source_.W c H R):Fn PP fq237 #[(.int .i64 c)] H R:=
 fnS mixed Tryz.func237 (hz []) _ H R (Eq.mp (by unfold source_.W;kernel_rfl) h)
def Encoded.W (c:Int) (H:Heap) (R:RR):Prop:=
 newB H (.cells #[(.int .i32 (IntKind.i32.wrap c))] tq21) fun b1 H2=>
 runeW H2 ⟨b1,0,none⟩ fun(c3:Int)=>
 retK (some [(.string (Utf8.encode c3))]) H2 R
theorem Encoded.enter (c:Int) (H:Heap) (R:RR) (h:Encoded.W c H R):Fn PP fq251 #[(.int .i64 c)] H R:=
 fnS mixed Tryz.func251 (hz []) _ H R (Eq.mp (by unfold Encoded.W;kernel_rfl) h)
def textable.W (s:ByteArray) (H:Heap) (R:RR):Prop:=
 loopK (Int×Unit) (0,()) H fun z1 H2 next3=>
 forkB (decide (z1.1<((s.size:Nat):Int)))
 (callW PP fq79 #[(.string s),(.int .i64 z1.1)] H2 pII fun(x4:Int×Int) H5=>
 joinPK (Bool×Unit) H5 (fun J6=>
 forkB (x4.2==0)
 (J6 (true,()) H5)
 (forkB (x4.1==0)
 (J6 (true,()) H5)
 (J6 ((decide (x4.1>65535)),()) H5))) fun y7=>
 forkB y7.1
 (retK (some [(.bool false)]) H5 R)
 (next3 ((IntKind.i64.wrap (z1.1+x4.2)),()) H5))
 (retK (some [(.bool true)]) H2 R)
theorem textable.enter (s:ByteArray) (H:Heap) (R:RR) (h:textable.W s H R):Fn PP fq51 #[(.string s)] H R:=
 fnS mixed Tryz.func51 ⟨patL [(13,pII)],loopL [(0,[Slot.int .i64 3])],joinL [],joinL [],joinRL [(4,[Slot.bool 25],true)]⟩ _ H R (Eq.mp (by unfold textable.W;kernel_rfl) h)
def blockable.W (s:ByteArray) (H:Heap) (R:RR):Prop:=
 loopK (Int×Unit) (0,()) H fun z1 H2 next3=>
 forkB (decide (z1.1<((s.size:Nat):Int)))
 (callW PP fq79 #[(.string s),(.int .i64 z1.1)] H2 pII fun(x4:Int×Int) H5=>
 joinK (Bool×Unit) (fun J6=>
 forkB (x4.2==0)
 (J6 (true,()) H5)
 (forkB (x4.1 !=9)
 (forkB (x4.1 !=10)
 (forkB (decide (x4.1<32))
 (J6 (true,()) H5)
 (forkB (x4.1==127)
 (J6 (true,()) H5)
 (forkB (x4.1==65279)
 (J6 (true,()) H5)
 (forkB (decide (x4.1>65535))
 (J6 (true,()) H5)
 (callW PP fq80 #[(.string s),(.int .i64 z1.1),(.string (bs [34,34,34]))] H5 pBool fun(x9:Bool) H10=>
 J6 (x9,()) H10)))))
 (forkB (x4.1==127)
 (J6 (true,()) H5)
 (forkB (x4.1==65279)
 (J6 (true,()) H5)
 (forkB (decide (x4.1>65535))
 (J6 (true,()) H5)
 (callW PP fq80 #[(.string s),(.int .i64 z1.1),(.string (bs [34,34,34]))] H5 pBool fun(x11:Bool) H12=>
 J6 (x11,()) H12)))))
 (forkB (x4.1==127)
 (J6 (true,()) H5)
 (forkB (x4.1==65279)
 (J6 (true,()) H5)
 (forkB (decide (x4.1>65535))
 (J6 (true,()) H5)
 (callW PP fq80 #[(.string s),(.int .i64 z1.1),(.string (bs [34,34,34]))] H5 pBool fun(x13:Bool) H14=>
 J6 (x13,()) H14)))))) fun y7 H8=>
 forkB y7.1
 (retK (some [(.bool false)]) H8 R)
 (next3 ((IntKind.i64.wrap (z1.1+x4.2)),()) H8))
 (joinK (Bool×Unit) (fun J15=>
 ((((bs [10]).size+s.size:Nat):Int)≤9223372036854775807)∧
 (((((bs [10])++s).size+(bs [10]).size:Nat):Int)≤9223372036854775807)∧
 callW PP fq81 #[(.string (((bs [10])++s)++(bs [10])))] H2 pStr fun(x18:ByteArray) H19=>
 forkB (x18.toList==s.toList)
 (((((bs [10]).size+s.size:Nat):Int)≤9223372036854775807)∧
 (((((bs [10])++s).size+(bs [10]).size:Nat):Int)≤9223372036854775807)∧
 callW PP fq82 #[(.string (((bs [10])++s)++(bs [10])))] H19 pBool fun(x20:Bool) H21=>
 J15 (x20,()) H21)
 (J15 (false,()) H19)) fun y16 H17=>
 retK (some [(.bool y16.1)]) H17 R)
theorem blockable.enter (s:ByteArray) (H:Heap) (R:RR) (h:blockable.W s H R):Fn PP fq52 #[(.string s)] H R:=
 fnS mixed Tryz.func52 ⟨patL [(13,pII),(45,pBool),(53,pStr),(60,pBool)],loopL [(0,[Slot.int .i64 3])],joinL [],joinL [],joinRL [(4,[Slot.bool 46],false),(7,[Slot.bool 2],false)]⟩ _ H R (Eq.mp (by unfold blockable.W;kernel_rfl) h)
def leading.W (s:ByteArray) (H:Heap) (R:RR):Prop:=
 loopK (Int×Unit) (0,()) H fun z1 H2 next3=>
 joinPK (Bool×Unit) H2 (fun J4=>
 forkB (decide (z1.1<((s.size:Nat):Int)))
 (((0:Int)≤z1.1∧z1.1<((s.size:Nat):Int))∧
 forkB ((bt s z1.1)==32)
 (J4 (true,()) H2)
 (((0:Int)≤z1.1∧z1.1<((s.size:Nat):Int))∧
 J4 (((bt s z1.1)==9),()) H2))
 (J4 (false,()) H2)) fun y5=>
 forkB y5.1
 (next3 ((IntKind.i64.wrap (z1.1+1)),()) H2)
 (retK (some [(.int .i64 z1.1)]) H2 R)
theorem leading.enter (s:ByteArray) (H:Heap) (R:RR) (h:leading.W s H R):Fn PP fq135 #[(.string s)] H R:=
 fnS mixed Tryz.func135 ⟨patL [],loopL [(0,[Slot.int .i64 3])],joinL [],joinL [],joinRL [(2,[Slot.bool 19],true)]⟩ _ H R (Eq.mp (by unfold leading.W;kernel_rfl) h)
def common.W (l lO lN _lC:Nat) (H:Heap) (R:RR):Prop:=
 loopK (Int×Int×Unit) ((-1),1,()) H fun z1 H2 next3=>
 forkB (decide (z1.2.1<((lN:Nat):Int)))
 ((IxOk (some ⟨l,lO,none⟩) z1.2.1 lN)∧
 loadW H2 false 1 ⟨l,(lO+z1.2.1.toNat*1),none⟩ pStr fun(x4:ByteArray)=>
 callW PP fq135 #[(.string x4)] H2 (pInt .i64) fun(x5:Int) H6=>
 joinPK (Bool×Unit) H6 (fun J7=>
 (IxOk (some ⟨l,lO,none⟩) z1.2.1 lN)∧
 loadW H6 false 1 ⟨l,(lO+z1.2.1.toNat*1),none⟩ pStr fun(x9:ByteArray)=>
 forkB (decide (x5<((x9.size:Nat):Int)))
 (forkB (decide (z1.1<0))
 (J7 (true,()) H6)
 (J7 ((decide (x5<z1.1)),()) H6))
 (J7 (false,()) H6)) fun y8=>
 joinK (Int×Unit) (fun J10=>
 forkB y8.1
 (J10 (x5,()) H6)
 (J10 (z1.1,()) H6)) fun y11 H12=>
 next3 (y11.1,(IntKind.i64.wrap (z1.2.1+1)),()) H12)
 (retK (some [(.int .i64 (if 0>z1.1 then 0 else z1.1))]) H2 R)
theorem common.enter (l lO lN lC:Nat) (H:Heap) (R:RR) (h:common.W l lO lN lC H R):Fn PP fq134 #[(.slice (some ⟨l,lO,none⟩) lN lC)] H R:=
 fnS mixed Tryz.func134 ⟨patL [(15,pStr),(16,(pInt .i64)),(21,pStr)],loopL [(0,[Slot.int .i64 3,Slot.int .i64 4])],joinL [(32,[Slot.int .i64 3])],joinL [],joinRL [(6,[Slot.bool 32],true)]⟩ _ H R (Eq.mp (by unfold common.W;kernel_rfl) h)
def Lines.W (s:ByteArray) (H:Heap) (R:RR):Prop:=
 loopK (Sl×Int×Int×Unit) ((none,0,0),0,0,()) H fun z1 H2 next3=>
 forkB (decide (z1.2.2.1<((s.size:Nat):Int)))
 (joinPK (Bool×Unit) H2 (fun J4=>
 ((0:Int)≤z1.2.2.1∧z1.2.2.1<((s.size:Nat):Int))∧
 forkB ((bt s z1.2.2.1) !=10)
 (((0:Int)≤z1.2.2.1∧z1.2.2.1<((s.size:Nat):Int))∧
 J4 (((bt s z1.2.2.1) !=13),()) H2)
 (J4 (false,()) H2)) fun y5=>
 forkB y5.1
 (next3 ((z1.1.1,z1.1.2.1,z1.1.2.2),z1.2.1,(IntKind.i64.wrap (z1.2.2.1+1)),()) H2)
 ((((0:Int)≤z1.2.2.1∧z1.2.2.1≤((s.size:Nat):Int))∧((0:Int)≤z1.2.1∧z1.2.1≤((z1.2.2.1.toNat:Nat):Int)))∧
 newB H2 (.cells #[(.string (s.extract z1.2.1.toNat z1.2.2.1.toNat))] tq9) fun b6 H7=>
 appK H7 tq9 1 16 z1.1.1 z1.1.2.1 z1.1.2.2 (some ⟨b6,0,none⟩) 1 fun a8 c9 H10=>
 joinPK (Bool×Unit) H10 (fun J11=>
 ((0:Int)≤z1.2.2.1∧z1.2.2.1<((s.size:Nat):Int))∧
 forkB ((bt s z1.2.2.1)==13)
 (forkB (decide ((IntKind.i64.wrap (z1.2.2.1+1))<((s.size:Nat):Int)))
 (((0:Int)≤(IntKind.i64.wrap (z1.2.2.1+1))∧(IntKind.i64.wrap (z1.2.2.1+1))<((s.size:Nat):Int))∧
 J11 (((bt s (IntKind.i64.wrap (z1.2.2.1+1)))==10),()) H10)
 (J11 (false,()) H10))
 (J11 (false,()) H10)) fun y12=>
 joinK (Int×Unit) (fun J13=>
 forkB y12.1
 (J13 ((IntKind.i64.wrap (z1.2.2.1+1)),()) H10)
 (J13 (z1.2.2.1,()) H10)) fun y14 H15=>
 next3 ((a8,(z1.1.2.1+1),c9),(IntKind.i64.wrap (y14.1+1)),(IntKind.i64.wrap (y14.1+1)),()) H15))
 (((0:Int)≤z1.2.1∧z1.2.1≤((s.size:Nat):Int))∧
 newB H2 (.cells #[(.string (s.extract z1.2.1.toNat s.size))] tq9) fun b16 H17=>
 appK H17 tq9 1 16 z1.1.1 z1.1.2.1 z1.1.2.2 (some ⟨b16,0,none⟩) 1 fun a18 c19 H20=>
 retK (some [(.slice a18 (z1.1.2.1+1) c19)]) H20 R)
theorem Lines.enter (s:ByteArray) (H:Heap) (R:RR) (h:Lines.W s H R):Fn PP fq133 #[(.string s)] H R:=
 fnS mixed Tryz.func133 ⟨patL [],loopL [(0,[Slot.slc 3,Slot.int .i64 4,Slot.int .i64 5])],joinL [(46,[Slot.int .i64 5])],joinL [],joinRL [(6,[Slot.bool 21],true),(8,[Slot.bool 46],true)]⟩ _ H R (Eq.mp (by unfold Lines.W;kernel_rfl) h)
def plainBlock.W (raw:ByteArray) (H:Heap) (R:RR):Prop:=
 callW PP fq133 #[(.string raw)] H pSlc fun(x1:Sl) H2=>
 callW PP fq134 #[(.slice x1.1 x1.2.1 x1.2.2)] H2 (pInt .i64) fun(x3:Int) H4=>
 forkB (decide (x3>0))
 ((IxOk x1.1 0 x1.2.1)∧
 loadW H4 false 1 ⟨(blkOf x1.1),(offOf x1.1+(0:Int).toNat*1),none⟩ pStr fun(x5:ByteArray)=>
 (IxOk x1.1 0 x1.2.1)∧
 loadW H4 false 1 ⟨(blkOf x1.1),(offOf x1.1+(0:Int).toNat*1),none⟩ pStr fun(x6:ByteArray)=>
 callW PP fq135 #[(.string x5)] H4 (pInt .i64) fun(x7:Int) H8=>
 loadC H8 false 1 ⟨(blkOf x1.1),(offOf x1.1+(0:Int).toNat*1),none⟩=some (.string x6)∧
 forkB (decide (x7<((x6.size:Nat):Int)))
 (retK (some [(.bool false)]) H8 R)
 (loopK (Int×Unit) (1,()) H8 fun z9 H10 next11=>
 forkB (decide (z9.1<((x1.2.1:Nat):Int)))
 ((IxOk x1.1 z9.1 x1.2.1)∧
 loadW H10 false 1 ⟨(blkOf x1.1),(offOf x1.1+z9.1.toNat*1),none⟩ pStr fun(x12:ByteArray)=>
 (IxOk x1.1 z9.1 x1.2.1)∧
 loadW H10 false 1 ⟨(blkOf x1.1),(offOf x1.1+z9.1.toNat*1),none⟩ pStr fun(x13:ByteArray)=>
 callW PP fq135 #[(.string x12)] H10 (pInt .i64) fun(x14:Int) H15=>
 loadC H15 false 1 ⟨(blkOf x1.1),(offOf x1.1+z9.1.toNat*1),none⟩=some (.string x13)∧
 forkB (x14==((x13.size:Nat):Int))
 ((IxOk x1.1 z9.1 x1.2.1)∧
 loadW H15 false 1 ⟨(blkOf x1.1),(offOf x1.1+z9.1.toNat*1),none⟩ pStr fun(x16:ByteArray)=>
 forkB (decide (((x16.size:Nat):Int)>0))
 ((IxOk x1.1 z9.1 x1.2.1)∧
 loadW H15 false 1 ⟨(blkOf x1.1),(offOf x1.1+z9.1.toNat*1),none⟩ pStr fun(x17:ByteArray)=>
 forkB (decide (((x17.size:Nat):Int)<x3))
 (retK (some [(.bool false)]) H15 R)
 (next11 ((IntKind.i64.wrap (z9.1+1)),()) H15))
 (next11 ((IntKind.i64.wrap (z9.1+1)),()) H15))
 (next11 ((IntKind.i64.wrap (z9.1+1)),()) H15))
 (retK (some [(.bool true)]) H10 R)))
 (loopK (Int×Unit) (1,()) H4 fun z18 H19 next20=>
 forkB (decide (z18.1<((x1.2.1:Nat):Int)))
 ((IxOk x1.1 z18.1 x1.2.1)∧
 loadW H19 false 1 ⟨(blkOf x1.1),(offOf x1.1+z18.1.toNat*1),none⟩ pStr fun(x21:ByteArray)=>
 (IxOk x1.1 z18.1 x1.2.1)∧
 loadW H19 false 1 ⟨(blkOf x1.1),(offOf x1.1+z18.1.toNat*1),none⟩ pStr fun(x22:ByteArray)=>
 callW PP fq135 #[(.string x21)] H19 (pInt .i64) fun(x23:Int) H24=>
 loadC H24 false 1 ⟨(blkOf x1.1),(offOf x1.1+z18.1.toNat*1),none⟩=some (.string x22)∧
 forkB (x23==((x22.size:Nat):Int))
 ((IxOk x1.1 z18.1 x1.2.1)∧
 loadW H24 false 1 ⟨(blkOf x1.1),(offOf x1.1+z18.1.toNat*1),none⟩ pStr fun(x25:ByteArray)=>
 forkB (decide (((x25.size:Nat):Int)>0))
 ((IxOk x1.1 z18.1 x1.2.1)∧
 loadW H24 false 1 ⟨(blkOf x1.1),(offOf x1.1+z18.1.toNat*1),none⟩ pStr fun(x26:ByteArray)=>
 forkB (decide (((x26.size:Nat):Int)<x3))
 (retK (some [(.bool false)]) H24 R)
 (next20 ((IntKind.i64.wrap (z18.1+1)),()) H24))
 (next20 ((IntKind.i64.wrap (z18.1+1)),()) H24))
 (next20 ((IntKind.i64.wrap (z18.1+1)),()) H24))
 (retK (some [(.bool true)]) H19 R))
theorem plainBlock.enter (raw:ByteArray) (H:Heap) (R:RR) (h:plainBlock.W raw H R):Fn PP fq82 #[(.string raw)] H R:=
 fnS mixed Tryz.func82 ⟨patL [(7,pSlc),(9,(pInt .i64)),(15,pStr),(16,(pInt .i64)),(19,pStr),(32,pStr),(33,(pInt .i64)),(37,pStr),(44,pStr),(52,pStr)],loopL [(0,[Slot.int .i64 5])],joinL [],joinL [],joinRL []⟩ _ H R (Eq.mp (by unfold plainBlock.W;kernel_rfl) h)
def BlockValue.W (raw:ByteArray) (H:Heap) (R:RR):Prop:=
 callW PP fq133 #[(.string raw)] H pSlc fun(x1:Sl) H2=>
 callW PP fq134 #[(.slice x1.1 x1.2.1 x1.2.2)] H2 (pInt .i64) fun(x3:Int) H4=>
 loopK (Int×Unit) (1,()) H4 fun z5 H6 next7=>
 forkB (decide (z5.1<((x1.2.1:Nat):Int)))
 ((IxOk x1.1 z5.1 x1.2.1)∧
 loadW H6 false 1 ⟨(blkOf x1.1),(offOf x1.1+z5.1.toNat*1),none⟩ pStr fun(x8:ByteArray)=>
 (IxOk x1.1 z5.1 x1.2.1)∧
 loadW H6 false 1 ⟨(blkOf x1.1),(offOf x1.1+z5.1.toNat*1),none⟩ pStr fun(x9:ByteArray)=>
 ((0:Int)≤(if((x9.size:Nat):Int)<x3 then((x9.size:Nat):Int) else x3)∧(if((x9.size:Nat):Int)<x3 then((x9.size:Nat):Int) else x3)≤((x8.size:Nat):Int))∧
 (IxOk x1.1 z5.1 x1.2.1)∧
 storeW H6 ⟨(blkOf x1.1),(offOf x1.1+z5.1.toNat*1),none⟩ [(.string (x8.extract (if((x9.size:Nat):Int)<x3 then((x9.size:Nat):Int) else x3).toNat x8.size))] fun H10=>
 next7 ((IntKind.i64.wrap (z5.1+1)),()) H10)
 (joinK (Sl×Unit) (fun J11=>
 loopK (Sl×Unit) ((x1.1,x1.2.1,x1.2.2),()) H6 fun z14 H15 next16=>
 forkB (decide (((z14.1.2.1:Nat):Int)>0))
 ((IxOk z14.1.1 0 z14.1.2.1)∧
 loadW H15 false 1 ⟨(blkOf z14.1.1),(offOf z14.1.1+(0:Int).toNat*1),none⟩ pStr fun(x17:ByteArray)=>
 (IxOk z14.1.1 0 z14.1.2.1)∧
 loadW H15 false 1 ⟨(blkOf z14.1.1),(offOf z14.1.1+(0:Int).toNat*1),none⟩ pStr fun(x18:ByteArray)=>
 callW PP fq135 #[(.string x17)] H15 (pInt .i64) fun(x19:Int) H20=>
 loadC H20 false 1 ⟨(blkOf z14.1.1),(offOf z14.1.1+(0:Int).toNat*1),none⟩=some (.string x18)∧
 forkB (x19==((x18.size:Nat):Int))
 (((0:Int)≤1∧1≤((z14.1.2.1:Nat):Int))∧
 next16 (((slcA z14.1.1 z14.1.2.2 (1:Int).toNat 1),(z14.1.2.1 -(1:Int).toNat),(z14.1.2.2 -(1:Int).toNat)),()) H20)
 (J11 ((z14.1.1,z14.1.2.1,z14.1.2.2),()) H20))
 (J11 ((z14.1.1,z14.1.2.1,z14.1.2.2),()) H15)) fun y12 H13=>
 joinK (Sl×Unit) (fun J21=>
 loopK (Sl×Unit) ((y12.1.1,y12.1.2.1,y12.1.2.2),()) H13 fun z24 H25 next26=>
 forkB (decide (((z24.1.2.1:Nat):Int)>0))
 ((IxOk z24.1.1 (IntKind.i64.wrap (((z24.1.2.1:Nat):Int) -1)) z24.1.2.1)∧
 loadW H25 false 1 ⟨(blkOf z24.1.1),(offOf z24.1.1+(IntKind.i64.wrap (((z24.1.2.1:Nat):Int) -1)).toNat*1),none⟩ pStr fun(x27:ByteArray)=>
 (IxOk z24.1.1 (IntKind.i64.wrap (((z24.1.2.1:Nat):Int) -1)) z24.1.2.1)∧
 loadW H25 false 1 ⟨(blkOf z24.1.1),(offOf z24.1.1+(IntKind.i64.wrap (((z24.1.2.1:Nat):Int) -1)).toNat*1),none⟩ pStr fun(x28:ByteArray)=>
 callW PP fq135 #[(.string x27)] H25 (pInt .i64) fun(x29:Int) H30=>
 loadC H30 false 1 ⟨(blkOf z24.1.1),(offOf z24.1.1+(IntKind.i64.wrap (((z24.1.2.1:Nat):Int) -1)).toNat*1),none⟩=some (.string x28)∧
 forkB (x29==((x28.size:Nat):Int))
 (((0:Int)≤(IntKind.i64.wrap (((z24.1.2.1:Nat):Int) -1))∧(IntKind.i64.wrap (((z24.1.2.1:Nat):Int) -1))≤((z24.1.2.2:Nat):Int))∧
 next26 (((slcA z24.1.1 z24.1.2.2 0 1),(IntKind.i64.wrap (((z24.1.2.1:Nat):Int) -1)).toNat,z24.1.2.2),()) H30)
 (J21 ((z24.1.1,z24.1.2.1,z24.1.2.2),()) H30))
 (J21 ((z24.1.1,z24.1.2.1,z24.1.2.2),()) H25)) fun y22 H23=>
 loopK (ByteArray×Int×Unit) ((bs []),0,()) H23 fun z31 H32 next33=>
 forkB (decide (z31.2.1<((y22.1.2.1:Nat):Int)))
 (joinK (ByteArray×Unit) (fun J34=>
 forkB (decide (z31.2.1>0))
 ((((z31.1.size+(bs [10]).size:Nat):Int)≤9223372036854775807)∧
 J34 ((z31.1++(bs [10])),()) H32)
 (J34 (z31.1,()) H32)) fun y35 H36=>
 (IxOk y22.1.1 z31.2.1 y22.1.2.1)∧
 loadW H36 false 1 ⟨(blkOf y22.1.1),(offOf y22.1.1+z31.2.1.toNat*1),none⟩ pStr fun(x37:ByteArray)=>
 (((y35.1.size+x37.size:Nat):Int)≤9223372036854775807)∧
 next33 ((y35.1++x37),(IntKind.i64.wrap (z31.2.1+1)),()) H36)
 (retK (some [(.string z31.1)]) H32 R))
theorem BlockValue.enter (raw:ByteArray) (H:Heap) (R:RR) (h:BlockValue.W raw H R):Fn PP fq81 #[(.string raw)] H R:=
 fnS mixed Tryz.func81 ⟨patL [(9,pSlc),(11,(pInt .i64)),(23,pStr),(28,pStr),(39,pStr),(40,(pInt .i64)),(43,pStr),(58,pStr),(59,(pInt .i64)),(65,pStr),(88,pStr)],loopL [(0,[Slot.int .i64 5]),(2,[Slot.slc 3]),(4,[Slot.slc 3]),(6,[Slot.str 6,Slot.int .i64 7])],joinL [(81,[Slot.str 6])],joinL [(2,[Slot.slc 3]),(4,[Slot.slc 3])],joinRL []⟩ _ H R (Eq.mp (by unfold BlockValue.W;kernel_rfl) h)
def lexFail.W (x:Nat) (H:Heap) (R:RR):Prop:=
 storeW H ⟨x,3,none⟩ [(.bool true)] fun H1=>
 retK (some []) H1 R
theorem lexFail.enter (x:Nat) (H:Heap) (R:RR) (h:lexFail.W x H R):Fn PP fq224 #[(pq x)] H R:=
 fnS mixed Tryz.func224 (hz []) _ H R (Eq.mp (by unfold lexFail.W;kernel_rfl) h)
def lexAdd.W (x:Nat) (kind:Int) (to:Int) (value:ByteArray) (H:Heap) (R:RR):Prop:=
 lw H x 2 pSlc fun(x1:Sl)=>
 lw H x 1 (pInt .i64) fun(x2:Int)=>
 newB H (.cells #[(.int .i64 kind),(.string value),(.int .i64 x2),(.int .i64 to)] tq138) fun b3 H4=>
 lc H4 x 2 (.slice x1.1 x1.2.1 x1.2.2)∧
 appK H4 tq138 4 40 x1.1 x1.2.1 x1.2.2 (some ⟨b3,0,none⟩) 1 fun a5 c6 H7=>
 storeW H7 ⟨x,2,none⟩ [(.slice a5 (x1.2.1+1) c6)] fun H8=>
 storeW H8 ⟨x,1,none⟩ [(.int .i64 to)] fun H9=>
 retK (some []) H9 R
theorem lexAdd.enter (x:Nat) (kind:Int) (to:Int) (value:ByteArray) (H:Heap) (R:RR) (h:lexAdd.W x kind to value H R):Fn PP fq218 #[(pq x),(.int .i64 kind),(.int .i64 to),(.string value)] H R:=
 fnS mixed Tryz.func218 (hz [(12,pSlc),(18,(pInt .i64))]) _ H R (Eq.mp (by unfold lexAdd.W;kernel_rfl) h)
def lexNext.W (x:Nat) (i:Int) (H:Heap) (R:RR):Prop:=
 lw H x 0 pStr fun(x1:ByteArray)=>
 forkB (decide (i≥((x1.size:Nat):Int)))
 (retK (some [(.int .u8 0)]) H R)
 (lw H x 0 pStr fun(x2:ByteArray)=>
 ((0:Int)≤i∧i<((x2.size:Nat):Int))∧
 retK (some [(.int .u8 (bt x2 i))]) H R)
theorem lexNext.enter (x:Nat) (i:Int) (H:Heap) (R:RR) (h:lexNext.W x i H R):Fn PP fq220 #[(pq x),(.int .i64 i)] H R:=
 fnS mixed Tryz.func220 (hz [(9,pStr),(15,pStr)]) _ H R (Eq.mp (by unfold lexNext.W;kernel_rfl) h)
def lexComment.W (x:Nat) (H:Heap) (R:RR):Prop:=
 loopK (Unit) (()) H fun _z1 H2 next3=>
 lw H2 x 1 (pInt .i64) fun(x4:Int)=>
 lw H2 x 0 pStr fun(x5:ByteArray)=>
 forkB (decide (x4<((x5.size:Nat):Int)))
 (lw H2 x 0 pStr fun(x6:ByteArray)=>
 lw H2 x 1 (pInt .i64) fun(x7:Int)=>
 ((0:Int)≤x7∧x7<((x6.size:Nat):Int))∧
 forkB ((bt x6 x7) !=10)
 (lw H2 x 0 pStr fun(x8:ByteArray)=>
 lw H2 x 1 (pInt .i64) fun(x9:Int)=>
 ((0:Int)≤x9∧x9<((x8.size:Nat):Int))∧
 forkB ((bt x8 x9) !=13)
 (lw H2 x 0 pStr fun(x10:ByteArray)=>
 lw H2 x 1 (pInt .i64) fun(x11:Int)=>
 callW PP fq79 #[(.string x10),(.int .i64 x11)] H2 pII fun(x12:Int×Int) H13=>
 forkB (x12.2==0)
 (storeW H13 ⟨x,3,none⟩ [(.bool true)] fun H14=>
 storeW H14 ⟨x,4,none⟩ [(.bool true)] fun H15=>
 retK (some []) H15 R)
 (callW PP fq237 #[(.int .i64 x12.1)] H13 ⟨Bool×Bool,fun x=>(.tuple #[(.bool x.1),(.bool x.2)])⟩ fun(x16:Bool×Bool) H17=>
 lw H17 x 4 pBool fun(x18:Bool)=>
 forkB x18
 (storeW H17 ⟨x,4,none⟩ [(.bool true)] fun H19=>
 lw H19 x 1 (pInt .i64) fun(x20:Int)=>
 storeW H19 ⟨x,1,none⟩ [(.int .i64 (IntKind.i64.wrap (x20+x12.2)))] fun H21=>
 next3 (()) H21)
 (forkB (!x16.2)
 (storeW H17 ⟨x,4,none⟩ [(.bool true)] fun H22=>
 lw H22 x 1 (pInt .i64) fun(x23:Int)=>
 storeW H22 ⟨x,1,none⟩ [(.int .i64 (IntKind.i64.wrap (x23+x12.2)))] fun H24=>
 next3 (()) H24)
 (forkB (!x16.1)
 (storeW H17 ⟨x,4,none⟩ [(.bool true)] fun H25=>
 lw H25 x 1 (pInt .i64) fun(x26:Int)=>
 storeW H25 ⟨x,1,none⟩ [(.int .i64 (IntKind.i64.wrap (x26+x12.2)))] fun H27=>
 next3 (()) H27)
 (storeW H17 ⟨x,4,none⟩ [(.bool (decide (x12.1≥128)))] fun H28=>
 lw H28 x 1 (pInt .i64) fun(x29:Int)=>
 storeW H28 ⟨x,1,none⟩ [(.int .i64 (IntKind.i64.wrap (x29+x12.2)))] fun H30=>
 next3 (()) H30)))))
 (retK (some []) H2 R))
 (retK (some []) H2 R))
 (retK (some []) H2 R)
theorem lexComment.enter (x:Nat) (H:Heap) (R:RR) (h:lexComment.W x H R):Fn PP fq217 #[(pq x)] H R:=
 fnS mixed Tryz.func217 ⟨patL [(9,(pInt .i64)),(13,pStr),(20,pStr),(24,(pInt .i64)),(32,pStr),(36,(pInt .i64)),(44,pStr),(48,(pInt .i64)),(49,pII),(62,⟨Bool×Bool,fun x=>(.tuple #[(.bool x.1),(.bool x.2)])⟩),(69,pBool),(87,(pInt .i64))],loopL [(0,[])],joinL [],joinL [],joinRL []⟩ _ H R (Eq.mp (by unfold lexComment.W;kernel_rfl) h)
def lexDigits.W (x:Nat) (i:Int) (H:Heap) (R:RR):Prop:=
 loopK (Int×Unit) (i,()) H fun z1 H2 next3=>
 callW PP fq220 #[(pq x),(.int .i64 z1.1)] H2 (pInt .u8) fun(x4:Int) H5=>
 callW PP fq48 #[(.int .u8 x4)] H5 pBool fun(x6:Bool) H7=>
 forkB x6
 (next3 ((IntKind.i64.wrap (z1.1+1)),()) H7)
 (retK (some [(.int .i64 z1.1)]) H7 R)
theorem lexDigits.enter (x:Nat) (i:Int) (H:Heap) (R:RR) (h:lexDigits.W x i H R):Fn PP fq249 #[(pq x),(.int .i64 i)] H R:=
 fnS mixed Tryz.func249 ⟨patL [(7,(pInt .u8)),(8,pBool)],loopL [(0,[Slot.int .i64 1])],joinL [],joinL [],joinRL []⟩ _ H R (Eq.mp (by unfold lexDigits.W;kernel_rfl) h)
def lexNumeral.W (x:Nat) (i:Int) (H:Heap) (R:RR):Prop:=
 callW PP fq220 #[(pq x),(.int .i64 i)] H (pInt .u8) fun(x1:Int) H2=>
 joinK (Int×Unit) (fun J3=>
 forkB (x1==45)
 (J3 ((IntKind.i64.wrap (i+1)),()) H2)
 (J3 (i,()) H2)) fun y4 H5=>
 callW PP fq249 #[(pq x),(.int .i64 y4.1)] H5 (pInt .i64) fun(x6:Int) H7=>
 joinPK (Bool×Unit) H7 (fun J8=>
 forkB (x6==y4.1)
 (J8 (true,()) H7)
 (lw H7 x 0 pStr fun(x10:ByteArray)=>
 ((0:Int)≤y4.1∧y4.1<((x10.size:Nat):Int))∧
 forkB ((bt x10 y4.1)==48)
 (J8 ((decide (x6>(IntKind.i64.wrap (y4.1+1)))),()) H7)
 (J8 (false,()) H7))) fun y9=>
 forkB y9.1
 (retK (some [(.int .i64 0),(.int .i64 0)]) H7 R)
 (callW PP fq220 #[(pq x),(.int .i64 x6)] H7 (pInt .u8) fun(x11:Int) H12=>
 joinK (Int×Int×Unit) (fun J13=>
 forkB (x11==46)
 (callW PP fq249 #[(pq x),(.int .i64 (IntKind.i64.wrap (x6+1)))] H12 (pInt .i64) fun(x16:Int) H17=>
 forkB (x16==(IntKind.i64.wrap (x6+1)))
 (retK (some [(.int .i64 0),(.int .i64 0)]) H17 R)
 (J13 (17,x16,()) H17))
 (J13 (16,x6,()) H12)) fun y14 H15=>
 callW PP fq220 #[(pq x),(.int .i64 y14.2.1)] H15 (pInt .u8) fun(x18:Int) H19=>
 joinPK (Bool×Unit) H19 (fun J20=>
 forkB (x18==101)
 (J20 (true,()) H19)
 (J20 ((x18==69),()) H19)) fun y21=>
 joinK (Int×Int×Unit) (fun J22=>
 forkB y21.1
 (callW PP fq220 #[(pq x),(.int .i64 (IntKind.i64.wrap (y14.2.1+1)))] H19 (pInt .u8) fun(x25:Int) H26=>
 joinPK (Bool×Unit) H26 (fun J27=>
 forkB (x25==43)
 (J27 (true,()) H26)
 (J27 ((x25==45),()) H26)) fun y28=>
 joinK (Int×Unit) (fun J29=>
 forkB y28.1
 (J29 ((IntKind.i64.wrap ((IntKind.i64.wrap (y14.2.1+1))+1)),()) H26)
 (J29 ((IntKind.i64.wrap (y14.2.1+1)),()) H26)) fun y30 H31=>
 callW PP fq249 #[(pq x),(.int .i64 y30.1)] H31 (pInt .i64) fun(x32:Int) H33=>
 forkB (x32==y30.1)
 (retK (some [(.int .i64 0),(.int .i64 0)]) H33 R)
 (J22 (17,x32,()) H33))
 (J22 (y14.1,y14.2.1,()) H19)) fun y23 H24=>
 retK (some [(.int .i64 y23.1),(.int .i64 y23.2.1)]) H24 R)
theorem lexNumeral.enter (x:Nat) (i:Int) (H:Heap) (R:RR) (h:lexNumeral.W x i H R):Fn PP fq238 #[(pq x),(.int .i64 i)] H R:=
 fnS mixed Tryz.func238 ⟨patL [(10,(pInt .u8)),(16,(pInt .i64)),(24,pStr),(37,(pInt .u8)),(44,(pInt .i64)),(50,(pInt .u8)),(61,(pInt .u8)),(72,(pInt .i64))],loopL [],joinL [(11,[Slot.int .i64 1]),(38,[Slot.int .i64 4,Slot.int .i64 5]),(56,[Slot.int .i64 4,Slot.int .i64 5]),(67,[Slot.int .i64 1])],joinL [],joinRL [(4,[Slot.bool 34],true),(13,[Slot.bool 56],true),(17,[Slot.bool 67],true)]⟩ _ H R (Eq.mp (by unfold lexNumeral.W;kernel_rfl) h)
def lexNumber.W (x:Nat) (H:Heap) (R:RR):Prop:=
 lw H x 1 (pInt .i64) fun(x1:Int)=>
 callW PP fq238 #[(pq x),(.int .i64 x1)] H pII fun(x2:Int×Int) H3=>
 forkB (x2.1==0)
 (callW PP fq224 #[(pq x)] H3 pUn fun(_:Unit) H5=>
 retK (some []) H5 R)
 (callW PP fq220 #[(pq x),(.int .i64 x2.2)] H3 (pInt .u8) fun(x6:Int) H7=>
 joinK (Bool×Unit) (fun J8=>
 forkB (x6==46)
 (J8 (true,()) H7)
 (callW PP fq47 #[(.int .u8 x6)] H7 pBool fun(x11:Bool) H12=>
 J8 (x11,()) H12)) fun y9 H10=>
 forkB y9.1
 (storeW H10 ⟨x,4,none⟩ [(.bool true)] fun H13=>
 callW PP fq224 #[(pq x)] H13 pUn fun(_:Unit) H15=>
 retK (some []) H15 R)
 (lw H10 x 0 pStr fun(x16:ByteArray)=>
 lw H10 x 1 (pInt .i64) fun(x17:Int)=>
 (((0:Int)≤x2.2∧x2.2≤((x16.size:Nat):Int))∧((0:Int)≤x17∧x17≤((x2.2.toNat:Nat):Int)))∧
 callW PP fq218 #[(pq x),(.int .i64 x2.1),(.int .i64 x2.2),(.string (x16.extract x17.toNat x2.2.toNat))] H10 pUn fun(_:Unit) H19=>
 retK (some []) H19 R))
theorem lexNumber.enter (x:Nat) (H:Heap) (R:RR) (h:lexNumber.W x H R):Fn PP fq221 #[(pq x)] H R:=
 fnS mixed Tryz.func221 ⟨patL [(10,(pInt .i64)),(11,pII),(17,pUn),(20,(pInt .u8)),(25,pBool),(31,pUn),(38,pStr),(42,(pInt .i64)),(45,pUn)],loopL [],joinL [],joinL [],joinRL [(4,[Slot.bool 26],false)]⟩ _ H R (Eq.mp (by unfold lexNumber.W;kernel_rfl) h)
def lexEscape.W (x:Nat) (i:Int) (H:Heap) (R:RR):Prop:=
 callW PP fq220 #[(pq x),(.int .i64 (IntKind.i64.wrap (i+1)))] H (pInt .u8) fun(x1:Int) H2=>
 loopK (Int×Unit) (0,()) H2 fun z3 H4 next5=>
 forkB (decide (z3.1<(((bs [34,92,47,98,102,110,114,116]).size:Nat):Int)))
 (((0:Int)≤z3.1∧z3.1<(((bs [34,92,47,98,102,110,114,116]).size:Nat):Int))∧
 forkB ((bt (bs [34,92,47,98,102,110,114,116]) z3.1)==x1)
 ((((0:Int)≤(IntKind.i64.wrap (z3.1+1))∧(IntKind.i64.wrap (z3.1+1))≤(((bs [34,92,47,8,12,10,13,9]).size:Nat):Int))∧((0:Int)≤z3.1∧z3.1≤(((IntKind.i64.wrap (z3.1+1)).toNat:Nat):Int)))∧
 retK (some [(.string ((bs [34,92,47,8,12,10,13,9]).extract z3.1.toNat (IntKind.i64.wrap (z3.1+1)).toNat)),(.int .i64 2)]) H4 R)
 (next5 ((IntKind.i64.wrap (z3.1+1)),()) H4))
 (forkB (x1 !=117)
 (retK (some [(.string (bs [])),(.int .i64 0)]) H4 R)
 (loopK (Int×Int×Unit) (0,(IntKind.i64.wrap (i+2)),()) H4 fun z6 H7 next8=>
 forkB (decide (z6.2.1<(IntKind.i64.wrap (i+6))))
 (callW PP fq220 #[(pq x),(.int .i64 z6.2.1)] H7 (pInt .u8) fun(x9:Int) H10=>
 callW PP fq250 #[(.int .u8 x9)] H10 (pInt .i64) fun(x11:Int) H12=>
 forkB (decide (x11<0))
 (lw H12 x 4 pBool fun(x13:Bool)=>
 forkB x13
 (storeW H12 ⟨x,4,none⟩ [(.bool true)] fun H14=>
 retK (some [(.string (bs [])),(.int .i64 0)]) H14 R)
 (callW PP fq220 #[(pq x),(.int .i64 z6.2.1)] H12 (pInt .u8) fun(x15:Int) H16=>
 storeW H16 ⟨x,4,none⟩ [(.bool (x15==123))] fun H17=>
 retK (some [(.string (bs [])),(.int .i64 0)]) H17 R))
 (next8 ((IntKind.i64.wrap ((IntKind.i64.wrap (16*z6.1))+x11)),(IntKind.i64.wrap (z6.2.1+1)),()) H12))
 (joinPK (Bool×Unit) H7 (fun J18=>
 forkB (decide (z6.1≥55296))
 (J18 ((decide (z6.1<57344)),()) H7)
 (J18 (false,()) H7)) fun y19=>
 forkB y19.1
 (storeW H7 ⟨x,4,none⟩ [(.bool true)] fun H20=>
 retK (some [(.string (bs [])),(.int .i64 0)]) H20 R)
 (lw H7 x 4 pBool fun(x21:Bool)=>
 forkB x21
 (storeW H7 ⟨x,4,none⟩ [(.bool true)] fun H22=>
 callW PP fq251 #[(.int .i64 z6.1)] H22 pStr fun(x23:ByteArray) H24=>
 retK (some [(.string x23),(.int .i64 6)]) H24 R)
 (storeW H7 ⟨x,4,none⟩ [(.bool (z6.1==0))] fun H25=>
 callW PP fq251 #[(.int .i64 z6.1)] H25 pStr fun(x26:ByteArray) H27=>
 retK (some [(.string x26),(.int .i64 6)]) H27 R)))))
theorem lexEscape.enter (x:Nat) (i:Int) (H:Heap) (R:RR) (h:lexEscape.W x i H R):Fn PP fq239 #[(pq x),(.int .i64 i)] H R:=
 fnS mixed Tryz.func239 ⟨patL [(16,(pInt .u8)),(45,(pInt .u8)),(46,(pInt .i64)),(53,pBool),(57,(pInt .u8)),(79,pBool),(87,pStr)],loopL [(0,[Slot.int .i64 9]),(2,[Slot.int .i64 10,Slot.int .i64 11])],joinL [],joinL [],joinRL [(20,[Slot.bool 71],true)]⟩ _ H R (Eq.mp (by unfold lexEscape.W;kernel_rfl) h)
def lexText.W (x:Nat) (H:Heap) (R:RR):Prop:=
 lw H x 1 (pInt .i64) fun(x1:Int)=>
 loopK (ByteArray×Int×Unit) ((bs []),(IntKind.i64.wrap (x1+1)),()) H fun z2 H3 next4=>
 lw H3 x 0 pStr fun(x5:ByteArray)=>
 forkB (decide (z2.2.1<((x5.size:Nat):Int)))
 (lw H3 x 0 pStr fun(x6:ByteArray)=>
 ((0:Int)≤z2.2.1∧z2.2.1<((x6.size:Nat):Int))∧
 forkB ((bt x6 z2.2.1)==34)
 (callW PP fq218 #[(pq x),(.int .i64 18),(.int .i64 (IntKind.i64.wrap (z2.2.1+1))),(.string z2.1)] H3 pUn fun(_:Unit) H8=>
 retK (some []) H8 R)
 (joinPK (Bool×Unit) H3 (fun J9=>
 forkB ((bt x6 z2.2.1)==10)
 (J9 (true,()) H3)
 (J9 (((bt x6 z2.2.1)==13),()) H3)) fun y10=>
 forkB y10.1
 (callW PP fq224 #[(pq x)] H3 pUn fun(_:Unit) H12=>
 retK (some []) H12 R)
 (forkB ((bt x6 z2.2.1)==92)
 (callW PP fq239 #[(pq x),(.int .i64 z2.2.1)] H3 ⟨ByteArray×Int,fun x=>(.tuple #[(.string x.1),(.int .i64 x.2)])⟩ fun(x13:ByteArray×Int) H14=>
 forkB (x13.2==0)
 (callW PP fq224 #[(pq x)] H14 pUn fun(_:Unit) H16=>
 retK (some []) H16 R)
 ((((z2.1.size+x13.1.size:Nat):Int)≤9223372036854775807)∧
 next4 ((z2.1++x13.1),(IntKind.i64.wrap (z2.2.1+x13.2)),()) H14))
 (lw H3 x 0 pStr fun(x17:ByteArray)=>
 callW PP fq79 #[(.string x17),(.int .i64 z2.2.1)] H3 pII fun(x18:Int×Int) H19=>
 callW PP fq237 #[(.int .i64 x18.1)] H19 ⟨Bool×Bool,fun x=>(.tuple #[(.bool x.1),(.bool x.2)])⟩ fun(x20:Bool×Bool) H21=>
 joinPK (Bool×Unit) H21 (fun J22=>
 forkB (x18.2==0)
 (J22 (true,()) H21)
 (J22 ((!x20.1),()) H21)) fun y23=>
 forkB y23.1
 (lw H21 x 4 pBool fun(x24:Bool)=>
 forkB x24
 (storeW H21 ⟨x,4,none⟩ [(.bool true)] fun H25=>
 callW PP fq224 #[(pq x)] H25 pUn fun(_:Unit) H27=>
 retK (some []) H27 R)
 (storeW H21 ⟨x,4,none⟩ [(.bool (x18.2==0))] fun H28=>
 callW PP fq224 #[(pq x)] H28 pUn fun(_:Unit) H30=>
 retK (some []) H30 R))
 (lw H21 x 4 pBool fun(x31:Bool)=>
 forkB x31
 (storeW H21 ⟨x,4,none⟩ [(.bool true)] fun H32=>
 lw H32 x 0 pStr fun(x33:ByteArray)=>
 (((0:Int)≤(IntKind.i64.wrap (z2.2.1+x18.2))∧(IntKind.i64.wrap (z2.2.1+x18.2))≤((x33.size:Nat):Int))∧((0:Int)≤z2.2.1∧z2.2.1≤(((IntKind.i64.wrap (z2.2.1+x18.2)).toNat:Nat):Int)))∧
 (((z2.1.size+(x33.extract z2.2.1.toNat (IntKind.i64.wrap (z2.2.1+x18.2)).toNat).size:Nat):Int)≤9223372036854775807)∧
 next4 ((z2.1++(x33.extract z2.2.1.toNat (IntKind.i64.wrap (z2.2.1+x18.2)).toNat)),(IntKind.i64.wrap (z2.2.1+x18.2)),()) H32)
 (storeW H21 ⟨x,4,none⟩ [(.bool (!x20.2))] fun H34=>
 lw H34 x 0 pStr fun(x35:ByteArray)=>
 (((0:Int)≤(IntKind.i64.wrap (z2.2.1+x18.2))∧(IntKind.i64.wrap (z2.2.1+x18.2))≤((x35.size:Nat):Int))∧((0:Int)≤z2.2.1∧z2.2.1≤(((IntKind.i64.wrap (z2.2.1+x18.2)).toNat:Nat):Int)))∧
 (((z2.1.size+(x35.extract z2.2.1.toNat (IntKind.i64.wrap (z2.2.1+x18.2)).toNat).size:Nat):Int)≤9223372036854775807)∧
 next4 ((z2.1++(x35.extract z2.2.1.toNat (IntKind.i64.wrap (z2.2.1+x18.2)).toNat)),(IntKind.i64.wrap (z2.2.1+x18.2)),()) H34))))))
 (callW PP fq224 #[(pq x)] H3 pUn fun(_:Unit) H37=>
 retK (some []) H37 R)
theorem lexText.enter (x:Nat) (H:Heap) (R:RR) (h:lexText.W x H R):Fn PP fq223 #[(pq x)] H R:=
 fnS mixed Tryz.func223 ⟨patL [(14,(pInt .i64)),(20,pStr),(26,pStr),(33,pStr),(35,pII),(40,⟨Bool×Bool,fun x=>(.tuple #[(.bool x.1),(.bool x.2)])⟩),(53,pBool),(61,pUn),(66,pBool),(77,pStr),(94,pUn),(103,pUn),(110,⟨ByteArray×Int,fun x=>(.tuple #[(.string x.1),(.int .i64 x.2)])⟩),(116,pUn),(124,pUn)],loopL [(0,[Slot.str 2,Slot.int .i64 3])],joinL [],joinL [],joinRL [(6,[Slot.bool 48],true),(13,[Slot.bool 95],true)]⟩ _ H R (Eq.mp (by unfold lexText.W;kernel_rfl) h)
def lexBlock.W (x:Nat) (H:Heap) (R:RR):Prop:=
 lw H x 1 (pInt .i64) fun(x1:Int)=>
 loopK (ByteArray×Int×Unit) ((bs []),(IntKind.i64.wrap (x1+3)),()) H fun z2 H3 next4=>
 lw H3 x 0 pStr fun(x5:ByteArray)=>
 forkB (decide (z2.2.1<((x5.size:Nat):Int)))
 (lw H3 x 0 pStr fun(x6:ByteArray)=>
 callW PP fq80 #[(.string x6),(.int .i64 z2.2.1),(.string (bs [34,34,34]))] H3 pBool fun(x7:Bool) H8=>
 forkB x7
 (lw H8 x 4 pBool fun(x9:Bool)=>
 forkB x9
 (storeW H8 ⟨x,4,none⟩ [(.bool true)] fun H10=>
 callW PP fq81 #[(.string z2.1)] H10 pStr fun(x11:ByteArray) H12=>
 callW PP fq218 #[(pq x),(.int .i64 19),(.int .i64 (IntKind.i64.wrap (z2.2.1+3))),(.string x11)] H12 pUn fun(_:Unit) H14=>
 retK (some []) H14 R)
 (callW PP fq82 #[(.string z2.1)] H8 pBool fun(x15:Bool) H16=>
 storeW H16 ⟨x,4,none⟩ [(.bool (!x15))] fun H17=>
 callW PP fq81 #[(.string z2.1)] H17 pStr fun(x18:ByteArray) H19=>
 callW PP fq218 #[(pq x),(.int .i64 19),(.int .i64 (IntKind.i64.wrap (z2.2.1+3))),(.string x18)] H19 pUn fun(_:Unit) H21=>
 retK (some []) H21 R))
 (lw H8 x 0 pStr fun(x22:ByteArray)=>
 callW PP fq80 #[(.string x22),(.int .i64 z2.2.1),(.string (bs [92,34,34,34]))] H8 pBool fun(x23:Bool) H24=>
 forkB x23
 (storeW H24 ⟨x,4,none⟩ [(.bool true)] fun H25=>
 (((z2.1.size+(bs [34,34,34]).size:Nat):Int)≤9223372036854775807)∧
 next4 ((z2.1++(bs [34,34,34])),(IntKind.i64.wrap (z2.2.1+4)),()) H25)
 (lw H24 x 0 pStr fun(x26:ByteArray)=>
 callW PP fq79 #[(.string x26),(.int .i64 z2.2.1)] H24 pII fun(x27:Int×Int) H28=>
 callW PP fq237 #[(.int .i64 x27.1)] H28 ⟨Bool×Bool,fun x=>(.tuple #[(.bool x.1),(.bool x.2)])⟩ fun(x29:Bool×Bool) H30=>
 joinPK (Bool×Unit) H30 (fun J31=>
 forkB (x27.2==0)
 (J31 (true,()) H30)
 (J31 ((!x29.1),()) H30)) fun y32=>
 forkB y32.1
 (lw H30 x 4 pBool fun(x33:Bool)=>
 forkB x33
 (storeW H30 ⟨x,4,none⟩ [(.bool true)] fun H34=>
 callW PP fq224 #[(pq x)] H34 pUn fun(_:Unit) H36=>
 retK (some []) H36 R)
 (storeW H30 ⟨x,4,none⟩ [(.bool (x27.2==0))] fun H37=>
 callW PP fq224 #[(pq x)] H37 pUn fun(_:Unit) H39=>
 retK (some []) H39 R))
 (lw H30 x 4 pBool fun(x40:Bool)=>
 forkB x40
 (storeW H30 ⟨x,4,none⟩ [(.bool true)] fun H41=>
 lw H41 x 0 pStr fun(x42:ByteArray)=>
 (((0:Int)≤(IntKind.i64.wrap (z2.2.1+x27.2))∧(IntKind.i64.wrap (z2.2.1+x27.2))≤((x42.size:Nat):Int))∧((0:Int)≤z2.2.1∧z2.2.1≤(((IntKind.i64.wrap (z2.2.1+x27.2)).toNat:Nat):Int)))∧
 (((z2.1.size+(x42.extract z2.2.1.toNat (IntKind.i64.wrap (z2.2.1+x27.2)).toNat).size:Nat):Int)≤9223372036854775807)∧
 next4 ((z2.1++(x42.extract z2.2.1.toNat (IntKind.i64.wrap (z2.2.1+x27.2)).toNat)),(IntKind.i64.wrap (z2.2.1+x27.2)),()) H41)
 (storeW H30 ⟨x,4,none⟩ [(.bool (!x29.2))] fun H43=>
 lw H43 x 0 pStr fun(x44:ByteArray)=>
 (((0:Int)≤(IntKind.i64.wrap (z2.2.1+x27.2))∧(IntKind.i64.wrap (z2.2.1+x27.2))≤((x44.size:Nat):Int))∧((0:Int)≤z2.2.1∧z2.2.1≤(((IntKind.i64.wrap (z2.2.1+x27.2)).toNat:Nat):Int)))∧
 (((z2.1.size+(x44.extract z2.2.1.toNat (IntKind.i64.wrap (z2.2.1+x27.2)).toNat).size:Nat):Int)≤9223372036854775807)∧
 next4 ((z2.1++(x44.extract z2.2.1.toNat (IntKind.i64.wrap (z2.2.1+x27.2)).toNat)),(IntKind.i64.wrap (z2.2.1+x27.2)),()) H43)))))
 (callW PP fq224 #[(pq x)] H3 pUn fun(_:Unit) H46=>
 retK (some []) H46 R)
theorem lexBlock.enter (x:Nat) (H:Heap) (R:RR) (h:lexBlock.W x H R):Fn PP fq222 #[(pq x)] H R:=
 fnS mixed Tryz.func222 ⟨patL [(11,(pInt .i64)),(17,pStr),(24,pStr),(26,pII),(31,⟨Bool×Bool,fun x=>(.tuple #[(.bool x.1),(.bool x.2)])⟩),(44,pBool),(52,pUn),(57,pBool),(68,pStr),(82,pStr),(84,pBool),(89,pBool),(92,pBool),(101,pStr),(102,pUn),(107,pStr),(109,pBool),(118,pUn)],loopL [(0,[Slot.str 2,Slot.int .i64 3])],joinL [],joinL [],joinRL [(5,[Slot.bool 39],true)]⟩ _ H R (Eq.mp (by unfold lexBlock.W;kernel_rfl) h)
def lexToken.W (x:Nat) (H:Heap) (R:RR):Prop:=
 lw H x 0 pStr fun(x1:ByteArray)=>
 lw H x 1 (pInt .i64) fun(x2:Int)=>
 ((0:Int)≤x2∧x2<((x1.size:Nat):Int))∧
 joinPK (Bool×Unit) H (fun J3=>
 forkB ((bt x1 x2)==32)
 (J3 (true,()) H)
 (forkB ((bt x1 x2)==9)
 (J3 (true,()) H)
 (forkB ((bt x1 x2)==10)
 (J3 (true,()) H)
 (forkB ((bt x1 x2)==13)
 (J3 (true,()) H)
 (J3 (((bt x1 x2)==44),()) H))))) fun y4=>
 forkB y4.1
 (lw H x 1 (pInt .i64) fun(x5:Int)=>
 storeW H ⟨x,1,none⟩ [(.int .i64 (IntKind.i64.wrap (x5+1)))] fun H6=>
 retK (some []) H6 R)
 (lw H x 0 pStr fun(x7:ByteArray)=>
 lw H x 1 (pInt .i64) fun(x8:Int)=>
 callW PP fq80 #[(.string x7),(.int .i64 x8),(.string (bs [239,187,191]))] H pBool fun(x9:Bool) H10=>
 forkB x9
 (storeW H10 ⟨x,4,none⟩ [(.bool true)] fun H11=>
 lw H11 x 1 (pInt .i64) fun(x12:Int)=>
 storeW H11 ⟨x,1,none⟩ [(.int .i64 (IntKind.i64.wrap (x12+3)))] fun H13=>
 retK (some []) H13 R)
 (forkB ((bt x1 x2)==35)
 (callW PP fq217 #[(pq x)] H10 pUn fun(_:Unit) H15=>
 retK (some []) H15 R)
 (lw H10 x 0 pStr fun(x16:ByteArray)=>
 lw H10 x 1 (pInt .i64) fun(x17:Int)=>
 callW PP fq80 #[(.string x16),(.int .i64 x17),(.string (bs [46,46,46]))] H10 pBool fun(x18:Bool) H19=>
 forkB x18
 (lw H19 x 1 (pInt .i64) fun(x20:Int)=>
 callW PP fq218 #[(pq x),(.int .i64 6),(.int .i64 (IntKind.i64.wrap (x20+3))),(.string (bs []))] H19 pUn fun(_:Unit) H22=>
 retK (some []) H22 R)
 (callW PP fq219 #[(.int .u8 (bt x1 x2))] H19 (pInt .i64) fun(x23:Int) H24=>
 forkB (decide (x23>0))
 (lw H24 x 1 (pInt .i64) fun(x25:Int)=>
 callW PP fq219 #[(.int .u8 (bt x1 x2))] H24 (pInt .i64) fun(x26:Int) H27=>
 lc H27 x 1 (.int .i64 x25)∧
 callW PP fq218 #[(pq x),(.int .i64 x26),(.int .i64 (IntKind.i64.wrap (x25+1))),(.string (bs []))] H27 pUn fun(_:Unit) H29=>
 retK (some []) H29 R)
 (callW PP fq47 #[(.int .u8 (bt x1 x2))] H24 pBool fun(x30:Bool) H31=>
 forkB x30
 (lw H31 x 1 (pInt .i64) fun(x32:Int)=>
 loopK (Int×Unit) (x32,()) H31 fun z33 H34 next35=>
 joinK (Bool×Unit) (fun J36=>
 callW PP fq220 #[(pq x),(.int .i64 z33.1)] H34 (pInt .u8) fun(x39:Int) H40=>
 callW PP fq47 #[(.int .u8 x39)] H40 pBool fun(x41:Bool) H42=>
 forkB x41
 (J36 (true,()) H42)
 (callW PP fq220 #[(pq x),(.int .i64 z33.1)] H42 (pInt .u8) fun(x43:Int) H44=>
 callW PP fq48 #[(.int .u8 x43)] H44 pBool fun(x45:Bool) H46=>
 J36 (x45,()) H46)) fun y37 H38=>
 forkB y37.1
 (next35 ((IntKind.i64.wrap (z33.1+1)),()) H38)
 (lw H38 x 0 pStr fun(x47:ByteArray)=>
 lw H38 x 1 (pInt .i64) fun(x48:Int)=>
 (((0:Int)≤z33.1∧z33.1≤((x47.size:Nat):Int))∧((0:Int)≤x48∧x48≤((z33.1.toNat:Nat):Int)))∧
 callW PP fq218 #[(pq x),(.int .i64 15),(.int .i64 z33.1),(.string (x47.extract x48.toNat z33.1.toNat))] H38 pUn fun(_:Unit) H50=>
 retK (some []) H50 R))
 (joinK (Bool×Unit) (fun J51=>
 forkB ((bt x1 x2)==45)
 (J51 (true,()) H31)
 (callW PP fq48 #[(.int .u8 (bt x1 x2))] H31 pBool fun(x54:Bool) H55=>
 J51 (x54,()) H55)) fun y52 H53=>
 forkB y52.1
 (callW PP fq221 #[(pq x)] H53 pUn fun(_:Unit) H57=>
 retK (some []) H57 R)
 (lw H53 x 0 pStr fun(x58:ByteArray)=>
 lw H53 x 1 (pInt .i64) fun(x59:Int)=>
 callW PP fq80 #[(.string x58),(.int .i64 x59),(.string (bs [34,34,34]))] H53 pBool fun(x60:Bool) H61=>
 forkB x60
 (callW PP fq222 #[(pq x)] H61 pUn fun(_:Unit) H63=>
 retK (some []) H63 R)
 (forkB ((bt x1 x2)==34)
 (callW PP fq223 #[(pq x)] H61 pUn fun(_:Unit) H65=>
 retK (some []) H65 R)
 (callW PP fq224 #[(pq x)] H61 pUn fun(_:Unit) H67=>
 retK (some []) H67 R)))))))))
theorem lexToken.enter (x:Nat) (H:Heap) (R:RR) (h:lexToken.W x H R):Fn PP fq195 #[(pq x)] H R:=
 fnS mixed Tryz.func195 ⟨patL [(7,pStr),(11,(pInt .i64)),(14,pUn),(37,(pInt .i64)),(45,pStr),(49,(pInt .i64)),(50,pBool),(57,(pInt .i64)),(65,pUn),(70,pStr),(74,(pInt .i64)),(75,pBool),(80,(pInt .i64)),(82,pUn),(85,(pInt .i64)),(89,(pInt .i64)),(93,(pInt .i64)),(95,pUn),(98,pBool),(102,(pInt .i64)),(105,(pInt .u8)),(106,pBool),(110,(pInt .u8)),(111,pBool),(120,pStr),(124,(pInt .i64)),(127,pUn),(133,pBool),(136,pUn),(141,pStr),(145,(pInt .i64)),(146,pBool),(148,pUn),(153,pUn)],loopL [(1,[Slot.int .i64 3])],joinL [],joinL [],joinRL [(2,[Slot.bool 15],true),(15,[Slot.bool 112],false),(18,[Slot.bool 128],false)]⟩ _ H R (Eq.mp (by unfold lexToken.W;kernel_rfl) h)
def lexed.W (s:ByteArray) (H:Heap) (R:RR):Prop:=
 newB H (.cells #[(.string s),(.int .i64 0),(.slice none 0 0),(.bool false),(.bool false)] tq326) fun b1 H2=>
 loopK (Unit) (()) H2 fun _z3 H4 next5=>
 lw H4 b1 3 pBool fun(x6:Bool)=>
 forkB (!x6)
 (lw H4 b1 1 (pInt .i64) fun(x7:Int)=>
 forkB (decide (x7<((s.size:Nat):Int)))
 (callW PP fq195 #[(pq b1)] H4 pUn fun(_:Unit) H9=>
 next5 (()) H9)
 (lw H4 b1 2 pSlc fun(x10:Sl)=>
 lw H4 b1 3 pBool fun(x11:Bool)=>
 lw H4 b1 4 pBool fun(x12:Bool)=>
 retK (some [(.slice x10.1 x10.2.1 x10.2.2),(.bool (!x11)),(.bool (!x12))]) H4 R))
 (lw H4 b1 2 pSlc fun(x13:Sl)=>
 lw H4 b1 3 pBool fun(x14:Bool)=>
 lw H4 b1 4 pBool fun(x15:Bool)=>
 retK (some [(.slice x13.1 x13.2.1 x13.2.2),(.bool (!x14)),(.bool (!x15))]) H4 R)
theorem lexed.enter (s:ByteArray) (H:Heap) (R:RR) (h:lexed.W s H R):Fn PP fq132 #[(.string s)] H R:=
 fnS mixed Tryz.func132 ⟨patL [(12,pBool),(18,(pInt .i64)),(24,pUn),(28,pSlc),(32,pBool),(37,pBool)],loopL [(0,[])],joinL [],joinL [],joinRL []⟩ _ H R (Eq.mp (by unfold lexed.W;kernel_rfl) h)
def Lex.W (s:ByteArray) (H:Heap) (R:RR):Prop:=
 callW PP fq132 #[(.string s)] H ⟨Sl×Bool×Bool,fun x=>(.tuple #[(.slice x.1.1 x.1.2.1 x.1.2.2),(.bool x.2.1),(.bool x.2.2)])⟩ fun(x1:Sl×Bool×Bool) H2=>
 forkB (!x1.2.1)
 (retK (some [(.slice none 0 0),(.bool false),(.bool x1.2.2)]) H2 R)
 (retK (some [(.slice x1.1.1 x1.1.2.1 x1.1.2.2),(.bool true),(.bool x1.2.2)]) H2 R)
theorem Lex.enter (s:ByteArray) (H:Heap) (R:RR) (h:Lex.W s H R):Fn PP fq78 #[(.string s)] H R:=
 fnS mixed Tryz.func78 (hz [(7,⟨Sl×Bool×Bool,fun x=>(.tuple #[(.slice x.1.1 x.1.2.1 x.1.2.2),(.bool x.2.1),(.bool x.2.2)])⟩)]) _ H R (Eq.mp (by unfold Lex.W;kernel_rfl) h)
def IsNumber.W (s:ByteArray) (kind:Int) (H:Heap) (R:RR):Prop:=
 callW PP fq78 #[(.string s)] H ⟨Sl×Bool×Bool,fun x=>(.tuple #[(.slice x.1.1 x.1.2.1 x.1.2.2),(.bool x.2.1),(.bool x.2.2)])⟩ fun(x1:Sl×Bool×Bool) H2=>
 forkB x1.2.1
 (forkB x1.2.2
 (forkB (((x1.1.2.1:Nat):Int)==1)
 ((IxOk x1.1.1 0 x1.1.2.1)∧
 loadW H2 false 1 ⟨(blkOf x1.1.1),(offOf x1.1.1+(0:Int).toNat*4),none⟩ (pInt .i64) fun(x3:Int)=>
 forkB (x3==kind)
 ((IxOk x1.1.1 0 x1.1.2.1)∧
 loadW H2 false 1 ⟨(blkOf x1.1.1),((offOf x1.1.1+(0:Int).toNat*4)+1),none⟩ pStr fun(x4:ByteArray)=>
 retK (some [(.bool (x4.toList==s.toList))]) H2 R)
 (retK (some [(.bool false)]) H2 R))
 (retK (some [(.bool false)]) H2 R))
 (retK (some [(.bool false)]) H2 R))
 (retK (some [(.bool false)]) H2 R)
theorem IsNumber.enter (s:ByteArray) (kind:Int) (H:Heap) (R:RR) (h:IsNumber.W s kind H R):Fn PP fq50 #[(.string s),(.int .i64 kind)] H R:=
 fnS mixed Tryz.func50 (hz [(10,⟨Sl×Bool×Bool,fun x=>(.tuple #[(.slice x.1.1 x.1.2.1 x.1.2.2),(.bool x.2.1),(.bool x.2.2)])⟩),(27,(pInt .i64)),(35,pStr)]) _ H R (Eq.mp (by unfold IsNumber.W;kernel_rfl) h)
def formed.W (n:Nd) (H:Heap) (R:RR):Prop:=
 newB H (.cells #[(.int .i64 n.kind),(.string n.name),(.string n.alias),(.string n.text),(.int .i64 n.flag),(.int .i64 n.size)] tq41) fun b1 H2=>
 joinK (Bool×Unit) (fun J3=>
 lw H2 b1 2 pStr fun(x6:ByteArray)=>
 forkB (!(x6.toList==(bs []).toList))
 (lw H2 b1 0 (pInt .i64) fun(x7:Int)=>
 forkB (x7 !=6)
 (J3 (true,()) H2)
 (lw H2 b1 2 pStr fun(x8:ByteArray)=>
 callW PP fq49 #[(.string x8)] H2 pBool fun(x9:Bool) H10=>
 J3 ((!x9),()) H10))
 (J3 (false,()) H2)) fun y4 H5=>
 forkB y4.1
 (retK (some [(.bool false)]) H5 R)
 (lw H5 b1 0 (pInt .i64) fun(x11:Int)=>
 forkB (x11==1)
 (lw H5 b1 1 pStr fun(x12:ByteArray)=>
 forkB (x12.toList==(bs []).toList)
 (lw H5 b1 3 pStr fun(x13:ByteArray)=>
 forkB (x13.toList==(bs []).toList)
 (lw H5 b1 4 (pInt .i64) fun(x14:Int)=>
 retK (some [(.bool (x14==0))]) H5 R)
 (retK (some [(.bool false)]) H5 R))
 (retK (some [(.bool false)]) H5 R))
 (forkB (x11==5)
 (lw H5 b1 1 pStr fun(x15:ByteArray)=>
 forkB (x15.toList==(bs []).toList)
 (lw H5 b1 3 pStr fun(x16:ByteArray)=>
 forkB (x16.toList==(bs []).toList)
 (lw H5 b1 4 (pInt .i64) fun(x17:Int)=>
 retK (some [(.bool (x17==0))]) H5 R)
 (retK (some [(.bool false)]) H5 R))
 (retK (some [(.bool false)]) H5 R))
 (forkB (x11==17)
 (lw H5 b1 1 pStr fun(x18:ByteArray)=>
 forkB (x18.toList==(bs []).toList)
 (lw H5 b1 3 pStr fun(x19:ByteArray)=>
 forkB (x19.toList==(bs []).toList)
 (lw H5 b1 4 (pInt .i64) fun(x20:Int)=>
 retK (some [(.bool (x20==0))]) H5 R)
 (retK (some [(.bool false)]) H5 R))
 (retK (some [(.bool false)]) H5 R))
 (forkB (x11==18)
 (lw H5 b1 1 pStr fun(x21:ByteArray)=>
 forkB (x21.toList==(bs []).toList)
 (lw H5 b1 3 pStr fun(x22:ByteArray)=>
 forkB (x22.toList==(bs []).toList)
 (lw H5 b1 4 (pInt .i64) fun(x23:Int)=>
 retK (some [(.bool (x23==0))]) H5 R)
 (retK (some [(.bool false)]) H5 R))
 (retK (some [(.bool false)]) H5 R))
 (forkB (x11==21)
 (lw H5 b1 1 pStr fun(x24:ByteArray)=>
 forkB (x24.toList==(bs []).toList)
 (lw H5 b1 3 pStr fun(x25:ByteArray)=>
 forkB (x25.toList==(bs []).toList)
 (lw H5 b1 4 (pInt .i64) fun(x26:Int)=>
 retK (some [(.bool (x26==0))]) H5 R)
 (retK (some [(.bool false)]) H5 R))
 (retK (some [(.bool false)]) H5 R))
 (forkB (x11==22)
 (lw H5 b1 1 pStr fun(x27:ByteArray)=>
 forkB (x27.toList==(bs []).toList)
 (lw H5 b1 3 pStr fun(x28:ByteArray)=>
 forkB (x28.toList==(bs []).toList)
 (lw H5 b1 4 (pInt .i64) fun(x29:Int)=>
 retK (some [(.bool (x29==0))]) H5 R)
 (retK (some [(.bool false)]) H5 R))
 (retK (some [(.bool false)]) H5 R))
 (forkB (x11==24)
 (lw H5 b1 1 pStr fun(x30:ByteArray)=>
 forkB (x30.toList==(bs []).toList)
 (lw H5 b1 3 pStr fun(x31:ByteArray)=>
 forkB (x31.toList==(bs []).toList)
 (lw H5 b1 4 (pInt .i64) fun(x32:Int)=>
 retK (some [(.bool (x32==0))]) H5 R)
 (retK (some [(.bool false)]) H5 R))
 (retK (some [(.bool false)]) H5 R))
 (forkB (x11==39)
 (lw H5 b1 1 pStr fun(x33:ByteArray)=>
 forkB (x33.toList==(bs []).toList)
 (lw H5 b1 3 pStr fun(x34:ByteArray)=>
 forkB (x34.toList==(bs []).toList)
 (lw H5 b1 4 (pInt .i64) fun(x35:Int)=>
 retK (some [(.bool (x35==0))]) H5 R)
 (retK (some [(.bool false)]) H5 R))
 (retK (some [(.bool false)]) H5 R))
 (forkB (x11==2)
 (lw H5 b1 3 pStr fun(x36:ByteArray)=>
 forkB (x36.toList==(bs [113,117,101,114,121]).toList)
 (lw H5 b1 1 pStr fun(x37:ByteArray)=>
 forkB (x37.toList==(bs []).toList)
 (lw H5 b1 4 (pInt .i64) fun(x38:Int)=>
 forkB (x38==0)
 (retK (some [(.bool true)]) H5 R)
 (lw H5 b1 4 (pInt .i64) fun(x39:Int)=>
 forkB (x39==1)
 (lw H5 b1 3 pStr fun(x40:ByteArray)=>
 forkB (x40.toList==(bs [113,117,101,114,121]).toList)
 (lw H5 b1 1 pStr fun(x41:ByteArray)=>
 retK (some [(.bool (x41.toList==(bs []).toList))]) H5 R)
 (retK (some [(.bool false)]) H5 R))
 (retK (some [(.bool false)]) H5 R)))
 (lw H5 b1 1 pStr fun(x42:ByteArray)=>
 callW PP fq49 #[(.string x42)] H5 pBool fun(x43:Bool) H44=>
 forkB x43
 (lw H44 b1 4 (pInt .i64) fun(x45:Int)=>
 forkB (x45==0)
 (retK (some [(.bool true)]) H44 R)
 (lw H44 b1 4 (pInt .i64) fun(x46:Int)=>
 forkB (x46==1)
 (lw H44 b1 3 pStr fun(x47:ByteArray)=>
 forkB (x47.toList==(bs [113,117,101,114,121]).toList)
 (lw H44 b1 1 pStr fun(x48:ByteArray)=>
 retK (some [(.bool (x48.toList==(bs []).toList))]) H44 R)
 (retK (some [(.bool false)]) H44 R))
 (retK (some [(.bool false)]) H44 R)))
 (retK (some [(.bool false)]) H44 R)))
 (lw H5 b1 3 pStr fun(x49:ByteArray)=>
 forkB (x49.toList==(bs [109,117,116,97,116,105,111,110]).toList)
 (lw H5 b1 1 pStr fun(x50:ByteArray)=>
 forkB (x50.toList==(bs []).toList)
 (lw H5 b1 4 (pInt .i64) fun(x51:Int)=>
 forkB (x51==0)
 (retK (some [(.bool true)]) H5 R)
 (lw H5 b1 4 (pInt .i64) fun(x52:Int)=>
 forkB (x52==1)
 (lw H5 b1 3 pStr fun(x53:ByteArray)=>
 forkB (x53.toList==(bs [113,117,101,114,121]).toList)
 (lw H5 b1 1 pStr fun(x54:ByteArray)=>
 retK (some [(.bool (x54.toList==(bs []).toList))]) H5 R)
 (retK (some [(.bool false)]) H5 R))
 (retK (some [(.bool false)]) H5 R)))
 (lw H5 b1 1 pStr fun(x55:ByteArray)=>
 callW PP fq49 #[(.string x55)] H5 pBool fun(x56:Bool) H57=>
 forkB x56
 (lw H57 b1 4 (pInt .i64) fun(x58:Int)=>
 forkB (x58==0)
 (retK (some [(.bool true)]) H57 R)
 (lw H57 b1 4 (pInt .i64) fun(x59:Int)=>
 forkB (x59==1)
 (lw H57 b1 3 pStr fun(x60:ByteArray)=>
 forkB (x60.toList==(bs [113,117,101,114,121]).toList)
 (lw H57 b1 1 pStr fun(x61:ByteArray)=>
 retK (some [(.bool (x61.toList==(bs []).toList))]) H57 R)
 (retK (some [(.bool false)]) H57 R))
 (retK (some [(.bool false)]) H57 R)))
 (retK (some [(.bool false)]) H57 R)))
 (lw H5 b1 3 pStr fun(x62:ByteArray)=>
 forkB (x62.toList==(bs [115,117,98,115,99,114,105,112,116,105,111,110]).toList)
 (lw H5 b1 1 pStr fun(x63:ByteArray)=>
 forkB (x63.toList==(bs []).toList)
 (lw H5 b1 4 (pInt .i64) fun(x64:Int)=>
 forkB (x64==0)
 (retK (some [(.bool true)]) H5 R)
 (lw H5 b1 4 (pInt .i64) fun(x65:Int)=>
 forkB (x65==1)
 (lw H5 b1 3 pStr fun(x66:ByteArray)=>
 forkB (x66.toList==(bs [113,117,101,114,121]).toList)
 (lw H5 b1 1 pStr fun(x67:ByteArray)=>
 retK (some [(.bool (x67.toList==(bs []).toList))]) H5 R)
 (retK (some [(.bool false)]) H5 R))
 (retK (some [(.bool false)]) H5 R)))
 (lw H5 b1 1 pStr fun(x68:ByteArray)=>
 callW PP fq49 #[(.string x68)] H5 pBool fun(x69:Bool) H70=>
 forkB x69
 (lw H70 b1 4 (pInt .i64) fun(x71:Int)=>
 forkB (x71==0)
 (retK (some [(.bool true)]) H70 R)
 (lw H70 b1 4 (pInt .i64) fun(x72:Int)=>
 forkB (x72==1)
 (lw H70 b1 3 pStr fun(x73:ByteArray)=>
 forkB (x73.toList==(bs [113,117,101,114,121]).toList)
 (lw H70 b1 1 pStr fun(x74:ByteArray)=>
 retK (some [(.bool (x74.toList==(bs []).toList))]) H70 R)
 (retK (some [(.bool false)]) H70 R))
 (retK (some [(.bool false)]) H70 R)))
 (retK (some [(.bool false)]) H70 R)))
 (retK (some [(.bool false)]) H5 R))))
 (forkB (x11==3)
 (lw H5 b1 1 pStr fun(x75:ByteArray)=>
 callW PP fq49 #[(.string x75)] H5 pBool fun(x76:Bool) H77=>
 forkB x76
 (lw H77 b1 1 pStr fun(x78:ByteArray)=>
 forkB (!(x78.toList==(bs [111,110]).toList))
 (lw H77 b1 3 pStr fun(x79:ByteArray)=>
 callW PP fq49 #[(.string x79)] H77 pBool fun(x80:Bool) H81=>
 forkB x80
 (lw H81 b1 4 (pInt .i64) fun(x82:Int)=>
 retK (some [(.bool (x82==0))]) H81 R)
 (retK (some [(.bool false)]) H81 R))
 (retK (some [(.bool false)]) H77 R))
 (retK (some [(.bool false)]) H77 R))
 (forkB (x11==7)
 (lw H5 b1 1 pStr fun(x83:ByteArray)=>
 callW PP fq49 #[(.string x83)] H5 pBool fun(x84:Bool) H85=>
 forkB x84
 (lw H85 b1 1 pStr fun(x86:ByteArray)=>
 forkB (!(x86.toList==(bs [111,110]).toList))
 (lw H85 b1 3 pStr fun(x87:ByteArray)=>
 forkB (x87.toList==(bs []).toList)
 (lw H85 b1 4 (pInt .i64) fun(x88:Int)=>
 retK (some [(.bool (x88==0))]) H85 R)
 (retK (some [(.bool false)]) H85 R))
 (retK (some [(.bool false)]) H85 R))
 (retK (some [(.bool false)]) H85 R))
 (forkB (x11==8)
 (lw H5 b1 1 pStr fun(x89:ByteArray)=>
 forkB (x89.toList==(bs []).toList)
 (lw H5 b1 3 pStr fun(x90:ByteArray)=>
 forkB (x90.toList==(bs []).toList)
 (lw H5 b1 4 (pInt .i64) fun(x91:Int)=>
 retK (some [(.bool (x91==0))]) H5 R)
 (lw H5 b1 3 pStr fun(x92:ByteArray)=>
 callW PP fq49 #[(.string x92)] H5 pBool fun(x93:Bool) H94=>
 forkB x93
 (lw H94 b1 4 (pInt .i64) fun(x95:Int)=>
 retK (some [(.bool (x95==0))]) H94 R)
 (retK (some [(.bool false)]) H94 R)))
 (retK (some [(.bool false)]) H5 R))
 (forkB (x11==12)
 (lw H5 b1 1 pStr fun(x96:ByteArray)=>
 forkB (x96.toList==(bs []).toList)
 (lw H5 b1 4 (pInt .i64) fun(x97:Int)=>
 forkB (x97==0)
 (lw H5 b1 3 pStr fun(x98:ByteArray)=>
 lw H5 b1 0 (pInt .i64) fun(x99:Int)=>
 callW PP fq50 #[(.string x98),(.int .i64 (IntKind.i64.wrap ((IntKind.i64.wrap (16+x99)) -12)))] H5 pBool fun(x100:Bool) H101=>
 retK (some [(.bool x100)]) H101 R)
 (retK (some [(.bool false)]) H5 R))
 (retK (some [(.bool false)]) H5 R))
 (forkB (x11==13)
 (lw H5 b1 1 pStr fun(x102:ByteArray)=>
 forkB (x102.toList==(bs []).toList)
 (lw H5 b1 4 (pInt .i64) fun(x103:Int)=>
 forkB (x103==0)
 (lw H5 b1 3 pStr fun(x104:ByteArray)=>
 lw H5 b1 0 (pInt .i64) fun(x105:Int)=>
 callW PP fq50 #[(.string x104),(.int .i64 (IntKind.i64.wrap ((IntKind.i64.wrap (16+x105)) -12)))] H5 pBool fun(x106:Bool) H107=>
 retK (some [(.bool x106)]) H107 R)
 (retK (some [(.bool false)]) H5 R))
 (retK (some [(.bool false)]) H5 R))
 (forkB (x11==14)
 (lw H5 b1 1 pStr fun(x108:ByteArray)=>
 forkB (x108.toList==(bs []).toList)
 (lw H5 b1 4 (pInt .i64) fun(x109:Int)=>
 forkB (x109==0)
 (lw H5 b1 3 pStr fun(x110:ByteArray)=>
 callW PP fq51 #[(.string x110)] H5 pBool fun(x111:Bool) H112=>
 forkB x111
 (retK (some [(.bool true)]) H112 R)
 (lw H112 b1 4 (pInt .i64) fun(x113:Int)=>
 forkB (x113==1)
 (lw H112 b1 3 pStr fun(x114:ByteArray)=>
 callW PP fq52 #[(.string x114)] H112 pBool fun(x115:Bool) H116=>
 retK (some [(.bool x115)]) H116 R)
 (retK (some [(.bool false)]) H112 R)))
 (lw H5 b1 4 (pInt .i64) fun(x117:Int)=>
 forkB (x117==1)
 (lw H5 b1 3 pStr fun(x118:ByteArray)=>
 callW PP fq52 #[(.string x118)] H5 pBool fun(x119:Bool) H120=>
 retK (some [(.bool x119)]) H120 R)
 (retK (some [(.bool false)]) H5 R)))
 (retK (some [(.bool false)]) H5 R))
 (forkB (x11==23)
 (lw H5 b1 1 pStr fun(x121:ByteArray)=>
 forkB (x121.toList==(bs []).toList)
 (lw H5 b1 4 (pInt .i64) fun(x122:Int)=>
 forkB (x122==0)
 (lw H5 b1 3 pStr fun(x123:ByteArray)=>
 callW PP fq51 #[(.string x123)] H5 pBool fun(x124:Bool) H125=>
 forkB x124
 (retK (some [(.bool true)]) H125 R)
 (lw H125 b1 4 (pInt .i64) fun(x126:Int)=>
 forkB (x126==1)
 (lw H125 b1 3 pStr fun(x127:ByteArray)=>
 callW PP fq52 #[(.string x127)] H125 pBool fun(x128:Bool) H129=>
 retK (some [(.bool x128)]) H129 R)
 (retK (some [(.bool false)]) H125 R)))
 (lw H5 b1 4 (pInt .i64) fun(x130:Int)=>
 forkB (x130==1)
 (lw H5 b1 3 pStr fun(x131:ByteArray)=>
 callW PP fq52 #[(.string x131)] H5 pBool fun(x132:Bool) H133=>
 retK (some [(.bool x132)]) H133 R)
 (retK (some [(.bool false)]) H5 R)))
 (retK (some [(.bool false)]) H5 R))
 (forkB (x11==15)
 (lw H5 b1 1 pStr fun(x134:ByteArray)=>
 forkB (x134.toList==(bs []).toList)
 (lw H5 b1 3 pStr fun(x135:ByteArray)=>
 forkB (x135.toList==(bs []).toList)
 (lw H5 b1 4 (pInt .i64) fun(x136:Int)=>
 forkB (x136==0)
 (retK (some [(.bool true)]) H5 R)
 (lw H5 b1 4 (pInt .i64) fun(x137:Int)=>
 retK (some [(.bool (x137==1))]) H5 R))
 (retK (some [(.bool false)]) H5 R))
 (retK (some [(.bool false)]) H5 R))
 (forkB (x11==16)
 (lw H5 b1 1 pStr fun(x138:ByteArray)=>
 callW PP fq49 #[(.string x138)] H5 pBool fun(x139:Bool) H140=>
 forkB x139
 (lw H140 b1 1 pStr fun(x141:ByteArray)=>
 forkB (!(x141.toList==(bs [116,114,117,101]).toList))
 (lw H140 b1 1 pStr fun(x142:ByteArray)=>
 forkB (!(x142.toList==(bs [102,97,108,115,101]).toList))
 (lw H140 b1 1 pStr fun(x143:ByteArray)=>
 forkB (!(x143.toList==(bs [110,117,108,108]).toList))
 (lw H140 b1 3 pStr fun(x144:ByteArray)=>
 forkB (x144.toList==(bs []).toList)
 (lw H140 b1 4 (pInt .i64) fun(x145:Int)=>
 retK (some [(.bool (x145==0))]) H140 R)
 (retK (some [(.bool false)]) H140 R))
 (retK (some [(.bool false)]) H140 R))
 (retK (some [(.bool false)]) H140 R))
 (retK (some [(.bool false)]) H140 R))
 (retK (some [(.bool false)]) H140 R))
 (forkB (x11==35)
 (lw H5 b1 1 pStr fun(x146:ByteArray)=>
 callW PP fq49 #[(.string x146)] H5 pBool fun(x147:Bool) H148=>
 forkB x147
 (lw H148 b1 1 pStr fun(x149:ByteArray)=>
 forkB (!(x149.toList==(bs [116,114,117,101]).toList))
 (lw H148 b1 1 pStr fun(x150:ByteArray)=>
 forkB (!(x150.toList==(bs [102,97,108,115,101]).toList))
 (lw H148 b1 1 pStr fun(x151:ByteArray)=>
 forkB (!(x151.toList==(bs [110,117,108,108]).toList))
 (lw H148 b1 3 pStr fun(x152:ByteArray)=>
 forkB (x152.toList==(bs []).toList)
 (lw H148 b1 4 (pInt .i64) fun(x153:Int)=>
 retK (some [(.bool (x153==0))]) H148 R)
 (retK (some [(.bool false)]) H148 R))
 (retK (some [(.bool false)]) H148 R))
 (retK (some [(.bool false)]) H148 R))
 (retK (some [(.bool false)]) H148 R))
 (retK (some [(.bool false)]) H148 R))
 (forkB (x11==25)
 (lw H5 b1 3 pStr fun(x154:ByteArray)=>
 forkB (x154.toList==(bs [113,117,101,114,121]).toList)
 (lw H5 b1 1 pStr fun(x155:ByteArray)=>
 callW PP fq49 #[(.string x155)] H5 pBool fun(x156:Bool) H157=>
 forkB x156
 (lw H157 b1 4 (pInt .i64) fun(x158:Int)=>
 retK (some [(.bool (x158==0))]) H157 R)
 (retK (some [(.bool false)]) H157 R))
 (lw H5 b1 3 pStr fun(x159:ByteArray)=>
 forkB (x159.toList==(bs [109,117,116,97,116,105,111,110]).toList)
 (lw H5 b1 1 pStr fun(x160:ByteArray)=>
 callW PP fq49 #[(.string x160)] H5 pBool fun(x161:Bool) H162=>
 forkB x161
 (lw H162 b1 4 (pInt .i64) fun(x163:Int)=>
 retK (some [(.bool (x163==0))]) H162 R)
 (retK (some [(.bool false)]) H162 R))
 (lw H5 b1 3 pStr fun(x164:ByteArray)=>
 forkB (x164.toList==(bs [115,117,98,115,99,114,105,112,116,105,111,110]).toList)
 (lw H5 b1 1 pStr fun(x165:ByteArray)=>
 callW PP fq49 #[(.string x165)] H5 pBool fun(x166:Bool) H167=>
 forkB x166
 (lw H167 b1 4 (pInt .i64) fun(x168:Int)=>
 retK (some [(.bool (x168==0))]) H167 R)
 (retK (some [(.bool false)]) H167 R))
 (retK (some [(.bool false)]) H5 R))))
 (lw H5 b1 0 (pInt .i64) fun(x169:Int)=>
 forkB (decide (x169≥1))
 (lw H5 b1 0 (pInt .i64) fun(x170:Int)=>
 forkB (decide (x170≤39))
 (lw H5 b1 1 pStr fun(x171:ByteArray)=>
 callW PP fq49 #[(.string x171)] H5 pBool fun(x172:Bool) H173=>
 forkB x172
 (lw H173 b1 3 pStr fun(x174:ByteArray)=>
 forkB (x174.toList==(bs []).toList)
 (lw H173 b1 4 (pInt .i64) fun(x175:Int)=>
 retK (some [(.bool (x175==0))]) H173 R)
 (retK (some [(.bool false)]) H173 R))
 (retK (some [(.bool false)]) H173 R))
 (retK (some [(.bool false)]) H5 R))
 (retK (some [(.bool false)]) H5 R))))))))))))))))))))))
theorem formed.enter (n:Nd) (H:Heap) (R:RR) (h:formed.W n H R):Fn PP fq35 #[(.agg #[(.int .i64 n.kind),(.string n.name),(.string n.alias),(.string n.text),(.int .i64 n.flag),(.int .i64 n.size)])] H R:=
 fnS mixed Tryz.func35 ⟨patL [(5,pStr),(9,(pInt .i64)),(13,pStr),(14,pBool),(19,(pInt .i64)),(30,pStr),(34,pStr),(39,(pInt .i64)),(45,pStr),(49,pStr),(54,pStr),(60,pStr),(64,pStr),(65,pBool),(70,(pInt .i64)),(74,(pInt .i64)),(78,pStr),(83,pStr),(91,pStr),(92,pBool),(95,pStr),(100,pStr),(101,pBool),(105,(pInt .i64)),(111,pStr),(112,pBool),(115,pStr),(120,pStr),(125,(pInt .i64)),(131,pStr),(135,pStr),(139,pStr),(140,pBool),(145,(pInt .i64)),(152,pStr),(156,(pInt .i64)),(161,pStr),(163,(pInt .i64)),(166,pBool),(172,pStr),(176,(pInt .i64)),(180,pStr),(181,pBool),(185,(pInt .i64)),(189,pStr),(190,pBool),(197,pStr),(201,pStr),(206,(pInt .i64)),(210,(pInt .i64)),(218,pStr),(219,pBool),(222,pStr),(227,pStr),(232,pStr),(237,pStr),(242,(pInt .i64)),(248,pStr),(252,pStr),(257,pStr),(262,pStr),(263,pBool),(267,(pInt .i64)),(271,(pInt .i64)),(275,(pInt .i64)),(280,pStr),(281,pBool),(285,pStr),(290,(pInt .i64))],loopL [],joinL [],joinL [],joinRL [(1,[Slot.bool 17],false)]⟩ _ H R (Eq.mp (by unfold formed.W;kernel_rfl) h)
def sized.W (d dO dN dC:Nat) (i:Int) (e:Int) (deep:Int) (H:Heap) (R:RR):Prop:=
 (IxOk (some ⟨d,dO,none⟩) i dN)∧
 loadW H false 1 ⟨d,((dO+i.toNat*6)+5),none⟩ (pInt .i64) fun(x1:Int)=>
 forkB (decide (x1<1))
 (retK (some [(.bool false)]) H R)
 (forkB (decide (x1>(IntKind.i64.wrap (e -i))))
 (retK (some [(.bool false)]) H R)
 (forkB (decide (deep>40))
 (retK (some [(.bool false)]) H R)
 (loopK (Int×Unit) ((IntKind.i64.wrap (i+1)),()) H fun z2 H3 next4=>
 forkB (decide (z2.1<(IntKind.i64.wrap (i+x1))))
 (callW PP fq34 #[(.slice (some ⟨d,dO,none⟩) dN dC),(.int .i64 z2.1),(.int .i64 (IntKind.i64.wrap (i+x1))),(.int .i64 (IntKind.i64.wrap (deep+1)))] H3 pBool fun(x5:Bool) H6=>
 forkB (!x5)
 (retK (some [(.bool false)]) H6 R)
 ((IxOk (some ⟨d,dO,none⟩) z2.1 dN)∧
 loadW H6 false 1 ⟨d,((dO+z2.1.toNat*6)+5),none⟩ (pInt .i64) fun(x7:Int)=>
 next4 ((IntKind.i64.wrap (z2.1+x7)),()) H6))
 (retK (some [(.bool true)]) H3 R))))
theorem sized.enter (d dO dN dC:Nat) (i:Int) (e:Int) (deep:Int) (H:Heap) (R:RR) (h:sized.W d dO dN dC i e deep H R):Fn PP fq34 #[(.slice (some ⟨d,dO,none⟩) dN dC),(.int .i64 i),(.int .i64 e),(.int .i64 deep)] H R:=
 fnS mixed Tryz.func34 ⟨patL [(15,(pInt .i64)),(43,pBool),(50,(pInt .i64))],loopL [(0,[Slot.int .i64 10])],joinL [],joinL [],joinRL []⟩ _ H R (Eq.mp (by unfold sized.W;kernel_rfl) h)
def Kids.W (d dO dN _dC:Nat) (i:Int) (H:Heap) (R:RR):Prop:=
 loopK (Sl×Int×Unit) ((none,0,0),(IntKind.i64.wrap (i+1)),()) H fun z1 H2 next3=>
 (IxOk (some ⟨d,dO,none⟩) i dN)∧
 loadW H2 false 1 ⟨d,((dO+i.toNat*6)+5),none⟩ (pInt .i64) fun(x4:Int)=>
 forkB (decide (z1.2.1<(IntKind.i64.wrap (i+x4))))
 (newB H2 (.cells #[(.int .i64 z1.2.1)] tq3) fun b5 H6=>
 appK H6 tq3 1 8 z1.1.1 z1.1.2.1 z1.1.2.2 (some ⟨b5,0,none⟩) 1 fun a7 c8 H9=>
 (IxOk (some ⟨d,dO,none⟩) z1.2.1 dN)∧
 loadW H9 false 1 ⟨d,((dO+z1.2.1.toNat*6)+5),none⟩ (pInt .i64) fun(x10:Int)=>
 next3 ((a7,(z1.1.2.1+1),c8),(IntKind.i64.wrap (z1.2.1+x10)),()) H9)
 (retK (some [(.slice z1.1.1 z1.1.2.1 z1.1.2.2)]) H2 R)
theorem Kids.enter (d dO dN dC:Nat) (i:Int) (H:Heap) (R:RR) (h:Kids.W d dO dN dC i H R):Fn PP fq26 #[(.slice (some ⟨d,dO,none⟩) dN dC),(.int .i64 i)] H R:=
 fnS mixed Tryz.func26 ⟨patL [(15,(pInt .i64)),(23,(pInt .i64))],loopL [(0,[Slot.slc 5,Slot.int .i64 6])],joinL [],joinL [],joinRL []⟩ _ H R (Eq.mp (by unfold Kids.W;kernel_rfl) h)
def KidsOf.W (d dO dN dC:Nat) (i:Int) (kind:Int) (H:Heap) (R:RR):Prop:=
 callW PP fq26 #[(.slice (some ⟨d,dO,none⟩) dN dC),(.int .i64 i)] H pSlc fun(x1:Sl) H2=>
 loopK (Sl×Int×Unit) ((none,0,0),0,()) H2 fun z3 H4 next5=>
 forkB (decide (z3.2.1<((x1.2.1:Nat):Int)))
 ((IxOk x1.1 z3.2.1 x1.2.1)∧
 loadW H4 false 1 ⟨(blkOf x1.1),(offOf x1.1+z3.2.1.toNat*1),none⟩ (pInt .i64) fun(x6:Int)=>
 (IxOk (some ⟨d,dO,none⟩) x6 dN)∧
 loadW H4 false 1 ⟨d,(dO+x6.toNat*6),none⟩ (pInt .i64) fun(x7:Int)=>
 forkB (x7==kind)
 ((IxOk x1.1 z3.2.1 x1.2.1)∧
 loadW H4 false 1 ⟨(blkOf x1.1),(offOf x1.1+z3.2.1.toNat*1),none⟩ (pInt .i64) fun(x8:Int)=>
 newB H4 (.cells #[(.int .i64 x8)] tq3) fun b9 H10=>
 appK H10 tq3 1 8 z3.1.1 z3.1.2.1 z3.1.2.2 (some ⟨b9,0,none⟩) 1 fun a11 c12 H13=>
 next5 ((a11,(z3.1.2.1+1),c12),(IntKind.i64.wrap (z3.2.1+1)),()) H13)
 (next5 ((z3.1.1,z3.1.2.1,z3.1.2.2),(IntKind.i64.wrap (z3.2.1+1)),()) H4))
 (retK (some [(.slice z3.1.1 z3.1.2.1 z3.1.2.2)]) H4 R)
theorem KidsOf.enter (d dO dN dC:Nat) (i:Int) (kind:Int) (H:Heap) (R:RR) (h:KidsOf.W d dO dN dC i kind H R):Fn PP fq20 #[(.slice (some ⟨d,dO,none⟩) dN dC),(.int .i64 i),(.int .i64 kind)] H R:=
 fnS mixed Tryz.func20 ⟨patL [(12,pSlc),(23,(pInt .i64)),(26,(pInt .i64)),(33,(pInt .i64))],loopL [(0,[Slot.slc 7,Slot.int .i64 9])],joinL [],joinL [],joinRL []⟩ _ H R (Eq.mp (by unfold KidsOf.W;kernel_rfl) h)
def KidOf.W (d dO dN dC:Nat) (i:Int) (kind:Int) (H:Heap) (R:RR):Prop:=
 callW PP fq20 #[(.slice (some ⟨d,dO,none⟩) dN dC),(.int .i64 i),(.int .i64 kind)] H pSlc fun(x1:Sl) H2=>
 forkB (((x1.2.1:Nat):Int)==0)
 (retK (some [(.int .i64 (-1))]) H2 R)
 ((IxOk x1.1 0 x1.2.1)∧
 loadW H2 false 1 ⟨(blkOf x1.1),(offOf x1.1+(0:Int).toNat*1),none⟩ (pInt .i64) fun(x3:Int)=>
 retK (some [(.int .i64 x3)]) H2 R)
theorem KidOf.enter (d dO dN dC:Nat) (i:Int) (kind:Int) (H:Heap) (R:RR) (h:KidOf.W d dO dN dC i kind H R):Fn PP fq19 #[(.slice (some ⟨d,dO,none⟩) dN dC),(.int .i64 i),(.int .i64 kind)] H R:=
 fnS mixed Tryz.func19 (hz [(11,pSlc),(17,(pInt .i64))]) _ H R (Eq.mp (by unfold KidOf.W;kernel_rfl) h)
def rowAll.W (r:Nat) (kinds kindsO kindsN _kindsC:Nat) (H:Heap) (R:RR):Prop:=
 storeW H ⟨r,2,none⟩ [(.int .i64 0)] fun H1=>
 loopK (Unit) (()) H1 fun _z2 H3 next4=>
 lw H3 r 1 pSlc fun(x5:Sl)=>
 forkB (decide (((x5.2.1:Nat):Int)>0))
 (loopK (Bool×Int×Unit) (false,0,()) H3 fun z6 H7 next8=>
 forkB (decide (z6.2.1<((kindsN:Nat):Int)))
 (forkB z6.1
 (next8 (true,(IntKind.i64.wrap (z6.2.1+1)),()) H7)
 (lw H7 r 0 pSlc fun(x9:Sl)=>
 lw H7 r 1 pSlc fun(x10:Sl)=>
 (IxOk x10.1 0 x10.2.1)∧
 loadW H7 false 1 ⟨(blkOf x10.1),(offOf x10.1+(0:Int).toNat*1),none⟩ (pInt .i64) fun(x11:Int)=>
 (IxOk x9.1 x11 x9.2.1)∧
 loadW H7 false 1 ⟨(blkOf x9.1),(offOf x9.1+x11.toNat*6),none⟩ (pInt .i64) fun(x12:Int)=>
 (IxOk (some ⟨kinds,kindsO,none⟩) z6.2.1 kindsN)∧
 loadW H7 false 1 ⟨kinds,(kindsO+z6.2.1.toNat*1),none⟩ (pInt .i64) fun(x13:Int)=>
 next8 ((x12==x13),(IntKind.i64.wrap (z6.2.1+1)),()) H7))
 (forkB (!z6.1)
 (retK (some [(pq r)]) H7 R)
 (lw H7 r 1 pSlc fun(x14:Sl)=>
 ((0:Int)≤1∧1≤((x14.2.1:Nat):Int))∧
 storeW H7 ⟨r,1,none⟩ [(.slice (slcA x14.1 x14.2.2 (1:Int).toNat 1) (x14.2.1 -(1:Int).toNat) (x14.2.2 -(1:Int).toNat))] fun H15=>
 lw H15 r 2 (pInt .i64) fun(x16:Int)=>
 storeW H15 ⟨r,2,none⟩ [(.int .i64 (IntKind.i64.wrap (x16+1)))] fun H17=>
 next4 (()) H17)))
 (retK (some [(pq r)]) H3 R)
theorem rowAll.enter (r:Nat) (kinds kindsO kindsN kindsC:Nat) (H:Heap) (R:RR) (h:rowAll.W r kinds kindsO kindsN kindsC H R):Fn PP fq53 #[(pq r),(.slice (some ⟨kinds,kindsO,none⟩) kindsN kindsC)] H R:=
 fnS mixed Tryz.func53 ⟨patL [(13,pSlc),(27,pSlc),(31,pSlc),(33,(pInt .i64)),(36,(pInt .i64)),(40,(pInt .i64)),(50,pSlc),(57,(pInt .i64))],loopL [(0,[]),(2,[Slot.bool 5,Slot.int .i64 6])],joinL [],joinL [],joinRL []⟩ _ H R (Eq.mp (by unfold rowAll.W;kernel_rfl) h)
def rowEnd.W (r:Nat) (H:Heap) (R:RR):Prop:=
 lw H r 1 pSlc fun(x1:Sl)=>
 retK (some [(.bool (((x1.2.1:Nat):Int)==0))]) H R
theorem rowEnd.enter (r:Nat) (H:Heap) (R:RR) (h:rowEnd.W r H R):Fn PP fq54 #[(pq r)] H R:=
 fnS mixed Tryz.func54 (hz [(6,pSlc)]) _ H R (Eq.mp (by unfold rowEnd.W;kernel_rfl) h)
def rowMost.W (r:Nat) (H:Heap) (R:RR):Prop:=
 lw H r 2 (pInt .i64) fun(x1:Int)=>
 retK (some [(.bool (decide (x1≤1)))]) H R
theorem rowMost.enter (r:Nat) (H:Heap) (R:RR) (h:rowMost.W r H R):Fn PP fq58 #[(pq r)] H R:=
 fnS mixed Tryz.func58 (hz [(6,(pInt .i64))]) _ H R (Eq.mp (by unfold rowMost.W;kernel_rfl) h)
def rowOneSelections.W (r:Nat) (H:Heap) (R:RR):Prop:=
 lw H r 1 pSlc fun(x1:Sl)=>
 forkB (((x1.2.1:Nat):Int)==0)
 (retK (some [(.bool false)]) H R)
 (lw H r 0 pSlc fun(x2:Sl)=>
 lw H r 1 pSlc fun(x3:Sl)=>
 (IxOk x3.1 0 x3.2.1)∧
 loadW H false 1 ⟨(blkOf x3.1),(offOf x3.1+(0:Int).toNat*1),none⟩ (pInt .i64) fun(x4:Int)=>
 (IxOk x2.1 x4 x2.2.1)∧
 loadW H true 6 ⟨(blkOf x2.1),(offOf x2.1+x4.toNat*6),none⟩ pNd fun(x5:Int×ByteArray×ByteArray×ByteArray×Int×Int)=>
 callW PP fq56 #[(.agg #[(.int .i64 x5.1),(.string x5.2.1),(.string x5.2.2.1),(.string x5.2.2.2.1),(.int .i64 x5.2.2.2.2.1),(.int .i64 x5.2.2.2.2.2)])] H pBool fun(x6:Bool) H7=>
 lc H7 r 1 (.slice x3.1 x3.2.1 x3.2.2)∧
 forkB (!x6)
 (retK (some [(.bool false)]) H7 R)
 (lw H7 r 1 pSlc fun(x8:Sl)=>
 ((0:Int)≤1∧1≤((x8.2.1:Nat):Int))∧
 storeW H7 ⟨r,1,none⟩ [(.slice (slcA x8.1 x8.2.2 (1:Int).toNat 1) (x8.2.1 -(1:Int).toNat) (x8.2.2 -(1:Int).toNat))] fun H9=>
 retK (some [(.bool true)]) H9 R))
theorem rowOneSelections.enter (r:Nat) (H:Heap) (R:RR) (h:rowOneSelections.W r H R):Fn PP fq55 #[(pq r),(.func (.func fq56) #[] #[])] H R:=
 fnS mixed Tryz.func55 (hz [(8,pSlc),(16,pSlc),(20,pSlc),(22,(pInt .i64)),(24,pNd),(25,pBool),(32,pSlc)]) _ H R (Eq.mp (by unfold rowOneSelections.W;kernel_rfl) h)
def rowOneObject.W (r:Nat) (H:Heap) (R:RR):Prop:=
 lw H r 1 pSlc fun(x1:Sl)=>
 forkB (((x1.2.1:Nat):Int)==0)
 (retK (some [(.bool false)]) H R)
 (lw H r 0 pSlc fun(x2:Sl)=>
 lw H r 1 pSlc fun(x3:Sl)=>
 (IxOk x3.1 0 x3.2.1)∧
 loadW H false 1 ⟨(blkOf x3.1),(offOf x3.1+(0:Int).toNat*1),none⟩ (pInt .i64) fun(x4:Int)=>
 (IxOk x2.1 x4 x2.2.1)∧
 loadW H true 6 ⟨(blkOf x2.1),(offOf x2.1+x4.toNat*6),none⟩ pNd fun(x5:Int×ByteArray×ByteArray×ByteArray×Int×Int)=>
 callW PP fq83 #[(.agg #[(.int .i64 x5.1),(.string x5.2.1),(.string x5.2.2.1),(.string x5.2.2.2.1),(.int .i64 x5.2.2.2.2.1),(.int .i64 x5.2.2.2.2.2)])] H pBool fun(x6:Bool) H7=>
 lc H7 r 1 (.slice x3.1 x3.2.1 x3.2.2)∧
 forkB (!x6)
 (retK (some [(.bool false)]) H7 R)
 (lw H7 r 1 pSlc fun(x8:Sl)=>
 ((0:Int)≤1∧1≤((x8.2.1:Nat):Int))∧
 storeW H7 ⟨r,1,none⟩ [(.slice (slcA x8.1 x8.2.2 (1:Int).toNat 1) (x8.2.1 -(1:Int).toNat) (x8.2.2 -(1:Int).toNat))] fun H9=>
 retK (some [(.bool true)]) H9 R))
theorem rowOneObject.enter (r:Nat) (H:Heap) (R:RR) (h:rowOneObject.W r H R):Fn PP fq55 #[(pq r),(.func (.func fq83) #[] #[])] H R:=
 fnS mixed Tryz.func55 (hz [(8,pSlc),(16,pSlc),(20,pSlc),(22,(pInt .i64)),(24,pNd),(25,pBool),(32,pSlc)]) _ H R (Eq.mp (by unfold rowOneObject.W;kernel_rfl) h)
def rowOneNullable.W (r:Nat) (H:Heap) (R:RR):Prop:=
 lw H r 1 pSlc fun(x1:Sl)=>
 forkB (((x1.2.1:Nat):Int)==0)
 (retK (some [(.bool false)]) H R)
 (lw H r 0 pSlc fun(x2:Sl)=>
 lw H r 1 pSlc fun(x3:Sl)=>
 (IxOk x3.1 0 x3.2.1)∧
 loadW H false 1 ⟨(blkOf x3.1),(offOf x3.1+(0:Int).toNat*1),none⟩ (pInt .i64) fun(x4:Int)=>
 (IxOk x2.1 x4 x2.2.1)∧
 loadW H true 6 ⟨(blkOf x2.1),(offOf x2.1+x4.toNat*6),none⟩ pNd fun(x5:Int×ByteArray×ByteArray×ByteArray×Int×Int)=>
 callW PP fq59 #[(.agg #[(.int .i64 x5.1),(.string x5.2.1),(.string x5.2.2.1),(.string x5.2.2.2.1),(.int .i64 x5.2.2.2.2.1),(.int .i64 x5.2.2.2.2.2)])] H pBool fun(x6:Bool) H7=>
 lc H7 r 1 (.slice x3.1 x3.2.1 x3.2.2)∧
 forkB (!x6)
 (retK (some [(.bool false)]) H7 R)
 (lw H7 r 1 pSlc fun(x8:Sl)=>
 ((0:Int)≤1∧1≤((x8.2.1:Nat):Int))∧
 storeW H7 ⟨r,1,none⟩ [(.slice (slcA x8.1 x8.2.2 (1:Int).toNat 1) (x8.2.1 -(1:Int).toNat) (x8.2.2 -(1:Int).toNat))] fun H9=>
 retK (some [(.bool true)]) H9 R))
theorem rowOneNullable.enter (r:Nat) (H:Heap) (R:RR) (h:rowOneNullable.W r H R):Fn PP fq55 #[(pq r),(.func (.func fq59) #[] #[])] H R:=
 fnS mixed Tryz.func55 (hz [(8,pSlc),(16,pSlc),(20,pSlc),(22,(pInt .i64)),(24,pNd),(25,pBool),(32,pSlc)]) _ H R (Eq.mp (by unfold rowOneNullable.W;kernel_rfl) h)
def rowOneType.W (r:Nat) (H:Heap) (R:RR):Prop:=
 lw H r 1 pSlc fun(x1:Sl)=>
 forkB (((x1.2.1:Nat):Int)==0)
 (retK (some [(.bool false)]) H R)
 (lw H r 0 pSlc fun(x2:Sl)=>
 lw H r 1 pSlc fun(x3:Sl)=>
 (IxOk x3.1 0 x3.2.1)∧
 loadW H false 1 ⟨(blkOf x3.1),(offOf x3.1+(0:Int).toNat*1),none⟩ (pInt .i64) fun(x4:Int)=>
 (IxOk x2.1 x4 x2.2.1)∧
 loadW H true 6 ⟨(blkOf x2.1),(offOf x2.1+x4.toNat*6),none⟩ pNd fun(x5:Int×ByteArray×ByteArray×ByteArray×Int×Int)=>
 callW PP fq44 #[(.agg #[(.int .i64 x5.1),(.string x5.2.1),(.string x5.2.2.1),(.string x5.2.2.2.1),(.int .i64 x5.2.2.2.2.1),(.int .i64 x5.2.2.2.2.2)])] H pBool fun(x6:Bool) H7=>
 lc H7 r 1 (.slice x3.1 x3.2.1 x3.2.2)∧
 forkB (!x6)
 (retK (some [(.bool false)]) H7 R)
 (lw H7 r 1 pSlc fun(x8:Sl)=>
 ((0:Int)≤1∧1≤((x8.2.1:Nat):Int))∧
 storeW H7 ⟨r,1,none⟩ [(.slice (slcA x8.1 x8.2.2 (1:Int).toNat 1) (x8.2.1 -(1:Int).toNat) (x8.2.2 -(1:Int).toNat))] fun H9=>
 retK (some [(.bool true)]) H9 R))
theorem rowOneType.enter (r:Nat) (H:Heap) (R:RR) (h:rowOneType.W r H R):Fn PP fq55 #[(pq r),(.func (.func fq44) #[] #[])] H R:=
 fnS mixed Tryz.func55 (hz [(8,pSlc),(16,pSlc),(20,pSlc),(22,(pInt .i64)),(24,pNd),(25,pBool),(32,pSlc)]) _ H R (Eq.mp (by unfold rowOneType.W;kernel_rfl) h)
def rowOneValue.W (r:Nat) (H:Heap) (R:RR):Prop:=
 lw H r 1 pSlc fun(x1:Sl)=>
 forkB (((x1.2.1:Nat):Int)==0)
 (retK (some [(.bool false)]) H R)
 (lw H r 0 pSlc fun(x2:Sl)=>
 lw H r 1 pSlc fun(x3:Sl)=>
 (IxOk x3.1 0 x3.2.1)∧
 loadW H false 1 ⟨(blkOf x3.1),(offOf x3.1+(0:Int).toNat*1),none⟩ (pInt .i64) fun(x4:Int)=>
 (IxOk x2.1 x4 x2.2.1)∧
 loadW H true 6 ⟨(blkOf x2.1),(offOf x2.1+x4.toNat*6),none⟩ pNd fun(x5:Int×ByteArray×ByteArray×ByteArray×Int×Int)=>
 callW PP fq45 #[(.agg #[(.int .i64 x5.1),(.string x5.2.1),(.string x5.2.2.1),(.string x5.2.2.2.1),(.int .i64 x5.2.2.2.2.1),(.int .i64 x5.2.2.2.2.2)])] H pBool fun(x6:Bool) H7=>
 lc H7 r 1 (.slice x3.1 x3.2.1 x3.2.2)∧
 forkB (!x6)
 (retK (some [(.bool false)]) H7 R)
 (lw H7 r 1 pSlc fun(x8:Sl)=>
 ((0:Int)≤1∧1≤((x8.2.1:Nat):Int))∧
 storeW H7 ⟨r,1,none⟩ [(.slice (slcA x8.1 x8.2.2 (1:Int).toNat 1) (x8.2.1 -(1:Int).toNat) (x8.2.2 -(1:Int).toNat))] fun H9=>
 retK (some [(.bool true)]) H9 R))
theorem rowOneValue.enter (r:Nat) (H:Heap) (R:RR) (h:rowOneValue.W r H R):Fn PP fq55 #[(pq r),(.func (.func fq45) #[] #[])] H R:=
 fnS mixed Tryz.func55 (hz [(8,pSlc),(16,pSlc),(20,pSlc),(22,(pInt .i64)),(24,pNd),(25,pBool),(32,pSlc)]) _ H R (Eq.mp (by unfold rowOneValue.W;kernel_rfl) h)
def isSelections.W (n:Nd) (H:Heap) (R:RR):Prop:=
 newB H (.cells #[(.int .i64 n.kind),(.string n.name),(.string n.alias),(.string n.text),(.int .i64 n.flag),(.int .i64 n.size)] tq41) fun b1 H2=>
 lw H2 b1 0 (pInt .i64) fun(x3:Int)=>
 retK (some [(.bool (x3==5))]) H2 R
theorem isSelections.enter (n:Nd) (H:Heap) (R:RR) (h:isSelections.W n H R):Fn PP fq56 #[(.agg #[(.int .i64 n.kind),(.string n.name),(.string n.alias),(.string n.text),(.int .i64 n.flag),(.int .i64 n.size)])] H R:=
 fnS mixed Tryz.func56 (hz [(4,(pInt .i64))]) _ H R (Eq.mp (by unfold isSelections.W;kernel_rfl) h)
def isObject.W (n:Nd) (H:Heap) (R:RR):Prop:=
 newB H (.cells #[(.int .i64 n.kind),(.string n.name),(.string n.alias),(.string n.text),(.int .i64 n.flag),(.int .i64 n.size)] tq41) fun b1 H2=>
 lw H2 b1 0 (pInt .i64) fun(x3:Int)=>
 retK (some [(.bool (x3==27))]) H2 R
theorem isObject.enter (n:Nd) (H:Heap) (R:RR) (h:isObject.W n H R):Fn PP fq83 #[(.agg #[(.int .i64 n.kind),(.string n.name),(.string n.alias),(.string n.text),(.int .i64 n.flag),(.int .i64 n.size)])] H R:=
 fnS mixed Tryz.func83 (hz [(4,(pInt .i64))]) _ H R (Eq.mp (by unfold isObject.W;kernel_rfl) h)
def isNullable.W (n:Nd) (H:Heap) (R:RR):Prop:=
 newB H (.cells #[(.int .i64 n.kind),(.string n.name),(.string n.alias),(.string n.text),(.int .i64 n.flag),(.int .i64 n.size)] tq41) fun b1 H2=>
 loadW H2 true 6 ⟨b1,0,none⟩ pNd fun(x3:Int×ByteArray×ByteArray×ByteArray×Int×Int)=>
 callW PP fq44 #[(.agg #[(.int .i64 x3.1),(.string x3.2.1),(.string x3.2.2.1),(.string x3.2.2.2.1),(.int .i64 x3.2.2.2.2.1),(.int .i64 x3.2.2.2.2.2)])] H2 pBool fun(x4:Bool) H5=>
 forkB x4
 (lw H5 b1 0 (pInt .i64) fun(x6:Int)=>
 retK (some [(.bool (x6 !=22))]) H5 R)
 (retK (some [(.bool false)]) H5 R)
theorem isNullable.enter (n:Nd) (H:Heap) (R:RR) (h:isNullable.W n H R):Fn PP fq59 #[(.agg #[(.int .i64 n.kind),(.string n.name),(.string n.alias),(.string n.text),(.int .i64 n.flag),(.int .i64 n.size)])] H R:=
 fnS mixed Tryz.func59 (hz [(3,pNd),(4,pBool),(7,(pInt .i64))]) _ H R (Eq.mp (by unfold isNullable.W;kernel_rfl) h)
def isType.W (n:Nd) (H:Heap) (R:RR):Prop:=
 newB H (.cells #[(.int .i64 n.kind),(.string n.name),(.string n.alias),(.string n.text),(.int .i64 n.flag),(.int .i64 n.size)] tq41) fun b1 H2=>
 lw H2 b1 0 (pInt .i64) fun(x3:Int)=>
 forkB (decide (x3≥20))
 (lw H2 b1 0 (pInt .i64) fun(x4:Int)=>
 retK (some [(.bool (decide (x4≤22)))]) H2 R)
 (retK (some [(.bool false)]) H2 R)
theorem isType.enter (n:Nd) (H:Heap) (R:RR) (h:isType.W n H R):Fn PP fq44 #[(.agg #[(.int .i64 n.kind),(.string n.name),(.string n.alias),(.string n.text),(.int .i64 n.flag),(.int .i64 n.size)])] H R:=
 fnS mixed Tryz.func44 (hz [(4,(pInt .i64)),(8,(pInt .i64))]) _ H R (Eq.mp (by unfold isType.W;kernel_rfl) h)
def isValue.W (n:Nd) (H:Heap) (R:RR):Prop:=
 newB H (.cells #[(.int .i64 n.kind),(.string n.name),(.string n.alias),(.string n.text),(.int .i64 n.flag),(.int .i64 n.size)] tq41) fun b1 H2=>
 lw H2 b1 0 (pInt .i64) fun(x3:Int)=>
 forkB (decide (x3≥11))
 (lw H2 b1 0 (pInt .i64) fun(x4:Int)=>
 retK (some [(.bool (decide (x4≤18)))]) H2 R)
 (retK (some [(.bool false)]) H2 R)
theorem isValue.enter (n:Nd) (H:Heap) (R:RR) (h:isValue.W n H R):Fn PP fq45 #[(.agg #[(.int .i64 n.kind),(.string n.name),(.string n.alias),(.string n.text),(.int .i64 n.flag),(.int .i64 n.size)])] H R:=
 fnS mixed Tryz.func45 (hz [(4,(pInt .i64)),(8,(pInt .i64))]) _ H R (Eq.mp (by unfold isValue.W;kernel_rfl) h)
def fixedAt.W (d dO dN _dC:Nat) (i:Int) (H:Heap) (R:RR):Prop:=
 loopK (Int×Unit) (i,()) H fun z1 H2 next3=>
 (IxOk (some ⟨d,dO,none⟩) i dN)∧
 loadW H2 false 1 ⟨d,((dO+i.toNat*6)+5),none⟩ (pInt .i64) fun(x4:Int)=>
 forkB (decide (z1.1<(IntKind.i64.wrap (i+x4))))
 ((IxOk (some ⟨d,dO,none⟩) z1.1 dN)∧
 loadW H2 false 1 ⟨d,(dO+z1.1.toNat*6),none⟩ (pInt .i64) fun(x5:Int)=>
 forkB (x5==11)
 (retK (some [(.bool false)]) H2 R)
 (next3 ((IntKind.i64.wrap (z1.1+1)),()) H2))
 (retK (some [(.bool true)]) H2 R)
theorem fixedAt.enter (d dO dN dC:Nat) (i:Int) (H:Heap) (R:RR) (h:fixedAt.W d dO dN dC i H R):Fn PP fq57 #[(.slice (some ⟨d,dO,none⟩) dN dC),(.int .i64 i)] H R:=
 fnS mixed Tryz.func57 ⟨patL [(13,(pInt .i64)),(22,(pInt .i64))],loopL [(0,[Slot.int .i64 5])],joinL [],joinL [],joinRL []⟩ _ H R (Eq.mp (by unfold fixedAt.W;kernel_rfl) h)
def fixedHere.W (d dO dN dC:Nat) (i:Int) (H:Heap) (R:RR):Prop:=
 callW PP fq20 #[(.slice (some ⟨d,dO,none⟩) dN dC),(.int .i64 i),(.int .i64 10)] H pSlc fun(x1:Sl) H2=>
 loopK (Int×Unit) (0,()) H2 fun z3 H4 next5=>
 forkB (decide (z3.1<((x1.2.1:Nat):Int)))
 ((IxOk x1.1 z3.1 x1.2.1)∧
 loadW H4 false 1 ⟨(blkOf x1.1),(offOf x1.1+z3.1.toNat*1),none⟩ (pInt .i64) fun(x6:Int)=>
 callW PP fq57 #[(.slice (some ⟨d,dO,none⟩) dN dC),(.int .i64 x6)] H4 pBool fun(x7:Bool) H8=>
 forkB (!x7)
 (retK (some [(.bool false)]) H8 R)
 (next5 ((IntKind.i64.wrap (z3.1+1)),()) H8))
 (retK (some [(.bool true)]) H4 R)
theorem fixedHere.enter (d dO dN dC:Nat) (i:Int) (H:Heap) (R:RR) (h:fixedHere.W d dO dN dC i H R):Fn PP fq84 #[(.slice (some ⟨d,dO,none⟩) dN dC),(.int .i64 i)] H R:=
 fnS mixed Tryz.func84 ⟨patL [(9,pSlc),(20,(pInt .i64)),(21,pBool)],loopL [(0,[Slot.int .i64 6])],joinL [],joinL [],joinRL []⟩ _ H R (Eq.mp (by unfold fixedHere.W;kernel_rfl) h)
def shaped.W (d dO dN dC:Nat) (i:Int) (H:Heap) (R:RR):Prop:=
 callW PP fq26 #[(.slice (some ⟨d,dO,none⟩) dN dC),(.int .i64 i)] H pSlc fun(x1:Sl) H2=>
 newB H2 (.cells #[(.slice (some ⟨d,dO,none⟩) dN dC),(.slice x1.1 x1.2.1 x1.2.2),(.int .i64 0)] tq73) fun b3 H4=>
 (IxOk (some ⟨d,dO,none⟩) i dN)∧
 loadW H4 true 6 ⟨d,(dO+i.toNat*6),none⟩ pNd fun(x5:Int×ByteArray×ByteArray×ByteArray×Int×Int)=>
 newB H4 (.cells #[(.int .i64 0),(.string (bs [])),(.string (bs [])),(.string (bs [])),(.int .i64 0),(.int .i64 0)] tq41) fun b6 H7=>
 storeW H7 ⟨b6,0,none⟩ [(.int .i64 x5.1),(.string x5.2.1),(.string x5.2.2.1),(.string x5.2.2.2.1),(.int .i64 x5.2.2.2.2.1),(.int .i64 x5.2.2.2.2.2)] fun H8=>
 lw H8 b6 0 (pInt .i64) fun(x9:Int)=>
 forkB (x9==1)
 (newB H8 (.cells #[(.int .i64 2),(.int .i64 3),(.int .i64 24),(.int .i64 26),(.int .i64 27),(.int .i64 31),(.int .i64 32),(.int .i64 34),(.int .i64 36),(.int .i64 37),(.int .i64 39)] tq3) fun b10 H11=>
 callW PP fq53 #[(pq b3),(.slice (some ⟨b10,0,none⟩) 11 11)] H11 pBlk fun(x12:Nat) H13=>
 callW PP fq54 #[(pq x12)] H13 pBool fun(x14:Bool) H15=>
 forkB x14
 (lw H15 b3 2 (pInt .i64) fun(x16:Int)=>
 retK (some [(.bool (decide (x16>0)))]) H15 R)
 (retK (some [(.bool false)]) H15 R))
 (forkB (x9==2)
 (lw H8 b6 4 (pInt .i64) fun(x17:Int)=>
 forkB (x17==1)
 (callW PP fq55 #[(pq b3),(.func (.func fq56) #[] #[])] H8 pBool fun(x18:Bool) H19=>
 forkB x18
 (callW PP fq54 #[(pq b3)] H19 pBool fun(x20:Bool) H21=>
 retK (some [(.bool x20)]) H21 R)
 (retK (some [(.bool false)]) H19 R))
 (newB H8 (.cells #[(.int .i64 4)] tq3) fun b22 H23=>
 callW PP fq53 #[(pq b3),(.slice (some ⟨b22,0,none⟩) 1 1)] H23 pBlk fun(x24:Nat) H25=>
 newB H25 (.cells #[(.int .i64 10)] tq3) fun b26 H27=>
 callW PP fq53 #[(pq x24),(.slice (some ⟨b26,0,none⟩) 1 1)] H27 pBlk fun(_x28:Nat) H29=>
 callW PP fq55 #[(pq b3),(.func (.func fq56) #[] #[])] H29 pBool fun(x30:Bool) H31=>
 forkB x30
 (callW PP fq54 #[(pq b3)] H31 pBool fun(x32:Bool) H33=>
 retK (some [(.bool x32)]) H33 R)
 (retK (some [(.bool false)]) H31 R)))
 (forkB (x9==3)
 (newB H8 (.cells #[(.int .i64 10)] tq3) fun b34 H35=>
 callW PP fq53 #[(pq b3),(.slice (some ⟨b34,0,none⟩) 1 1)] H35 pBlk fun(_x36:Nat) H37=>
 callW PP fq55 #[(pq b3),(.func (.func fq56) #[] #[])] H37 pBool fun(x38:Bool) H39=>
 forkB x38
 (callW PP fq54 #[(pq b3)] H39 pBool fun(x40:Bool) H41=>
 retK (some [(.bool x40)]) H41 R)
 (retK (some [(.bool false)]) H39 R))
 (forkB (x9==8)
 (newB H8 (.cells #[(.int .i64 10)] tq3) fun b42 H43=>
 callW PP fq53 #[(pq b3),(.slice (some ⟨b42,0,none⟩) 1 1)] H43 pBlk fun(_x44:Nat) H45=>
 callW PP fq55 #[(pq b3),(.func (.func fq56) #[] #[])] H45 pBool fun(x46:Bool) H47=>
 forkB x46
 (callW PP fq54 #[(pq b3)] H47 pBool fun(x48:Bool) H49=>
 retK (some [(.bool x48)]) H49 R)
 (retK (some [(.bool false)]) H47 R))
 (forkB (x9==4)
 (callW PP fq55 #[(pq b3),(.func (.func fq44) #[] #[])] H8 pBool fun(x50:Bool) H51=>
 forkB x50
 (callW PP fq54 #[(pq b3)] H51 pBool fun(x52:Bool) H53=>
 forkB x52
 (retK (some [(.bool true)]) H53 R)
 (callW PP fq55 #[(pq b3),(.func (.func fq45) #[] #[])] H53 pBool fun(x54:Bool) H55=>
 forkB x54
 (callW PP fq54 #[(pq b3)] H55 pBool fun(x56:Bool) H57=>
 forkB x56
 (callW PP fq57 #[(.slice (some ⟨d,dO,none⟩) dN dC),(.int .i64 i)] H57 pBool fun(x58:Bool) H59=>
 retK (some [(.bool x58)]) H59 R)
 (retK (some [(.bool false)]) H57 R))
 (retK (some [(.bool false)]) H55 R)))
 (retK (some [(.bool false)]) H51 R))
 (forkB (x9==5)
 (newB H8 (.cells #[(.int .i64 6),(.int .i64 7),(.int .i64 8)] tq3) fun b60 H61=>
 callW PP fq53 #[(pq b3),(.slice (some ⟨b60,0,none⟩) 3 3)] H61 pBlk fun(x62:Nat) H63=>
 callW PP fq54 #[(pq x62)] H63 pBool fun(x64:Bool) H65=>
 forkB x64
 (lw H65 b3 2 (pInt .i64) fun(x66:Int)=>
 retK (some [(.bool (decide (x66>0)))]) H65 R)
 (retK (some [(.bool false)]) H65 R))
 (forkB (x9==6)
 (newB H8 (.cells #[(.int .i64 9)] tq3) fun b67 H68=>
 callW PP fq53 #[(pq b3),(.slice (some ⟨b67,0,none⟩) 1 1)] H68 pBlk fun(x69:Nat) H70=>
 newB H70 (.cells #[(.int .i64 10)] tq3) fun b71 H72=>
 callW PP fq53 #[(pq x69),(.slice (some ⟨b71,0,none⟩) 1 1)] H72 pBlk fun(x73:Nat) H74=>
 newB H74 (.cells #[(.int .i64 5)] tq3) fun b75 H76=>
 callW PP fq53 #[(pq x73),(.slice (some ⟨b75,0,none⟩) 1 1)] H76 pBlk fun(x77:Nat) H78=>
 callW PP fq54 #[(pq x77)] H78 pBool fun(x79:Bool) H80=>
 forkB x79
 (callW PP fq58 #[(pq b3)] H80 pBool fun(x81:Bool) H82=>
 retK (some [(.bool x81)]) H82 R)
 (retK (some [(.bool false)]) H80 R))
 (forkB (x9==7)
 (newB H8 (.cells #[(.int .i64 10)] tq3) fun b83 H84=>
 callW PP fq53 #[(pq b3),(.slice (some ⟨b83,0,none⟩) 1 1)] H84 pBlk fun(x85:Nat) H86=>
 callW PP fq54 #[(pq x85)] H86 pBool fun(x87:Bool) H88=>
 retK (some [(.bool x87)]) H88 R)
 (forkB (x9==9)
 (callW PP fq55 #[(pq b3),(.func (.func fq45) #[] #[])] H8 pBool fun(x89:Bool) H90=>
 forkB x89
 (callW PP fq54 #[(pq b3)] H90 pBool fun(x91:Bool) H92=>
 retK (some [(.bool x91)]) H92 R)
 (retK (some [(.bool false)]) H90 R))
 (forkB (x9==19)
 (callW PP fq55 #[(pq b3),(.func (.func fq45) #[] #[])] H8 pBool fun(x93:Bool) H94=>
 forkB x93
 (callW PP fq54 #[(pq b3)] H94 pBool fun(x95:Bool) H96=>
 retK (some [(.bool x95)]) H96 R)
 (retK (some [(.bool false)]) H94 R))
 (forkB (x9==10)
 (newB H8 (.cells #[(.int .i64 9)] tq3) fun b97 H98=>
 callW PP fq53 #[(pq b3),(.slice (some ⟨b97,0,none⟩) 1 1)] H98 pBlk fun(x99:Nat) H100=>
 callW PP fq54 #[(pq x99)] H100 pBool fun(x101:Bool) H102=>
 retK (some [(.bool x101)]) H102 R)
 (forkB (x9==17)
 (loopK (Unit) (()) H8 fun _z103 H104 next105=>
 callW PP fq55 #[(pq b3),(.func (.func fq45) #[] #[])] H104 pBool fun(x106:Bool) H107=>
 forkB x106
 (next105 (()) H107)
 (callW PP fq54 #[(pq b3)] H107 pBool fun(x108:Bool) H109=>
 retK (some [(.bool x108)]) H109 R))
 (forkB (x9==18)
 (newB H8 (.cells #[(.int .i64 19)] tq3) fun b110 H111=>
 callW PP fq53 #[(pq b3),(.slice (some ⟨b110,0,none⟩) 1 1)] H111 pBlk fun(x112:Nat) H113=>
 callW PP fq54 #[(pq x112)] H113 pBool fun(x114:Bool) H115=>
 retK (some [(.bool x114)]) H115 R)
 (forkB (x9==21)
 (callW PP fq55 #[(pq b3),(.func (.func fq44) #[] #[])] H8 pBool fun(x116:Bool) H117=>
 forkB x116
 (callW PP fq54 #[(pq b3)] H117 pBool fun(x118:Bool) H119=>
 retK (some [(.bool x118)]) H119 R)
 (retK (some [(.bool false)]) H117 R))
 (forkB (x9==22)
 (callW PP fq55 #[(pq b3),(.func (.func fq59) #[] #[])] H8 pBool fun(x120:Bool) H121=>
 forkB x120
 (callW PP fq54 #[(pq b3)] H121 pBool fun(x122:Bool) H123=>
 retK (some [(.bool x122)]) H123 R)
 (retK (some [(.bool false)]) H121 R))
 ((IxOk (some ⟨d,dO,none⟩) i dN)∧
 loadW H8 false 1 ⟨d,(dO+i.toNat*6),none⟩ (pInt .i64) fun(x124:Int)=>
 callW PP fq60 #[(pq b3),(.int .i64 x124),(.slice (some ⟨d,dO,none⟩) dN dC),(.int .i64 i)] H8 pBool fun(x125:Bool) H126=>
 retK (some [(.bool x125)]) H126 R)))))))))))))))
theorem shaped.enter (d dO dN dC:Nat) (i:Int) (H:Heap) (R:RR) (h:shaped.W d dO dN dC i H R):Fn PP fq36 #[(.slice (some ⟨d,dO,none⟩) dN dC),(.int .i64 i)] H R:=
 fnS mixed Tryz.func36 ⟨patL [(10,pSlc),(16,pNd),(18,(pInt .i64)),(23,pBlk),(24,pBool),(29,(pInt .i64)),(35,(pInt .i64)),(38,pBool),(41,pBool),(45,pBlk),(47,pBlk),(49,pBool),(52,pBool),(59,pBlk),(61,pBool),(64,pBool),(69,pBool),(72,pBool),(75,pBool),(78,pBool),(83,pBool),(91,pBlk),(92,pBool),(97,(pInt .i64)),(104,pBlk),(106,pBlk),(108,pBlk),(109,pBool),(112,pBool),(118,pBlk),(119,pBool),(124,pBool),(127,pBool),(133,pBlk),(134,pBool),(138,pBool),(140,pBool),(145,pBlk),(146,pBool),(150,pBool),(153,pBool),(158,pBool),(161,pBool),(168,(pInt .i64)),(171,pBool)],loopL [(1,[])],joinL [],joinL [],joinRL []⟩ _ H R (Eq.mp (by unfold shaped.W;kernel_rfl) h)
def shapedType.W (r:Nat) (kind:Int) (d dO dN dC:Nat) (i:Int) (H:Heap) (R:RR):Prop:=
 joinK (Unit) (fun J1=>
 forkB (kind==24)
 (joinK (Bool×Unit) (fun J4=>
 newB H (.cells #[(.int .i64 10)] tq3) fun b7 H8=>
 callW PP fq53 #[(pq r),(.slice (some ⟨b7,0,none⟩) 1 1)] H8 pBlk fun(x9:Nat) H10=>
 newB H10 (.cells #[(.int .i64 25)] tq3) fun b11 H12=>
 callW PP fq53 #[(pq x9),(.slice (some ⟨b11,0,none⟩) 1 1)] H12 pBlk fun(x13:Nat) H14=>
 callW PP fq54 #[(pq x13)] H14 pBool fun(x15:Bool) H16=>
 forkB x15
 (lw H16 r 2 (pInt .i64) fun(x17:Int)=>
 J4 ((decide (x17>0)),()) H16)
 (J4 (false,()) H16)) fun y5 H6=>
 retK (some [(.bool y5.1)]) H6 R)
 (forkB (kind==39)
 (joinK (Bool×Unit) (fun J18=>
 callW PP fq55 #[(pq r),(.func (.func fq83) #[] #[])] H pBool fun(x21:Bool) H22=>
 forkB x21
 (callW PP fq54 #[(pq r)] H22 pBool fun(x23:Bool) H24=>
 forkB x23
 (callW PP fq19 #[(.slice (some ⟨d,dO,none⟩) dN dC),(.int .i64 (IntKind.i64.wrap (i+1))),(.int .i64 23)] H24 (pInt .i64) fun(x25:Int) H26=>
 J18 ((decide (x25<0)),()) H26)
 (J18 (false,()) H24))
 (J18 (false,()) H22)) fun y19 H20=>
 retK (some [(.bool y19.1)]) H20 R)
 (forkB (kind==26)
 (newB H (.cells #[(.int .i64 23)] tq3) fun b27 H28=>
 callW PP fq53 #[(pq r),(.slice (some ⟨b27,0,none⟩) 1 1)] H28 pBlk fun(x29:Nat) H30=>
 callW PP fq58 #[(pq x29)] H30 pBool fun(x31:Bool) H32=>
 forkB (!x31)
 (retK (some [(.bool false)]) H32 R)
 (J1 (()) H32))
 (forkB (kind==35)
 (newB H (.cells #[(.int .i64 23)] tq3) fun b33 H34=>
 callW PP fq53 #[(pq r),(.slice (some ⟨b33,0,none⟩) 1 1)] H34 pBlk fun(x35:Nat) H36=>
 callW PP fq58 #[(pq x35)] H36 pBool fun(x37:Bool) H38=>
 forkB (!x37)
 (retK (some [(.bool false)]) H38 R)
 (J1 (()) H38))
 (forkB (kind==27)
 (newB H (.cells #[(.int .i64 23)] tq3) fun b39 H40=>
 callW PP fq53 #[(pq r),(.slice (some ⟨b39,0,none⟩) 1 1)] H40 pBlk fun(x41:Nat) H42=>
 callW PP fq58 #[(pq x41)] H42 pBool fun(x43:Bool) H44=>
 forkB (!x43)
 (retK (some [(.bool false)]) H44 R)
 (J1 (()) H44))
 (forkB (kind==31)
 (newB H (.cells #[(.int .i64 23)] tq3) fun b45 H46=>
 callW PP fq53 #[(pq r),(.slice (some ⟨b45,0,none⟩) 1 1)] H46 pBlk fun(x47:Nat) H48=>
 callW PP fq58 #[(pq x47)] H48 pBool fun(x49:Bool) H50=>
 forkB (!x49)
 (retK (some [(.bool false)]) H50 R)
 (J1 (()) H50))
 (forkB (kind==32)
 (newB H (.cells #[(.int .i64 23)] tq3) fun b51 H52=>
 callW PP fq53 #[(pq r),(.slice (some ⟨b51,0,none⟩) 1 1)] H52 pBlk fun(x53:Nat) H54=>
 callW PP fq58 #[(pq x53)] H54 pBool fun(x55:Bool) H56=>
 forkB (!x55)
 (retK (some [(.bool false)]) H56 R)
 (J1 (()) H56))
 (forkB (kind==34)
 (newB H (.cells #[(.int .i64 23)] tq3) fun b57 H58=>
 callW PP fq53 #[(pq r),(.slice (some ⟨b57,0,none⟩) 1 1)] H58 pBlk fun(x59:Nat) H60=>
 callW PP fq58 #[(pq x59)] H60 pBool fun(x61:Bool) H62=>
 forkB (!x61)
 (retK (some [(.bool false)]) H62 R)
 (J1 (()) H62))
 (forkB (kind==36)
 (newB H (.cells #[(.int .i64 23)] tq3) fun b63 H64=>
 callW PP fq53 #[(pq r),(.slice (some ⟨b63,0,none⟩) 1 1)] H64 pBlk fun(x65:Nat) H66=>
 callW PP fq58 #[(pq x65)] H66 pBool fun(x67:Bool) H68=>
 forkB (!x67)
 (retK (some [(.bool false)]) H68 R)
 (J1 (()) H68))
 (forkB (kind==29)
 (newB H (.cells #[(.int .i64 23)] tq3) fun b69 H70=>
 callW PP fq53 #[(pq r),(.slice (some ⟨b69,0,none⟩) 1 1)] H70 pBlk fun(x71:Nat) H72=>
 callW PP fq58 #[(pq x71)] H72 pBool fun(x73:Bool) H74=>
 forkB (!x73)
 (retK (some [(.bool false)]) H74 R)
 (J1 (()) H74))
 (forkB (kind==30)
 (newB H (.cells #[(.int .i64 23)] tq3) fun b75 H76=>
 callW PP fq53 #[(pq r),(.slice (some ⟨b75,0,none⟩) 1 1)] H76 pBlk fun(x77:Nat) H78=>
 callW PP fq58 #[(pq x77)] H78 pBool fun(x79:Bool) H80=>
 forkB (!x79)
 (retK (some [(.bool false)]) H80 R)
 (J1 (()) H80))
 (forkB (kind==37)
 (newB H (.cells #[(.int .i64 23)] tq3) fun b81 H82=>
 callW PP fq53 #[(pq r),(.slice (some ⟨b81,0,none⟩) 1 1)] H82 pBlk fun(x83:Nat) H84=>
 callW PP fq58 #[(pq x83)] H84 pBool fun(x85:Bool) H86=>
 forkB (!x85)
 (retK (some [(.bool false)]) H86 R)
 (J1 (()) H86))
 (J1 (()) H))))))))))))) fun _y2 H3=>
 forkB (kind==26)
 (joinK (Bool×Unit) (fun J87=>
 callW PP fq57 #[(.slice (some ⟨d,dO,none⟩) dN dC),(.int .i64 i)] H3 pBool fun(x90:Bool) H91=>
 forkB x90
 (newB H91 (.cells #[(.int .i64 10)] tq3) fun b92 H93=>
 callW PP fq53 #[(pq r),(.slice (some ⟨b92,0,none⟩) 1 1)] H93 pBlk fun(x94:Nat) H95=>
 callW PP fq54 #[(pq x94)] H95 pBool fun(x96:Bool) H97=>
 J87 (x96,()) H97)
 (J87 (false,()) H91)) fun y88 H89=>
 retK (some [(.bool y88.1)]) H89 R)
 (forkB (kind==35)
 (joinK (Bool×Unit) (fun J98=>
 callW PP fq57 #[(.slice (some ⟨d,dO,none⟩) dN dC),(.int .i64 i)] H3 pBool fun(x101:Bool) H102=>
 forkB x101
 (newB H102 (.cells #[(.int .i64 10)] tq3) fun b103 H104=>
 callW PP fq53 #[(pq r),(.slice (some ⟨b103,0,none⟩) 1 1)] H104 pBlk fun(x105:Nat) H106=>
 callW PP fq54 #[(pq x105)] H106 pBool fun(x107:Bool) H108=>
 J98 (x107,()) H108)
 (J98 (false,()) H102)) fun y99 H100=>
 retK (some [(.bool y99.1)]) H100 R)
 (forkB (kind==27)
 (joinK (Bool×Unit) (fun J109=>
 callW PP fq84 #[(.slice (some ⟨d,dO,none⟩) dN dC),(.int .i64 i)] H3 pBool fun(x112:Bool) H113=>
 forkB x112
 (newB H113 (.cells #[(.int .i64 28)] tq3) fun b114 H115=>
 callW PP fq53 #[(pq r),(.slice (some ⟨b114,0,none⟩) 1 1)] H115 pBlk fun(x116:Nat) H117=>
 newB H117 (.cells #[(.int .i64 10)] tq3) fun b118 H119=>
 callW PP fq53 #[(pq x116),(.slice (some ⟨b118,0,none⟩) 1 1)] H119 pBlk fun(x120:Nat) H121=>
 newB H121 (.cells #[(.int .i64 29)] tq3) fun b122 H123=>
 callW PP fq53 #[(pq x120),(.slice (some ⟨b122,0,none⟩) 1 1)] H123 pBlk fun(x124:Nat) H125=>
 callW PP fq54 #[(pq x124)] H125 pBool fun(x126:Bool) H127=>
 forkB x126
 (lw H127 r 2 (pInt .i64) fun(x128:Int)=>
 J109 ((decide (x128>0)),()) H127)
 (J109 (false,()) H127))
 (J109 (false,()) H113)) fun y110 H111=>
 retK (some [(.bool y110.1)]) H111 R)
 (forkB (kind==31)
 (joinK (Bool×Unit) (fun J129=>
 callW PP fq84 #[(.slice (some ⟨d,dO,none⟩) dN dC),(.int .i64 i)] H3 pBool fun(x132:Bool) H133=>
 forkB x132
 (newB H133 (.cells #[(.int .i64 10)] tq3) fun b134 H135=>
 callW PP fq53 #[(pq r),(.slice (some ⟨b134,0,none⟩) 1 1)] H135 pBlk fun(x136:Nat) H137=>
 newB H137 (.cells #[(.int .i64 29)] tq3) fun b138 H139=>
 callW PP fq53 #[(pq x136),(.slice (some ⟨b138,0,none⟩) 1 1)] H139 pBlk fun(x140:Nat) H141=>
 callW PP fq54 #[(pq x140)] H141 pBool fun(x142:Bool) H143=>
 forkB x142
 (lw H143 r 2 (pInt .i64) fun(x144:Int)=>
 J129 ((decide (x144>0)),()) H143)
 (J129 (false,()) H143))
 (J129 (false,()) H133)) fun y130 H131=>
 retK (some [(.bool y130.1)]) H131 R)
 (forkB (kind==32)
 (joinK (Bool×Unit) (fun J145=>
 callW PP fq57 #[(.slice (some ⟨d,dO,none⟩) dN dC),(.int .i64 i)] H3 pBool fun(x148:Bool) H149=>
 forkB x148
 (newB H149 (.cells #[(.int .i64 10)] tq3) fun b150 H151=>
 callW PP fq53 #[(pq r),(.slice (some ⟨b150,0,none⟩) 1 1)] H151 pBlk fun(x152:Nat) H153=>
 newB H153 (.cells #[(.int .i64 33)] tq3) fun b154 H155=>
 callW PP fq53 #[(pq x152),(.slice (some ⟨b154,0,none⟩) 1 1)] H155 pBlk fun(x156:Nat) H157=>
 callW PP fq54 #[(pq x156)] H157 pBool fun(x158:Bool) H159=>
 forkB x158
 (lw H159 r 2 (pInt .i64) fun(x160:Int)=>
 J145 ((decide (x160>0)),()) H159)
 (J145 (false,()) H159))
 (J145 (false,()) H149)) fun y146 H147=>
 retK (some [(.bool y146.1)]) H147 R)
 (forkB (kind==34)
 (joinK (Bool×Unit) (fun J161=>
 callW PP fq84 #[(.slice (some ⟨d,dO,none⟩) dN dC),(.int .i64 i)] H3 pBool fun(x164:Bool) H165=>
 forkB x164
 (newB H165 (.cells #[(.int .i64 10)] tq3) fun b166 H167=>
 callW PP fq53 #[(pq r),(.slice (some ⟨b166,0,none⟩) 1 1)] H167 pBlk fun(x168:Nat) H169=>
 newB H169 (.cells #[(.int .i64 35)] tq3) fun b170 H171=>
 callW PP fq53 #[(pq x168),(.slice (some ⟨b170,0,none⟩) 1 1)] H171 pBlk fun(x172:Nat) H173=>
 callW PP fq54 #[(pq x172)] H173 pBool fun(x174:Bool) H175=>
 forkB x174
 (lw H175 r 2 (pInt .i64) fun(x176:Int)=>
 J161 ((decide (x176>0)),()) H175)
 (J161 (false,()) H175))
 (J161 (false,()) H165)) fun y162 H163=>
 retK (some [(.bool y162.1)]) H163 R)
 (forkB (kind==36)
 (joinK (Bool×Unit) (fun J177=>
 callW PP fq84 #[(.slice (some ⟨d,dO,none⟩) dN dC),(.int .i64 i)] H3 pBool fun(x180:Bool) H181=>
 forkB x180
 (newB H181 (.cells #[(.int .i64 10)] tq3) fun b182 H183=>
 callW PP fq53 #[(pq r),(.slice (some ⟨b182,0,none⟩) 1 1)] H183 pBlk fun(x184:Nat) H185=>
 newB H185 (.cells #[(.int .i64 30)] tq3) fun b186 H187=>
 callW PP fq53 #[(pq x184),(.slice (some ⟨b186,0,none⟩) 1 1)] H187 pBlk fun(x188:Nat) H189=>
 callW PP fq54 #[(pq x188)] H189 pBool fun(x190:Bool) H191=>
 forkB x190
 (lw H191 r 2 (pInt .i64) fun(x192:Int)=>
 J177 ((decide (x192>0)),()) H191)
 (J177 (false,()) H191))
 (J177 (false,()) H181)) fun y178 H179=>
 retK (some [(.bool y178.1)]) H179 R)
 (forkB (kind==29)
 (newB H3 (.cells #[(.int .i64 30)] tq3) fun b193 H194=>
 callW PP fq53 #[(pq r),(.slice (some ⟨b193,0,none⟩) 1 1)] H194 pBlk fun(_x195:Nat) H196=>
 joinK (Bool×Unit) (fun J197=>
 callW PP fq57 #[(.slice (some ⟨d,dO,none⟩) dN dC),(.int .i64 i)] H196 pBool fun(x200:Bool) H201=>
 forkB x200
 (callW PP fq55 #[(pq r),(.func (.func fq44) #[] #[])] H201 pBool fun(x202:Bool) H203=>
 forkB x202
 (newB H203 (.cells #[(.int .i64 10)] tq3) fun b204 H205=>
 callW PP fq53 #[(pq r),(.slice (some ⟨b204,0,none⟩) 1 1)] H205 pBlk fun(x206:Nat) H207=>
 callW PP fq54 #[(pq x206)] H207 pBool fun(x208:Bool) H209=>
 J197 (x208,()) H209)
 (J197 (false,()) H203))
 (J197 (false,()) H201)) fun y198 H199=>
 retK (some [(.bool y198.1)]) H199 R)
 (forkB (kind==30)
 (joinK (Bool×Unit) (fun J210=>
 callW PP fq57 #[(.slice (some ⟨d,dO,none⟩) dN dC),(.int .i64 i)] H3 pBool fun(x213:Bool) H214=>
 forkB (!x213)
 (J210 (true,()) H214)
 (callW PP fq55 #[(pq r),(.func (.func fq44) #[] #[])] H214 pBool fun(x215:Bool) H216=>
 J210 ((!x215),()) H216)) fun y211 H212=>
 forkB y211.1
 (retK (some [(.bool false)]) H212 R)
 (callW PP fq55 #[(pq r),(.func (.func fq45) #[] #[])] H212 pBool fun(_x217:Bool) H218=>
 newB H218 (.cells #[(.int .i64 10)] tq3) fun b219 H220=>
 callW PP fq53 #[(pq r),(.slice (some ⟨b219,0,none⟩) 1 1)] H220 pBlk fun(x221:Nat) H222=>
 callW PP fq54 #[(pq x221)] H222 pBool fun(x223:Bool) H224=>
 retK (some [(.bool x223)]) H224 R))
 (forkB (kind==37)
 (joinK (Bool×Unit) (fun J225=>
 newB H3 (.cells #[(.int .i64 30)] tq3) fun b228 H229=>
 callW PP fq53 #[(pq r),(.slice (some ⟨b228,0,none⟩) 1 1)] H229 pBlk fun(x230:Nat) H231=>
 newB H231 (.cells #[(.int .i64 38)] tq3) fun b232 H233=>
 callW PP fq53 #[(pq x230),(.slice (some ⟨b232,0,none⟩) 1 1)] H233 pBlk fun(x234:Nat) H235=>
 callW PP fq54 #[(pq x234)] H235 pBool fun(x236:Bool) H237=>
 forkB x236
 (lw H237 r 2 (pInt .i64) fun(x238:Int)=>
 J225 ((decide (x238>0)),()) H237)
 (J225 (false,()) H237)) fun y226 H227=>
 retK (some [(.bool y226.1)]) H227 R)
 (callW PP fq54 #[(pq r)] H3 pBool fun(x239:Bool) H240=>
 retK (some [(.bool x239)]) H240 R))))))))))
theorem shapedType.enter (r:Nat) (kind:Int) (d dO dN dC:Nat) (i:Int) (H:Heap) (R:RR) (h:shapedType.W r kind d dO dN dC i H R):Fn PP fq60 #[(pq r),(.int .i64 kind),(.slice (some ⟨d,dO,none⟩) dN dC),(.int .i64 i)] H R:=
 fnS mixed Tryz.func60 ⟨patL [(14,pBlk),(16,pBlk),(17,pBool),(22,(pInt .i64)),(28,pBool),(31,pBool),(37,(pInt .i64)),(53,pBlk),(54,pBool),(62,pBool),(66,pBlk),(67,pBool),(73,pBool),(77,pBlk),(79,pBlk),(81,pBlk),(82,pBool),(88,(pInt .i64)),(95,pBool),(99,pBlk),(101,pBlk),(102,pBool),(108,(pInt .i64)),(115,pBool),(119,pBlk),(121,pBlk),(122,pBool),(128,(pInt .i64)),(135,pBool),(139,pBlk),(141,pBlk),(142,pBool),(148,(pInt .i64)),(155,pBool),(159,pBlk),(161,pBlk),(162,pBool),(168,(pInt .i64)),(175,pBlk),(178,pBool),(181,pBool),(186,pBlk),(187,pBool),(193,pBool),(197,pBool),(201,pBool),(204,pBlk),(205,pBool),(210,pBlk),(212,pBlk),(213,pBool),(218,(pInt .i64)),(222,pBool)],loopL [],joinL [],joinL [(0,[])],joinRL [(3,[Slot.bool 8],false),(5,[Slot.bool 8],false),(21,[Slot.bool 8],false),(23,[Slot.bool 8],false),(25,[Slot.bool 8],false),(27,[Slot.bool 8],false),(29,[Slot.bool 8],false),(31,[Slot.bool 8],false),(34,[Slot.bool 8],false),(36,[Slot.bool 199],false),(41,[Slot.bool 8],false)]⟩ _ H R (Eq.mp (by unfold shapedType.W;kernel_rfl) h)
def rightFrom.W (d dO dN dC:Nat) (H:Heap) (R:RR):Prop:=
 forkB (((dN:Nat):Int)==0)
 (retK (some [(.bool false)]) H R)
 (forkB (decide (((dN:Nat):Int)>400))
 (retK (some [(.bool false)]) H R)
 ((IxOk (some ⟨d,dO,none⟩) 0 dN)∧
 loadW H false 1 ⟨d,((dO+(0:Int).toNat*6)+5),none⟩ (pInt .i64) fun(x1:Int)=>
 forkB (x1 !=((dN:Nat):Int))
 (retK (some [(.bool false)]) H R)
 (callW PP fq34 #[(.slice (some ⟨d,dO,none⟩) dN dC),(.int .i64 0),(.int .i64 ((dN:Nat):Int)),(.int .i64 0)] H pBool fun(x2:Bool) H3=>
 forkB (!x2)
 (retK (some [(.bool false)]) H3 R)
 (loopK (Int×Int×Unit) (0,0,()) H3 fun z4 H5 next6=>
 forkB (decide (z4.2.1<((dN:Nat):Int)))
 ((IxOk (some ⟨d,dO,none⟩) z4.2.1 dN)∧
 loadW H5 false 1 ⟨d,((dO+z4.2.1.toNat*6)+3),none⟩ pStr fun(x7:ByteArray)=>
 (IxOk (some ⟨d,dO,none⟩) z4.2.1 dN)∧
 loadW H5 false 1 ⟨d,((dO+z4.2.1.toNat*6)+1),none⟩ pStr fun(x8:ByteArray)=>
 (IxOk (some ⟨d,dO,none⟩) z4.2.1 dN)∧
 loadW H5 false 1 ⟨d,((dO+z4.2.1.toNat*6)+2),none⟩ pStr fun(x9:ByteArray)=>
 forkB (decide ((IntKind.i64.wrap (z4.1+(if 4001<(IntKind.i64.wrap ((IntKind.i64.wrap (((x7.size:Nat):Int)+((x8.size:Nat):Int)))+((x9.size:Nat):Int))) then 4001 else(IntKind.i64.wrap ((IntKind.i64.wrap (((x7.size:Nat):Int)+((x8.size:Nat):Int)))+((x9.size:Nat):Int))))))>4000))
 (retK (some [(.bool false)]) H5 R)
 ((IxOk (some ⟨d,dO,none⟩) z4.2.1 dN)∧
 loadW H5 true 6 ⟨d,(dO+z4.2.1.toNat*6),none⟩ pNd fun(x10:Int×ByteArray×ByteArray×ByteArray×Int×Int)=>
 callW PP fq35 #[(.agg #[(.int .i64 x10.1),(.string x10.2.1),(.string x10.2.2.1),(.string x10.2.2.2.1),(.int .i64 x10.2.2.2.2.1),(.int .i64 x10.2.2.2.2.2)])] H5 pBool fun(x11:Bool) H12=>
 forkB (!x11)
 (retK (some [(.bool false)]) H12 R)
 (callW PP fq36 #[(.slice (some ⟨d,dO,none⟩) dN dC),(.int .i64 z4.2.1)] H12 pBool fun(x13:Bool) H14=>
 forkB (!x13)
 (retK (some [(.bool false)]) H14 R)
 (next6 ((IntKind.i64.wrap (z4.1+(if 4001<(IntKind.i64.wrap ((IntKind.i64.wrap (((x7.size:Nat):Int)+((x8.size:Nat):Int)))+((x9.size:Nat):Int))) then 4001 else(IntKind.i64.wrap ((IntKind.i64.wrap (((x7.size:Nat):Int)+((x8.size:Nat):Int)))+((x9.size:Nat):Int)))))),(IntKind.i64.wrap (z4.2.1+1)),()) H14))))
 (retK (some [(.bool true)]) H5 R)))))
theorem rightFrom.enter (d dO dN dC:Nat) (H:Heap) (R:RR) (h:rightFrom.W d dO dN dC H R):Fn PP fq29 #[(.slice (some ⟨d,dO,none⟩) dN dC)] H R:=
 fnS mixed Tryz.func29 ⟨patL [(17,(pInt .i64)),(26,pBool),(40,pStr),(46,pStr),(53,pStr),(64,pNd),(65,pBool),(71,pBool)],loopL [(0,[Slot.int .i64 3,Slot.int .i64 4])],joinL [],joinL [],joinRL []⟩ _ H R (Eq.mp (by unfold rightFrom.W;kernel_rfl) h)
def AnyDocument.W (d dO dN dC:Nat) (H:Heap) (R:RR):Prop:=
 callW PP fq29 #[(.slice (some ⟨d,dO,none⟩) dN dC)] H pBool fun(x1:Bool) H2=>
 forkB x1
 ((IxOk (some ⟨d,dO,none⟩) 0 dN)∧
 loadW H2 false 1 ⟨d,(dO+(0:Int).toNat*6),none⟩ (pInt .i64) fun(x3:Int)=>
 retK (some [(.bool (x3==1))]) H2 R)
 (retK (some [(.bool false)]) H2 R)
theorem AnyDocument.enter (d dO dN dC:Nat) (H:Heap) (R:RR) (h:AnyDocument.W d dO dN dC H R):Fn PP fq16 #[(.slice (some ⟨d,dO,none⟩) dN dC)] H R:=
 fnS mixed Tryz.func16 (hz [(4,pBool),(9,(pInt .i64))]) _ H R (Eq.mp (by unfold AnyDocument.W;kernel_rfl) h)
def zzFits3.W (x xO xN _xC:Nat) (H:Heap) (R:RR):Prop:=
 forkB (decide (((xN:Nat):Int)>2147483647))
 (retK (some [(.bool false)]) H R)
 (loopK (Int×Unit) (0,()) H fun z1 H2 next3=>
 forkB (decide (z1.1<((xN:Nat):Int)))
 ((IxOk (some ⟨x,xO,none⟩) z1.1 xN)∧
 loadW H2 true 6 ⟨x,(xO+z1.1.toNat*6),none⟩ pNd fun(x4:Int×ByteArray×ByteArray×ByteArray×Int×Int)=>
 newB H2 (.cells #[(.int .i64 0),(.string (bs [])),(.string (bs [])),(.string (bs [])),(.int .i64 0),(.int .i64 0)] tq41) fun b5 H6=>
 storeW H6 ⟨b5,0,none⟩ [(.int .i64 x4.1),(.string x4.2.1),(.string x4.2.2.1),(.string x4.2.2.2.1),(.int .i64 x4.2.2.2.2.1),(.int .i64 x4.2.2.2.2.2)] fun H7=>
 loadW H7 true 6 ⟨b5,0,none⟩ pNd fun(x8:Int×ByteArray×ByteArray×ByteArray×Int×Int)=>
 callW PP fq28 #[(.agg #[(.int .i64 x8.1),(.string x8.2.1),(.string x8.2.2.1),(.string x8.2.2.2.1),(.int .i64 x8.2.2.2.2.1),(.int .i64 x8.2.2.2.2.2)])] H7 pBool fun(x9:Bool) H10=>
 forkB (!x9)
 (retK (some [(.bool false)]) H10 R)
 (next3 ((IntKind.i64.wrap (z1.1+1)),()) H10))
 (retK (some [(.bool true)]) H2 R))
theorem zzFits3.enter (x xO xN xC:Nat) (H:Heap) (R:RR) (h:zzFits3.W x xO xN xC H R):Fn PP fq15 #[(.slice (some ⟨x,xO,none⟩) xN xC)] H R:=
 fnS mixed Tryz.func15 ⟨patL [(13,pNd),(14,pNd),(15,pBool)],loopL [(0,[Slot.int .i64 10])],joinL [],joinL [],joinRL []⟩ _ H R (Eq.mp (by unfold zzFits3.W;kernel_rfl) h)
def zzFits4.W (x:Nd) (H:Heap) (R:RR):Prop:=
 newB H (.cells #[(.int .i64 x.kind),(.string x.name),(.string x.alias),(.string x.text),(.int .i64 x.flag),(.int .i64 x.size)] tq41) fun b1 H2=>
 lw H2 b1 1 pStr fun(x3:ByteArray)=>
 forkB (decide (((x3.size:Nat):Int)>2147483647))
 (retK (some [(.bool false)]) H2 R)
 (lw H2 b1 2 pStr fun(x4:ByteArray)=>
 forkB (decide (((x4.size:Nat):Int)>2147483647))
 (retK (some [(.bool false)]) H2 R)
 (lw H2 b1 3 pStr fun(x5:ByteArray)=>
 forkB (decide (((x5.size:Nat):Int)>2147483647))
 (retK (some [(.bool false)]) H2 R)
 (retK (some [(.bool true)]) H2 R)))
theorem zzFits4.enter (x:Nd) (H:Heap) (R:RR) (h:zzFits4.W x H R):Fn PP fq28 #[(.agg #[(.int .i64 x.kind),(.string x.name),(.string x.alias),(.string x.text),(.int .i64 x.flag),(.int .i64 x.size)])] H R:=
 fnS mixed Tryz.func28 (hz [(4,pStr),(8,pStr),(12,pStr)]) _ H R (Eq.mp (by unfold zzFits4.W;kernel_rfl) h)
def beneath9.W (d dO dN _dC:Nat) (kind:Int) (which:Int) (H:Heap) (R:RR):Prop:=
 loopK (Sl×Int×Unit) ((none,0,0),0,()) H fun z1 H2 next3=>
 forkB (decide (z1.2.1<((dN:Nat):Int)))
 ((IxOk (some ⟨d,dO,none⟩) z1.2.1 dN)∧
 loadW H2 false 1 ⟨d,(dO+z1.2.1.toNat*6),none⟩ (pInt .i64) fun(x4:Int)=>
 forkB (x4==kind)
 (newB H2 (.cells #[(.int .i64 z1.2.1)] tq3) fun b5 H6=>
 appK H6 tq3 1 8 z1.1.1 z1.1.2.1 z1.1.2.2 (some ⟨b5,0,none⟩) 1 fun a7 c8 H9=>
 next3 ((a7,(z1.1.2.1+1),c8),(IntKind.i64.wrap (z1.2.1+1)),()) H9)
 (next3 ((z1.1.1,z1.1.2.1,z1.1.2.2),(IntKind.i64.wrap (z1.2.1+1)),()) H2))
 (forkB (((z1.1.2.1:Nat):Int)==0)
 (retK (some [(.int .i64 0),(.bool false)]) H2 R)
 (((((z1.1.2.1:Nat):Int):Int)≠0)∧
 (IxOk z1.1.1 (Int.tmod (IntKind.i64.wrap which) ((z1.1.2.1:Nat):Int)) z1.1.2.1)∧
 loadW H2 false 1 ⟨(blkOf z1.1.1),(offOf z1.1.1+(Int.tmod (IntKind.i64.wrap which) ((z1.1.2.1:Nat):Int)).toNat*1),none⟩ (pInt .i64) fun(x10:Int)=>
 retK (some [(.int .i64 x10),(.bool true)]) H2 R))
theorem beneath9.enter (d dO dN dC:Nat) (kind:Int) (which:Int) (H:Heap) (R:RR) (h:beneath9.W d dO dN dC kind which H R):Fn PP fq18 #[(.slice (some ⟨d,dO,none⟩) dN dC),(.int .i64 kind),(.int .u8 which)] H R:=
 fnS mixed Tryz.func18 ⟨patL [(19,(pInt .i64)),(37,(pInt .i64))],loopL [(0,[Slot.slc 8,Slot.int .i64 12])],joinL [],joinL [],joinRL []⟩ _ H R (Eq.mp (by unfold beneath9.W;kernel_rfl) h)
def wNode.W (w:Nat) (i:Int) (H:Heap) (R:RR):Prop:=
 newB H (.cells #[(pq w)] tq46) fun b1 H2=>
 newB H2 (.cells #[(.int .i64 i)] tq3) fun b3 H4=>
 lw H4 b1 0 pBlk fun(x5:Nat)=>
 lw H4 x5 1 pSlc fun(x6:Sl)=>
 newB H4 (.cells #[(.int .i64 0)] tq3) fun b7 H8=>
 storeW H8 ⟨b7,0,none⟩ [(.int .i64 ((x6.2.1:Nat):Int))] fun H9=>
 lw H9 b1 0 pBlk fun(x10:Nat)=>
 lw H9 x10 0 pSlc fun(x11:Sl)=>
 lw H9 b3 0 (pInt .i64) fun(x12:Int)=>
 (IxOk x11.1 x12 x11.2.1)∧
 loadW H9 true 6 ⟨(blkOf x11.1),(offOf x11.1+x12.toNat*6),none⟩ pNd fun(x13:Int×ByteArray×ByteArray×ByteArray×Int×Int)=>
 newB H9 (.cells #[(.int .i64 0),(.string (bs [])),(.string (bs [])),(.string (bs [])),(.int .i64 0),(.int .i64 0)] tq41) fun b14 H15=>
 loadC H15 true 6 ⟨(blkOf x11.1),(offOf x11.1+x12.toNat*6),none⟩=some (.agg #[(.int .i64 x13.1),(.string x13.2.1),(.string x13.2.2.1),(.string x13.2.2.2.1),(.int .i64 x13.2.2.2.2.1),(.int .i64 x13.2.2.2.2.2)])∧
 lc H15 b3 0 (.int .i64 x12)∧
 lc H15 x10 0 (.slice x11.1 x11.2.1 x11.2.2)∧
 lc H15 b1 0 (pq x10)∧
 storeW H15 ⟨b14,0,none⟩ [(.int .i64 x13.1),(.string x13.2.1),(.string x13.2.2.1),(.string x13.2.2.2.1),(.int .i64 x13.2.2.2.2.1),(.int .i64 x13.2.2.2.2.2)] fun H16=>
 lw H16 b14 0 (pInt .i64) fun(x17:Int)=>
 joinK (Unit) (fun J18=>
 forkB (x17==1)
 (lw H16 b1 0 pBlk fun(x21:Nat)=>
 lw H16 x21 0 pSlc fun(x22:Sl)=>
 lw H16 b3 0 (pInt .i64) fun(x23:Int)=>
 callW PP fq26 #[(.slice x22.1 x22.2.1 x22.2.2),(.int .i64 x23)] H16 pSlc fun(x24:Sl) H25=>
 loopK (Int×Unit) (0,()) H25 fun z26 H27 next28=>
 forkB (decide (z26.1<((x24.2.1:Nat):Int)))
 (lw H27 b1 0 pBlk fun(x29:Nat)=>
 (IxOk x24.1 z26.1 x24.2.1)∧
 loadW H27 false 1 ⟨(blkOf x24.1),(offOf x24.1+z26.1.toNat*1),none⟩ (pInt .i64) fun(x30:Int)=>
 callW PP fq31 #[(pq x29),(.int .i64 x30)] H27 pUn fun(_:Unit) H32=>
 next28 ((IntKind.i64.wrap (z26.1+1)),()) H32)
 (J18 (()) H27))
 (joinK (Unit) (fun J33=>
 forkB (x17==2)
 (lw H16 b14 4 (pInt .i64) fun(x36:Int)=>
 joinK (Unit) (fun J37=>
 forkB (x36==0)
 (lw H16 b1 0 pBlk fun(x40:Nat)=>
 lw H16 b14 3 pStr fun(x41:ByteArray)=>
 newB H16 (.cells #[(.string x41)] tq9) fun b42 H43=>
 callW PP fq40 #[(pq x40),(.slice (some ⟨b42,0,none⟩) 1 1)] H43 pUn fun(_:Unit) H45=>
 lw H45 b14 1 pStr fun(x46:ByteArray)=>
 joinK (Unit) (fun J47=>
 forkB (!(x46.toList==(bs []).toList))
 (lw H45 b1 0 pBlk fun(x50:Nat)=>
 lw H45 b14 1 pStr fun(x51:ByteArray)=>
 newB H45 (.cells #[(.string x51)] tq9) fun b52 H53=>
 callW PP fq40 #[(pq x50),(.slice (some ⟨b52,0,none⟩) 1 1)] H53 pUn fun(_:Unit) H55=>
 J47 (()) H55)
 (J47 (()) H45)) fun _y48 H49=>
 J37 (()) H49)
 (J37 (()) H16)) fun _y38 H39=>
 lw H39 b1 0 pBlk fun(x56:Nat)=>
 lw H39 b3 0 (pInt .i64) fun(x57:Int)=>
 newB H39 (.cells #[(.int .i64 4)] tq3) fun b58 H59=>
 callW PP fq41 #[(pq x56),(.int .i64 x57),(.string (bs [40])),(.string (bs [41])),(.string (bs [])),(.slice (some ⟨b58,0,none⟩) 1 1)] H59 pUn fun(_:Unit) H61=>
 lw H61 b1 0 pBlk fun(x62:Nat)=>
 lw H61 b3 0 (pInt .i64) fun(x63:Int)=>
 callW PP fq42 #[(pq x62),(.int .i64 x63)] H61 pUn fun(_:Unit) H65=>
 lw H65 b1 0 pBlk fun(x66:Nat)=>
 lw H65 b3 0 (pInt .i64) fun(x67:Int)=>
 newB H65 (.cells #[(.int .i64 5)] tq3) fun b68 H69=>
 callW PP fq41 #[(pq x66),(.int .i64 x67),(.string (bs [])),(.string (bs [])),(.string (bs [])),(.slice (some ⟨b68,0,none⟩) 1 1)] H69 pUn fun(_:Unit) H71=>
 J33 (()) H71)
 (joinK (Unit) (fun J72=>
 forkB (x17==3)
 (lw H16 b1 0 pBlk fun(x75:Nat)=>
 lw H16 b14 1 pStr fun(x76:ByteArray)=>
 lw H16 b14 3 pStr fun(x77:ByteArray)=>
 newB H16 (.cells #[(.string (bs [102,114,97,103,109,101,110,116])),(.string x76),(.string (bs [111,110])),(.string x77)] tq9) fun b78 H79=>
 callW PP fq40 #[(pq x75),(.slice (some ⟨b78,0,none⟩) 4 4)] H79 pUn fun(_:Unit) H81=>
 lw H81 b1 0 pBlk fun(x82:Nat)=>
 lw H81 b3 0 (pInt .i64) fun(x83:Int)=>
 callW PP fq42 #[(pq x82),(.int .i64 x83)] H81 pUn fun(_:Unit) H85=>
 lw H85 b1 0 pBlk fun(x86:Nat)=>
 lw H85 b3 0 (pInt .i64) fun(x87:Int)=>
 newB H85 (.cells #[(.int .i64 5)] tq3) fun b88 H89=>
 callW PP fq41 #[(pq x86),(.int .i64 x87),(.string (bs [])),(.string (bs [])),(.string (bs [])),(.slice (some ⟨b88,0,none⟩) 1 1)] H89 pUn fun(_:Unit) H91=>
 J72 (()) H91)
 (joinK (Unit) (fun J92=>
 forkB (x17==4)
 (lw H16 b1 0 pBlk fun(x95:Nat)=>
 lw H16 b14 1 pStr fun(x96:ByteArray)=>
 newB H16 (.cells #[(.string (bs [36])),(.string x96),(.string (bs [58]))] tq9) fun b97 H98=>
 callW PP fq40 #[(pq x95),(.slice (some ⟨b97,0,none⟩) 3 3)] H98 pUn fun(_:Unit) H100=>
 lw H100 b1 0 pBlk fun(x101:Nat)=>
 lw H100 b3 0 (pInt .i64) fun(x102:Int)=>
 callW PP fq43 #[(pq x101),(.int .i64 x102),(.string (bs [])),(.func (.func fq44) #[] #[])] H100 pUn fun(_:Unit) H104=>
 lw H104 b1 0 pBlk fun(x105:Nat)=>
 lw H104 b3 0 (pInt .i64) fun(x106:Int)=>
 callW PP fq43 #[(pq x105),(.int .i64 x106),(.string (bs [61])),(.func (.func fq45) #[] #[])] H104 pUn fun(_:Unit) H108=>
 J92 (()) H108)
 (joinK (Unit) (fun J109=>
 forkB (x17==5)
 (lw H16 b1 0 pBlk fun(x112:Nat)=>
 lw H16 b3 0 (pInt .i64) fun(x113:Int)=>
 newB H16 (.cells #[(.int .i64 6),(.int .i64 7),(.int .i64 8)] tq3) fun b114 H115=>
 callW PP fq41 #[(pq x112),(.int .i64 x113),(.string (bs [123])),(.string (bs [125])),(.string (bs [])),(.slice (some ⟨b114,0,none⟩) 3 3)] H115 pUn fun(_:Unit) H117=>
 J109 (()) H117)
 (joinK (Unit) (fun J118=>
 forkB (x17==6)
 (lw H16 b14 2 pStr fun(x121:ByteArray)=>
 joinK (Unit) (fun J122=>
 forkB (!(x121.toList==(bs []).toList))
 (lw H16 b1 0 pBlk fun(x125:Nat)=>
 lw H16 b14 2 pStr fun(x126:ByteArray)=>
 newB H16 (.cells #[(.string x126),(.string (bs [58]))] tq9) fun b127 H128=>
 callW PP fq40 #[(pq x125),(.slice (some ⟨b127,0,none⟩) 2 2)] H128 pUn fun(_:Unit) H130=>
 J122 (()) H130)
 (J122 (()) H16)) fun _y123 H124=>
 lw H124 b1 0 pBlk fun(x131:Nat)=>
 lw H124 b14 1 pStr fun(x132:ByteArray)=>
 newB H124 (.cells #[(.string x132)] tq9) fun b133 H134=>
 callW PP fq40 #[(pq x131),(.slice (some ⟨b133,0,none⟩) 1 1)] H134 pUn fun(_:Unit) H136=>
 lw H136 b1 0 pBlk fun(x137:Nat)=>
 lw H136 b3 0 (pInt .i64) fun(x138:Int)=>
 newB H136 (.cells #[(.int .i64 9)] tq3) fun b139 H140=>
 callW PP fq41 #[(pq x137),(.int .i64 x138),(.string (bs [40])),(.string (bs [41])),(.string (bs [])),(.slice (some ⟨b139,0,none⟩) 1 1)] H140 pUn fun(_:Unit) H142=>
 lw H142 b1 0 pBlk fun(x143:Nat)=>
 lw H142 b3 0 (pInt .i64) fun(x144:Int)=>
 callW PP fq42 #[(pq x143),(.int .i64 x144)] H142 pUn fun(_:Unit) H146=>
 lw H146 b1 0 pBlk fun(x147:Nat)=>
 lw H146 b3 0 (pInt .i64) fun(x148:Int)=>
 newB H146 (.cells #[(.int .i64 5)] tq3) fun b149 H150=>
 callW PP fq41 #[(pq x147),(.int .i64 x148),(.string (bs [])),(.string (bs [])),(.string (bs [])),(.slice (some ⟨b149,0,none⟩) 1 1)] H150 pUn fun(_:Unit) H152=>
 J118 (()) H152)
 (joinK (Unit) (fun J153=>
 forkB (x17==7)
 (lw H16 b1 0 pBlk fun(x156:Nat)=>
 lw H16 b14 1 pStr fun(x157:ByteArray)=>
 newB H16 (.cells #[(.string (bs [46,46,46])),(.string x157)] tq9) fun b158 H159=>
 callW PP fq40 #[(pq x156),(.slice (some ⟨b158,0,none⟩) 2 2)] H159 pUn fun(_:Unit) H161=>
 lw H161 b1 0 pBlk fun(x162:Nat)=>
 lw H161 b3 0 (pInt .i64) fun(x163:Int)=>
 callW PP fq42 #[(pq x162),(.int .i64 x163)] H161 pUn fun(_:Unit) H165=>
 J153 (()) H165)
 (joinK (Unit) (fun J166=>
 forkB (x17==8)
 (lw H16 b1 0 pBlk fun(x169:Nat)=>
 newB H16 (.cells #[(.string (bs [46,46,46]))] tq9) fun b170 H171=>
 callW PP fq40 #[(pq x169),(.slice (some ⟨b170,0,none⟩) 1 1)] H171 pUn fun(_:Unit) H173=>
 lw H173 b14 3 pStr fun(x174:ByteArray)=>
 joinK (Unit) (fun J175=>
 forkB (!(x174.toList==(bs []).toList))
 (lw H173 b1 0 pBlk fun(x178:Nat)=>
 lw H173 b14 3 pStr fun(x179:ByteArray)=>
 newB H173 (.cells #[(.string (bs [111,110])),(.string x179)] tq9) fun b180 H181=>
 callW PP fq40 #[(pq x178),(.slice (some ⟨b180,0,none⟩) 2 2)] H181 pUn fun(_:Unit) H183=>
 J175 (()) H183)
 (J175 (()) H173)) fun _y176 H177=>
 lw H177 b1 0 pBlk fun(x184:Nat)=>
 lw H177 b3 0 (pInt .i64) fun(x185:Int)=>
 callW PP fq42 #[(pq x184),(.int .i64 x185)] H177 pUn fun(_:Unit) H187=>
 lw H187 b1 0 pBlk fun(x188:Nat)=>
 lw H187 b3 0 (pInt .i64) fun(x189:Int)=>
 newB H187 (.cells #[(.int .i64 5)] tq3) fun b190 H191=>
 callW PP fq41 #[(pq x188),(.int .i64 x189),(.string (bs [])),(.string (bs [])),(.string (bs [])),(.slice (some ⟨b190,0,none⟩) 1 1)] H191 pUn fun(_:Unit) H193=>
 J166 (()) H193)
 (joinK (Bool×Unit) (fun J194=>
 forkB (x17==9)
 (J194 (true,()) H16)
 (J194 ((x17==19),()) H16)) fun y195 H196=>
 joinK (Bool×Unit) (fun J197=>
 forkB y195.1
 (lw H196 b1 0 pBlk fun(x200:Nat)=>
 lw H196 b14 1 pStr fun(x201:ByteArray)=>
 newB H196 (.cells #[(.string x201),(.string (bs [58]))] tq9) fun b202 H203=>
 callW PP fq40 #[(pq x200),(.slice (some ⟨b202,0,none⟩) 2 2)] H203 pUn fun(_:Unit) H205=>
 lw H205 b1 0 pBlk fun(x206:Nat)=>
 lw H205 b3 0 (pInt .i64) fun(x207:Int)=>
 callW PP fq43 #[(pq x206),(.int .i64 x207),(.string (bs [])),(.func (.func fq45) #[] #[])] H205 pUn fun(_:Unit) H209=>
 J197 (true,()) H209)
 (joinK (Unit) (fun J210=>
 forkB (x17==10)
 (lw H196 b1 0 pBlk fun(x213:Nat)=>
 lw H196 b14 1 pStr fun(x214:ByteArray)=>
 newB H196 (.cells #[(.string (bs [64])),(.string x214)] tq9) fun b215 H216=>
 callW PP fq40 #[(pq x213),(.slice (some ⟨b215,0,none⟩) 2 2)] H216 pUn fun(_:Unit) H218=>
 lw H218 b1 0 pBlk fun(x219:Nat)=>
 lw H218 b3 0 (pInt .i64) fun(x220:Int)=>
 newB H218 (.cells #[(.int .i64 9)] tq3) fun b221 H222=>
 callW PP fq41 #[(pq x219),(.int .i64 x220),(.string (bs [40])),(.string (bs [41])),(.string (bs [])),(.slice (some ⟨b221,0,none⟩) 1 1)] H222 pUn fun(_:Unit) H224=>
 J210 (()) H224)
 (lw H196 b1 0 pBlk fun(x225:Nat)=>
 lw H196 b3 0 (pInt .i64) fun(x226:Int)=>
 callW PP fq46 #[(pq x225),(.int .i64 x226)] H196 pUn fun(_:Unit) H228=>
 J210 (()) H228)) fun _y211 H212=>
 J197 (false,()) H212)) fun _y198 H199=>
 J166 (()) H199)) fun _y167 H168=>
 J153 (()) H168)) fun _y154 H155=>
 J118 (()) H155)) fun _y119 H120=>
 J109 (()) H120)) fun _y110 H111=>
 J92 (()) H111)) fun _y93 H94=>
 J72 (()) H94)) fun _y73 H74=>
 J33 (()) H74)) fun _y34 H35=>
 J18 (()) H35)) fun _y19 H20=>
 FnC PP fq39 #[(pq b7),(pq b1),(pq b3)] H20 fun _ H229=>
 retK (some []) H229 R
theorem wNode.enter (w:Nat) (i:Int) (H:Heap) (R:RR) (h:wNode.W w i H R):Fn PP fq31 #[(pq w),(.int .i64 i)] H R:=
 funD_sound mixed Tryz.func31 ⟨patL [(8,pBlk),(11,pSlc),(14,pBlk),(17,pSlc),(18,(pInt .i64)),(20,pNd),(22,(pInt .i64)),(23,pBlk),(24,(pInt .i64)),(25,pUn),(28,pBlk),(31,pSlc),(32,(pInt .i64)),(33,pSlc),(40,pBlk),(44,(pInt .i64)),(45,pUn),(49,(pInt .i64)),(51,pBlk),(53,pStr),(55,pUn),(57,pStr),(59,pBlk),(61,pStr),(63,pUn),(64,pBlk),(65,(pInt .i64)),(67,pUn),(68,pBlk),(69,(pInt .i64)),(70,pUn),(71,pBlk),(72,(pInt .i64)),(74,pUn),(77,pBlk),(79,pStr),(81,pStr),(83,pUn),(84,pBlk),(85,(pInt .i64)),(86,pUn),(87,pBlk),(88,(pInt .i64)),(90,pUn),(93,pBlk),(95,pStr),(97,pUn),(98,pBlk),(99,(pInt .i64)),(100,pUn),(101,pBlk),(102,(pInt .i64)),(103,pUn),(106,pBlk),(107,(pInt .i64)),(109,pUn),(113,pStr),(115,pBlk),(117,pStr),(119,pUn),(120,pBlk),(122,pStr),(124,pUn),(125,pBlk),(126,(pInt .i64)),(128,pUn),(129,pBlk),(130,(pInt .i64)),(131,pUn),(132,pBlk),(133,(pInt .i64)),(135,pUn),(138,pBlk),(140,pStr),(142,pUn),(143,pBlk),(144,(pInt .i64)),(145,pUn),(148,pBlk),(150,pUn),(152,pStr),(154,pBlk),(156,pStr),(158,pUn),(159,pBlk),(160,(pInt .i64)),(161,pUn),(162,pBlk),(163,(pInt .i64)),(165,pUn),(169,pBlk),(171,pStr),(173,pUn),(174,pBlk),(175,(pInt .i64)),(176,pUn),(179,pBlk),(181,pStr),(183,pUn),(184,pBlk),(185,(pInt .i64)),(187,pUn)],loopL [(1,[Slot.int .i64 7])],joinL [(26,[]),(46,[]),(50,[]),(58,[]),(75,[]),(91,[]),(104,[]),(110,[]),(114,[]),(136,[]),(146,[]),(153,[]),(166,[Slot.bool 166]),(177,[])],joinL [],joinRL []⟩ _ H R (Eq.mp (by unfold wNode.W;kernel_rfl) h)
def wNodeEnd.W (fr:Nat) (wb:Nat) (ib:Nat) (H:Heap) (R:RR):Prop:=
 lw H wb 0 pBlk fun(x1:Nat)=>
 lw H x1 2 pMap fun(x2:Nat)=>
 lw H ib 0 (pInt .i64) fun(_x3:Int)=>
 lw H fr 0 (pInt .i64) fun(_x4:Int)=>
 lw H wb 0 pBlk fun(x5:Nat)=>
 lw H x5 1 pSlc fun(_x6:Sl)=>
 (IntKind.i64=IntKind.i64)∧
 mapSetW H x2 .i64 fun H7=>
 retK (some []) H7 R
theorem wNodeEnd.enterC (fr:Nat) (wb:Nat) (ib:Nat) (H:Heap) (R:RR) (h:wNodeEnd.W fr wb ib H R):FnC PP fq39 #[(pq fr),(pq wb),(pq ib)] H R:=
 funC_sound mixed Tryz.func39 (hz [(3,pBlk),(6,pMap),(7,(pInt .i64)),(8,(pInt .i64)),(9,pBlk),(12,pSlc)]) _ H R (Eq.mp (by unfold wNodeEnd.W;kernel_rfl) h)
def wPut.W (w:Nat) (l lO lN _lC:Nat) (H:Heap) (R:RR):Prop:=
 lw H w 1 pSlc fun(x1:Sl)=>
 appK H tq9 1 16 x1.1 x1.2.1 x1.2.2 (some ⟨l,lO,none⟩) lN fun a2 c3 H4=>
 storeW H4 ⟨w,1,none⟩ [(.slice a2 (x1.2.1+lN) c3)] fun H5=>
 retK (some []) H5 R
theorem wPut.enter (w:Nat) (l lO lN lC:Nat) (H:Heap) (R:RR) (h:wPut.W w l lO lN lC H R):Fn PP fq40 #[(pq w),(.slice (some ⟨l,lO,none⟩) lN lC)] H R:=
 fnS mixed Tryz.func40 (hz [(8,pSlc)]) _ H R (Eq.mp (by unfold wPut.W;kernel_rfl) h)
def wRest.W (w:Nat) (i:Int) (H:Heap) (R:RR):Prop:=
 lw H w 0 pSlc fun(x1:Sl)=>
 (IxOk x1.1 i x1.2.1)∧
 loadW H true 6 ⟨(blkOf x1.1),(offOf x1.1+i.toNat*6),none⟩ pNd fun(x2:Int×ByteArray×ByteArray×ByteArray×Int×Int)=>
 newB H (.cells #[(.int .i64 0),(.string (bs [])),(.string (bs [])),(.string (bs [])),(.int .i64 0),(.int .i64 0)] tq41) fun b3 H4=>
 storeW H4 ⟨b3,0,none⟩ [(.int .i64 x2.1),(.string x2.2.1),(.string x2.2.2.1),(.string x2.2.2.2.1),(.int .i64 x2.2.2.2.2.1),(.int .i64 x2.2.2.2.2.2)] fun H5=>
 lw H5 b3 0 (pInt .i64) fun(x6:Int)=>
 forkB (x6==11)
 (lw H5 b3 1 pStr fun(x7:ByteArray)=>
 newB H5 (.cells #[(.string (bs [36])),(.string x7)] tq9) fun b8 H9=>
 callW PP fq40 #[(pq w),(.slice (some ⟨b8,0,none⟩) 2 2)] H9 pUn fun(_:Unit) H11=>
 retK (some []) H11 R)
 (forkB (x6==12)
 (lw H5 b3 3 pStr fun(x12:ByteArray)=>
 newB H5 (.cells #[(.string x12)] tq9) fun b13 H14=>
 callW PP fq40 #[(pq w),(.slice (some ⟨b13,0,none⟩) 1 1)] H14 pUn fun(_:Unit) H16=>
 retK (some []) H16 R)
 (forkB (x6==13)
 (lw H5 b3 3 pStr fun(x17:ByteArray)=>
 newB H5 (.cells #[(.string x17)] tq9) fun b18 H19=>
 callW PP fq40 #[(pq w),(.slice (some ⟨b18,0,none⟩) 1 1)] H19 pUn fun(_:Unit) H21=>
 retK (some []) H21 R)
 (forkB (x6==14)
 (lw H5 b3 4 (pInt .i64) fun(x22:Int)=>
 forkB (x22==1)
 (lw H5 b3 3 pStr fun(x23:ByteArray)=>
 callW PP fq75 #[(.string x23)] H5 pStr fun(x24:ByteArray) H25=>
 newB H25 (.cells #[(.string x24)] tq9) fun b26 H27=>
 callW PP fq40 #[(pq w),(.slice (some ⟨b26,0,none⟩) 1 1)] H27 pUn fun(_:Unit) H29=>
 retK (some []) H29 R)
 (lw H5 b3 3 pStr fun(x30:ByteArray)=>
 callW PP fq76 #[(.string x30)] H5 pStr fun(x31:ByteArray) H32=>
 newB H32 (.cells #[(.string x31)] tq9) fun b33 H34=>
 callW PP fq40 #[(pq w),(.slice (some ⟨b33,0,none⟩) 1 1)] H34 pUn fun(_:Unit) H36=>
 retK (some []) H36 R))
 (forkB (x6==23)
 (lw H5 b3 4 (pInt .i64) fun(x37:Int)=>
 forkB (x37==1)
 (lw H5 b3 3 pStr fun(x38:ByteArray)=>
 callW PP fq75 #[(.string x38)] H5 pStr fun(x39:ByteArray) H40=>
 newB H40 (.cells #[(.string x39)] tq9) fun b41 H42=>
 callW PP fq40 #[(pq w),(.slice (some ⟨b41,0,none⟩) 1 1)] H42 pUn fun(_:Unit) H44=>
 retK (some []) H44 R)
 (lw H5 b3 3 pStr fun(x45:ByteArray)=>
 callW PP fq76 #[(.string x45)] H5 pStr fun(x46:ByteArray) H47=>
 newB H47 (.cells #[(.string x46)] tq9) fun b48 H49=>
 callW PP fq40 #[(pq w),(.slice (some ⟨b48,0,none⟩) 1 1)] H49 pUn fun(_:Unit) H51=>
 retK (some []) H51 R))
 (forkB (x6==15)
 (newB H5 (.cells #[(.string (bs [102,97,108,115,101])),(.string (bs [116,114,117,101]))] tq9) fun b52 H53=>
 lw H53 b3 4 (pInt .i64) fun(x54:Int)=>
 (IxOk (some ⟨b52,0,none⟩) x54 2)∧
 loadW H53 false 1 ⟨b52,(0+x54.toNat*1),none⟩ pStr fun(x55:ByteArray)=>
 newB H53 (.cells #[(.string x55)] tq9) fun b56 H57=>
 callW PP fq40 #[(pq w),(.slice (some ⟨b56,0,none⟩) 1 1)] H57 pUn fun(_:Unit) H59=>
 retK (some []) H59 R)
 (forkB (x6==17)
 (newB H5 (.cells #[(.string (bs [91])),(.string (bs [93]))] tq9) fun b60 H61=>
 lw H61 b3 0 (pInt .i64) fun(x62:Int)=>
 forkB (x62==18)
 (newB H61 (.cells #[(.string (bs [123])),(.string (bs [125]))] tq9) fun b63 H64=>
 (IxOk (some ⟨b63,0,none⟩) 0 2)∧
 loadW H64 false 1 ⟨b63,(0+(0:Int).toNat*1),none⟩ pStr fun(x65:ByteArray)=>
 newB H64 (.cells #[(.string x65)] tq9) fun b66 H67=>
 callW PP fq40 #[(pq w),(.slice (some ⟨b66,0,none⟩) 1 1)] H67 pUn fun(_:Unit) H69=>
 lw H69 w 0 pSlc fun(x70:Sl)=>
 callW PP fq26 #[(.slice x70.1 x70.2.1 x70.2.2),(.int .i64 i)] H69 pSlc fun(x71:Sl) H72=>
 loopK (Int×Unit) (0,()) H72 fun z73 H74 next75=>
 forkB (decide (z73.1<((x71.2.1:Nat):Int)))
 ((IxOk x71.1 z73.1 x71.2.1)∧
 loadW H74 false 1 ⟨(blkOf x71.1),(offOf x71.1+z73.1.toNat*1),none⟩ (pInt .i64) fun(x76:Int)=>
 callW PP fq31 #[(pq w),(.int .i64 x76)] H74 pUn fun(_:Unit) H78=>
 next75 ((IntKind.i64.wrap (z73.1+1)),()) H78)
 ((IxOk (some ⟨b63,0,none⟩) 1 2)∧
 loadW H74 false 1 ⟨b63,(0+(1:Int).toNat*1),none⟩ pStr fun(x79:ByteArray)=>
 newB H74 (.cells #[(.string x79)] tq9) fun b80 H81=>
 callW PP fq40 #[(pq w),(.slice (some ⟨b80,0,none⟩) 1 1)] H81 pUn fun(_:Unit) H83=>
 retK (some []) H83 R))
 ((IxOk (some ⟨b60,0,none⟩) 0 2)∧
 loadW H61 false 1 ⟨b60,(0+(0:Int).toNat*1),none⟩ pStr fun(x84:ByteArray)=>
 newB H61 (.cells #[(.string x84)] tq9) fun b85 H86=>
 callW PP fq40 #[(pq w),(.slice (some ⟨b85,0,none⟩) 1 1)] H86 pUn fun(_:Unit) H88=>
 lw H88 w 0 pSlc fun(x89:Sl)=>
 callW PP fq26 #[(.slice x89.1 x89.2.1 x89.2.2),(.int .i64 i)] H88 pSlc fun(x90:Sl) H91=>
 loopK (Int×Unit) (0,()) H91 fun z92 H93 next94=>
 forkB (decide (z92.1<((x90.2.1:Nat):Int)))
 ((IxOk x90.1 z92.1 x90.2.1)∧
 loadW H93 false 1 ⟨(blkOf x90.1),(offOf x90.1+z92.1.toNat*1),none⟩ (pInt .i64) fun(x95:Int)=>
 callW PP fq31 #[(pq w),(.int .i64 x95)] H93 pUn fun(_:Unit) H97=>
 next94 ((IntKind.i64.wrap (z92.1+1)),()) H97)
 ((IxOk (some ⟨b60,0,none⟩) 1 2)∧
 loadW H93 false 1 ⟨b60,(0+(1:Int).toNat*1),none⟩ pStr fun(x98:ByteArray)=>
 newB H93 (.cells #[(.string x98)] tq9) fun b99 H100=>
 callW PP fq40 #[(pq w),(.slice (some ⟨b99,0,none⟩) 1 1)] H100 pUn fun(_:Unit) H102=>
 retK (some []) H102 R)))
 (forkB (x6==18)
 (newB H5 (.cells #[(.string (bs [91])),(.string (bs [93]))] tq9) fun b103 H104=>
 lw H104 b3 0 (pInt .i64) fun(x105:Int)=>
 forkB (x105==18)
 (newB H104 (.cells #[(.string (bs [123])),(.string (bs [125]))] tq9) fun b106 H107=>
 (IxOk (some ⟨b106,0,none⟩) 0 2)∧
 loadW H107 false 1 ⟨b106,(0+(0:Int).toNat*1),none⟩ pStr fun(x108:ByteArray)=>
 newB H107 (.cells #[(.string x108)] tq9) fun b109 H110=>
 callW PP fq40 #[(pq w),(.slice (some ⟨b109,0,none⟩) 1 1)] H110 pUn fun(_:Unit) H112=>
 lw H112 w 0 pSlc fun(x113:Sl)=>
 callW PP fq26 #[(.slice x113.1 x113.2.1 x113.2.2),(.int .i64 i)] H112 pSlc fun(x114:Sl) H115=>
 loopK (Int×Unit) (0,()) H115 fun z116 H117 next118=>
 forkB (decide (z116.1<((x114.2.1:Nat):Int)))
 ((IxOk x114.1 z116.1 x114.2.1)∧
 loadW H117 false 1 ⟨(blkOf x114.1),(offOf x114.1+z116.1.toNat*1),none⟩ (pInt .i64) fun(x119:Int)=>
 callW PP fq31 #[(pq w),(.int .i64 x119)] H117 pUn fun(_:Unit) H121=>
 next118 ((IntKind.i64.wrap (z116.1+1)),()) H121)
 ((IxOk (some ⟨b106,0,none⟩) 1 2)∧
 loadW H117 false 1 ⟨b106,(0+(1:Int).toNat*1),none⟩ pStr fun(x122:ByteArray)=>
 newB H117 (.cells #[(.string x122)] tq9) fun b123 H124=>
 callW PP fq40 #[(pq w),(.slice (some ⟨b123,0,none⟩) 1 1)] H124 pUn fun(_:Unit) H126=>
 retK (some []) H126 R))
 ((IxOk (some ⟨b103,0,none⟩) 0 2)∧
 loadW H104 false 1 ⟨b103,(0+(0:Int).toNat*1),none⟩ pStr fun(x127:ByteArray)=>
 newB H104 (.cells #[(.string x127)] tq9) fun b128 H129=>
 callW PP fq40 #[(pq w),(.slice (some ⟨b128,0,none⟩) 1 1)] H129 pUn fun(_:Unit) H131=>
 lw H131 w 0 pSlc fun(x132:Sl)=>
 callW PP fq26 #[(.slice x132.1 x132.2.1 x132.2.2),(.int .i64 i)] H131 pSlc fun(x133:Sl) H134=>
 loopK (Int×Unit) (0,()) H134 fun z135 H136 next137=>
 forkB (decide (z135.1<((x133.2.1:Nat):Int)))
 ((IxOk x133.1 z135.1 x133.2.1)∧
 loadW H136 false 1 ⟨(blkOf x133.1),(offOf x133.1+z135.1.toNat*1),none⟩ (pInt .i64) fun(x138:Int)=>
 callW PP fq31 #[(pq w),(.int .i64 x138)] H136 pUn fun(_:Unit) H140=>
 next137 ((IntKind.i64.wrap (z135.1+1)),()) H140)
 ((IxOk (some ⟨b103,0,none⟩) 1 2)∧
 loadW H136 false 1 ⟨b103,(0+(1:Int).toNat*1),none⟩ pStr fun(x141:ByteArray)=>
 newB H136 (.cells #[(.string x141)] tq9) fun b142 H143=>
 callW PP fq40 #[(pq w),(.slice (some ⟨b142,0,none⟩) 1 1)] H143 pUn fun(_:Unit) H145=>
 retK (some []) H145 R)))
 (forkB (x6==21)
 (newB H5 (.cells #[(.string (bs [91]))] tq9) fun b146 H147=>
 callW PP fq40 #[(pq w),(.slice (some ⟨b146,0,none⟩) 1 1)] H147 pUn fun(_:Unit) H149=>
 callW PP fq31 #[(pq w),(.int .i64 (IntKind.i64.wrap (i+1)))] H149 pUn fun(_:Unit) H151=>
 newB H151 (.cells #[(.string (bs [93]))] tq9) fun b152 H153=>
 callW PP fq40 #[(pq w),(.slice (some ⟨b152,0,none⟩) 1 1)] H153 pUn fun(_:Unit) H155=>
 retK (some []) H155 R)
 (forkB (x6==22)
 (callW PP fq31 #[(pq w),(.int .i64 (IntKind.i64.wrap (i+1)))] H5 pUn fun(_:Unit) H157=>
 newB H157 (.cells #[(.string (bs [33]))] tq9) fun b158 H159=>
 callW PP fq40 #[(pq w),(.slice (some ⟨b158,0,none⟩) 1 1)] H159 pUn fun(_:Unit) H161=>
 retK (some []) H161 R)
 (forkB (x6==16)
 (lw H5 b3 1 pStr fun(x162:ByteArray)=>
 newB H5 (.cells #[(.string x162)] tq9) fun b163 H164=>
 callW PP fq40 #[(pq w),(.slice (some ⟨b163,0,none⟩) 1 1)] H164 pUn fun(_:Unit) H166=>
 retK (some []) H166 R)
 (forkB (x6==20)
 (lw H5 b3 1 pStr fun(x167:ByteArray)=>
 newB H5 (.cells #[(.string x167)] tq9) fun b168 H169=>
 callW PP fq40 #[(pq w),(.slice (some ⟨b168,0,none⟩) 1 1)] H169 pUn fun(_:Unit) H171=>
 retK (some []) H171 R)
 (forkB (x6==28)
 (lw H5 b3 1 pStr fun(x172:ByteArray)=>
 newB H5 (.cells #[(.string x172)] tq9) fun b173 H174=>
 callW PP fq40 #[(pq w),(.slice (some ⟨b173,0,none⟩) 1 1)] H174 pUn fun(_:Unit) H176=>
 retK (some []) H176 R)
 (forkB (x6==33)
 (lw H5 b3 1 pStr fun(x177:ByteArray)=>
 newB H5 (.cells #[(.string x177)] tq9) fun b178 H179=>
 callW PP fq40 #[(pq w),(.slice (some ⟨b178,0,none⟩) 1 1)] H179 pUn fun(_:Unit) H181=>
 retK (some []) H181 R)
 (forkB (x6==38)
 (lw H5 b3 1 pStr fun(x182:ByteArray)=>
 newB H5 (.cells #[(.string x182)] tq9) fun b183 H184=>
 callW PP fq40 #[(pq w),(.slice (some ⟨b183,0,none⟩) 1 1)] H184 pUn fun(_:Unit) H186=>
 retK (some []) H186 R)
 (callW PP fq77 #[(pq w),(.int .i64 i)] H5 pUn fun(_:Unit) H188=>
 retK (some []) H188 R)))))))))))))))
theorem wRest.enter (w:Nat) (i:Int) (H:Heap) (R:RR) (h:wRest.W w i H R):Fn PP fq46 #[(pq w),(.int .i64 i)] H R:=
 fnS mixed Tryz.func46 ⟨patL [(11,pSlc),(14,pNd),(16,(pInt .i64)),(19,pUn),(24,pStr),(26,pUn),(32,pStr),(34,pUn),(39,(pInt .i64)),(43,pStr),(44,pStr),(46,pUn),(49,pStr),(50,pStr),(52,pUn),(58,(pInt .i64)),(60,pStr),(62,pUn),(68,(pInt .i64)),(74,pStr),(76,pUn),(80,pSlc),(82,pSlc),(93,(pInt .i64)),(94,pUn),(98,pStr),(100,pUn),(105,pUn),(109,pUn),(112,pUn),(118,pUn),(121,pUn),(130,pStr),(132,pUn)],loopL [(1,[Slot.int .i64 7])],joinL [],joinL [],joinRL []⟩ _ H R (Eq.mp (by unfold wRest.W;kernel_rfl) h)
def wDefinition.W (w:Nat) (i:Int) (H:Heap) (R:RR):Prop:=
 lw H w 0 pSlc fun(x1:Sl)=>
 (IxOk x1.1 i x1.2.1)∧
 loadW H true 6 ⟨(blkOf x1.1),(offOf x1.1+i.toNat*6),none⟩ pNd fun(x2:Int×ByteArray×ByteArray×ByteArray×Int×Int)=>
 newB H (.cells #[(.int .i64 0),(.string (bs [])),(.string (bs [])),(.string (bs [])),(.int .i64 0),(.int .i64 0)] tq41) fun b3 H4=>
 storeW H4 ⟨b3,0,none⟩ [(.int .i64 x2.1),(.string x2.2.1),(.string x2.2.2.1),(.string x2.2.2.2.1),(.int .i64 x2.2.2.2.2.1),(.int .i64 x2.2.2.2.2.2)] fun H5=>
 callW PP fq131 #[(pq w),(.int .i64 i)] H5 pUn fun(_:Unit) H7=>
 lw H7 b3 0 (pInt .i64) fun(x8:Int)=>
 forkB (x8==24)
 (newB H7 (.cells #[(.string (bs [115,99,104,101,109,97]))] tq9) fun b9 H10=>
 callW PP fq40 #[(pq w),(.slice (some ⟨b9,0,none⟩) 1 1)] H10 pUn fun(_:Unit) H12=>
 callW PP fq42 #[(pq w),(.int .i64 i)] H12 pUn fun(_:Unit) H14=>
 newB H14 (.cells #[(.int .i64 25)] tq3) fun b15 H16=>
 callW PP fq41 #[(pq w),(.int .i64 i),(.string (bs [123])),(.string (bs [125])),(.string (bs [])),(.slice (some ⟨b15,0,none⟩) 1 1)] H16 pUn fun(_:Unit) H18=>
 retK (some []) H18 R)
 (forkB (x8==25)
 (lw H7 b3 3 pStr fun(x19:ByteArray)=>
 lw H7 b3 1 pStr fun(x20:ByteArray)=>
 newB H7 (.cells #[(.string x19),(.string (bs [58])),(.string x20)] tq9) fun b21 H22=>
 callW PP fq40 #[(pq w),(.slice (some ⟨b21,0,none⟩) 3 3)] H22 pUn fun(_:Unit) H24=>
 retK (some []) H24 R)
 (forkB (x8==26)
 (lw H7 b3 1 pStr fun(x25:ByteArray)=>
 newB H7 (.cells #[(.string (bs [115,99,97,108,97,114])),(.string x25)] tq9) fun b26 H27=>
 callW PP fq40 #[(pq w),(.slice (some ⟨b26,0,none⟩) 2 2)] H27 pUn fun(_:Unit) H29=>
 callW PP fq42 #[(pq w),(.int .i64 i)] H29 pUn fun(_:Unit) H31=>
 retK (some []) H31 R)
 (forkB (x8==27)
 (lw H7 b3 1 pStr fun(x32:ByteArray)=>
 newB H7 (.cells #[(.string (bs [116,121,112,101])),(.string x32)] tq9) fun b33 H34=>
 callW PP fq40 #[(pq w),(.slice (some ⟨b33,0,none⟩) 2 2)] H34 pUn fun(_:Unit) H36=>
 newB H36 (.cells #[(.int .i64 28)] tq3) fun b37 H38=>
 callW PP fq41 #[(pq w),(.int .i64 i),(.string (bs [105,109,112,108,101,109,101,110,116,115])),(.string (bs [])),(.string (bs [38])),(.slice (some ⟨b37,0,none⟩) 1 1)] H38 pUn fun(_:Unit) H40=>
 callW PP fq42 #[(pq w),(.int .i64 i)] H40 pUn fun(_:Unit) H42=>
 newB H42 (.cells #[(.int .i64 29)] tq3) fun b43 H44=>
 callW PP fq41 #[(pq w),(.int .i64 i),(.string (bs [123])),(.string (bs [125])),(.string (bs [])),(.slice (some ⟨b43,0,none⟩) 1 1)] H44 pUn fun(_:Unit) H46=>
 retK (some []) H46 R)
 (forkB (x8==31)
 (lw H7 b3 1 pStr fun(x47:ByteArray)=>
 newB H7 (.cells #[(.string (bs [105,110,116,101,114,102,97,99,101])),(.string x47)] tq9) fun b48 H49=>
 callW PP fq40 #[(pq w),(.slice (some ⟨b48,0,none⟩) 2 2)] H49 pUn fun(_:Unit) H51=>
 callW PP fq42 #[(pq w),(.int .i64 i)] H51 pUn fun(_:Unit) H53=>
 newB H53 (.cells #[(.int .i64 29)] tq3) fun b54 H55=>
 callW PP fq41 #[(pq w),(.int .i64 i),(.string (bs [123])),(.string (bs [125])),(.string (bs [])),(.slice (some ⟨b54,0,none⟩) 1 1)] H55 pUn fun(_:Unit) H57=>
 retK (some []) H57 R)
 (forkB (x8==29)
 (lw H7 b3 1 pStr fun(x58:ByteArray)=>
 newB H7 (.cells #[(.string x58)] tq9) fun b59 H60=>
 callW PP fq40 #[(pq w),(.slice (some ⟨b59,0,none⟩) 1 1)] H60 pUn fun(_:Unit) H62=>
 newB H62 (.cells #[(.int .i64 30)] tq3) fun b63 H64=>
 callW PP fq41 #[(pq w),(.int .i64 i),(.string (bs [40])),(.string (bs [41])),(.string (bs [])),(.slice (some ⟨b63,0,none⟩) 1 1)] H64 pUn fun(_:Unit) H66=>
 callW PP fq43 #[(pq w),(.int .i64 i),(.string (bs [58])),(.func (.func fq44) #[] #[])] H66 pUn fun(_:Unit) H68=>
 callW PP fq42 #[(pq w),(.int .i64 i)] H68 pUn fun(_:Unit) H70=>
 retK (some []) H70 R)
 (forkB (x8==30)
 (lw H7 b3 1 pStr fun(x71:ByteArray)=>
 newB H7 (.cells #[(.string x71)] tq9) fun b72 H73=>
 callW PP fq40 #[(pq w),(.slice (some ⟨b72,0,none⟩) 1 1)] H73 pUn fun(_:Unit) H75=>
 callW PP fq43 #[(pq w),(.int .i64 i),(.string (bs [58])),(.func (.func fq44) #[] #[])] H75 pUn fun(_:Unit) H77=>
 callW PP fq43 #[(pq w),(.int .i64 i),(.string (bs [61])),(.func (.func fq45) #[] #[])] H77 pUn fun(_:Unit) H79=>
 callW PP fq42 #[(pq w),(.int .i64 i)] H79 pUn fun(_:Unit) H81=>
 retK (some []) H81 R)
 (forkB (x8==32)
 (lw H7 b3 1 pStr fun(x82:ByteArray)=>
 newB H7 (.cells #[(.string (bs [117,110,105,111,110])),(.string x82)] tq9) fun b83 H84=>
 callW PP fq40 #[(pq w),(.slice (some ⟨b83,0,none⟩) 2 2)] H84 pUn fun(_:Unit) H86=>
 callW PP fq42 #[(pq w),(.int .i64 i)] H86 pUn fun(_:Unit) H88=>
 newB H88 (.cells #[(.int .i64 33)] tq3) fun b89 H90=>
 callW PP fq41 #[(pq w),(.int .i64 i),(.string (bs [61])),(.string (bs [])),(.string (bs [124])),(.slice (some ⟨b89,0,none⟩) 1 1)] H90 pUn fun(_:Unit) H92=>
 retK (some []) H92 R)
 (forkB (x8==34)
 (lw H7 b3 1 pStr fun(x93:ByteArray)=>
 newB H7 (.cells #[(.string (bs [101,110,117,109])),(.string x93)] tq9) fun b94 H95=>
 callW PP fq40 #[(pq w),(.slice (some ⟨b94,0,none⟩) 2 2)] H95 pUn fun(_:Unit) H97=>
 callW PP fq42 #[(pq w),(.int .i64 i)] H97 pUn fun(_:Unit) H99=>
 newB H99 (.cells #[(.int .i64 35)] tq3) fun b100 H101=>
 callW PP fq41 #[(pq w),(.int .i64 i),(.string (bs [123])),(.string (bs [125])),(.string (bs [])),(.slice (some ⟨b100,0,none⟩) 1 1)] H101 pUn fun(_:Unit) H103=>
 retK (some []) H103 R)
 (forkB (x8==35)
 (lw H7 b3 1 pStr fun(x104:ByteArray)=>
 newB H7 (.cells #[(.string x104)] tq9) fun b105 H106=>
 callW PP fq40 #[(pq w),(.slice (some ⟨b105,0,none⟩) 1 1)] H106 pUn fun(_:Unit) H108=>
 callW PP fq42 #[(pq w),(.int .i64 i)] H108 pUn fun(_:Unit) H110=>
 retK (some []) H110 R)
 (forkB (x8==36)
 (lw H7 b3 1 pStr fun(x111:ByteArray)=>
 newB H7 (.cells #[(.string (bs [105,110,112,117,116])),(.string x111)] tq9) fun b112 H113=>
 callW PP fq40 #[(pq w),(.slice (some ⟨b112,0,none⟩) 2 2)] H113 pUn fun(_:Unit) H115=>
 callW PP fq42 #[(pq w),(.int .i64 i)] H115 pUn fun(_:Unit) H117=>
 newB H117 (.cells #[(.int .i64 30)] tq3) fun b118 H119=>
 callW PP fq41 #[(pq w),(.int .i64 i),(.string (bs [123])),(.string (bs [125])),(.string (bs [])),(.slice (some ⟨b118,0,none⟩) 1 1)] H119 pUn fun(_:Unit) H121=>
 retK (some []) H121 R)
 (forkB (x8==37)
 (lw H7 b3 1 pStr fun(x122:ByteArray)=>
 newB H7 (.cells #[(.string (bs [100,105,114,101,99,116,105,118,101])),(.string (bs [64])),(.string x122)] tq9) fun b123 H124=>
 callW PP fq40 #[(pq w),(.slice (some ⟨b123,0,none⟩) 3 3)] H124 pUn fun(_:Unit) H126=>
 newB H126 (.cells #[(.int .i64 30)] tq3) fun b127 H128=>
 callW PP fq41 #[(pq w),(.int .i64 i),(.string (bs [40])),(.string (bs [41])),(.string (bs [])),(.slice (some ⟨b127,0,none⟩) 1 1)] H128 pUn fun(_:Unit) H130=>
 newB H130 (.cells #[(.int .i64 38)] tq3) fun b131 H132=>
 callW PP fq41 #[(pq w),(.int .i64 i),(.string (bs [111,110])),(.string (bs [])),(.string (bs [124])),(.slice (some ⟨b131,0,none⟩) 1 1)] H132 pUn fun(_:Unit) H134=>
 retK (some []) H134 R)
 (forkB (x8==39)
 (newB H7 (.cells #[(.string (bs [101,120,116,101,110,100]))] tq9) fun b135 H136=>
 callW PP fq40 #[(pq w),(.slice (some ⟨b135,0,none⟩) 1 1)] H136 pUn fun(_:Unit) H138=>
 callW PP fq31 #[(pq w),(.int .i64 (IntKind.i64.wrap (i+1)))] H138 pUn fun(_:Unit) H140=>
 retK (some []) H140 R)
 (retK (some []) H7 R)))))))))))))
theorem wDefinition.enter (w:Nat) (i:Int) (H:Heap) (R:RR) (h:wDefinition.W w i H R):Fn PP fq77 #[(pq w),(.int .i64 i)] H R:=
 fnS mixed Tryz.func77 (hz [(8,pSlc),(11,pNd),(14,pUn),(16,(pInt .i64)),(21,pUn),(24,pUn),(28,pUn),(33,pStr),(35,pStr),(37,pUn),(42,pStr),(44,pUn),(47,pUn),(52,pStr),(54,pUn),(58,pUn),(61,pUn),(65,pUn),(70,pStr),(72,pUn),(75,pUn),(79,pUn),(84,pStr),(86,pUn),(90,pUn),(93,pUn),(96,pUn),(101,pStr),(103,pUn),(106,pUn),(109,pUn),(112,pUn),(117,pStr),(119,pUn),(122,pUn),(126,pUn),(131,pStr),(133,pUn),(136,pUn),(140,pUn),(145,pStr),(147,pUn),(150,pUn),(155,pStr),(157,pUn),(160,pUn),(164,pUn),(169,pStr),(171,pUn),(175,pUn),(179,pUn),(184,pUn),(188,pUn)]) _ H R (Eq.mp (by unfold wDefinition.W;kernel_rfl) h)
def wAbout.W (w:Nat) (i:Int) (H:Heap) (R:RR):Prop:=
 newB H (.cells #[(.int .i64 23)] tq3) fun b1 H2=>
 callW PP fq41 #[(pq w),(.int .i64 i),(.string (bs [])),(.string (bs [])),(.string (bs [])),(.slice (some ⟨b1,0,none⟩) 1 1)] H2 pUn fun(_:Unit) H4=>
 retK (some []) H4 R
theorem wAbout.enter (w:Nat) (i:Int) (H:Heap) (R:RR) (h:wAbout.W w i H R):Fn PP fq131 #[(pq w),(.int .i64 i)] H R:=
 fnS mixed Tryz.func131 (hz [(7,pUn)]) _ H R (Eq.mp (by unfold wAbout.W;kernel_rfl) h)
def wDirectives.W (w:Nat) (i:Int) (H:Heap) (R:RR):Prop:=
 newB H (.cells #[(.int .i64 10)] tq3) fun b1 H2=>
 callW PP fq41 #[(pq w),(.int .i64 i),(.string (bs [])),(.string (bs [])),(.string (bs [])),(.slice (some ⟨b1,0,none⟩) 1 1)] H2 pUn fun(_:Unit) H4=>
 retK (some []) H4 R
theorem wDirectives.enter (w:Nat) (i:Int) (H:Heap) (R:RR) (h:wDirectives.W w i H R):Fn PP fq42 #[(pq w),(.int .i64 i)] H R:=
 fnS mixed Tryz.func42 (hz [(7,pUn)]) _ H R (Eq.mp (by unfold wDirectives.W;kernel_rfl) h)
def wKids.W (w:Nat) (i:Int) (begin_:ByteArray) (end_:ByteArray) (between:ByteArray) (kinds kindsO kindsN _kindsC:Nat) (H:Heap) (R:RR):Prop:=
 lw H w 0 pSlc fun(x1:Sl)=>
 callW PP fq26 #[(.slice x1.1 x1.2.1 x1.2.2),(.int .i64 i)] H pSlc fun(x2:Sl) H3=>
 loopK (Int×Int×Unit) (0,0,()) H3 fun z4 H5 next6=>
 forkB (decide (z4.2.1<((x2.2.1:Nat):Int)))
 (loopK (Int×Int×Unit) (z4.1,0,()) H5 fun z7 H8 next9=>
 forkB (decide (z7.2.1<((kindsN:Nat):Int)))
 (lw H8 w 0 pSlc fun(x10:Sl)=>
 (IxOk x2.1 z4.2.1 x2.2.1)∧
 loadW H8 false 1 ⟨(blkOf x2.1),(offOf x2.1+z4.2.1.toNat*1),none⟩ (pInt .i64) fun(x11:Int)=>
 (IxOk x10.1 x11 x10.2.1)∧
 loadW H8 false 1 ⟨(blkOf x10.1),(offOf x10.1+x11.toNat*6),none⟩ (pInt .i64) fun(x12:Int)=>
 (IxOk (some ⟨kinds,kindsO,none⟩) z7.2.1 kindsN)∧
 loadW H8 false 1 ⟨kinds,(kindsO+z7.2.1.toNat*1),none⟩ (pInt .i64) fun(x13:Int)=>
 forkB (x12 !=x13)
 (next9 (z7.1,(IntKind.i64.wrap (z7.2.1+1)),()) H8)
 (joinPK (Bool×Unit) H8 (fun J14=>
 forkB (z7.1==0)
 (J14 ((!(begin_.toList==(bs []).toList)),()) H8)
 (J14 (false,()) H8)) fun y15=>
 joinK (Unit) (fun J16=>
 forkB y15.1
 (newB H8 (.cells #[(.string begin_)] tq9) fun b19 H20=>
 callW PP fq40 #[(pq w),(.slice (some ⟨b19,0,none⟩) 1 1)] H20 pUn fun(_:Unit) H22=>
 J16 (()) H22)
 (J16 (()) H8)) fun _y17 H18=>
 joinPK (Bool×Unit) H18 (fun J23=>
 forkB (decide (z7.1>0))
 (J23 ((!(between.toList==(bs []).toList)),()) H18)
 (J23 (false,()) H18)) fun y24=>
 joinK (Unit) (fun J25=>
 forkB y24.1
 (newB H18 (.cells #[(.string between)] tq9) fun b28 H29=>
 callW PP fq40 #[(pq w),(.slice (some ⟨b28,0,none⟩) 1 1)] H29 pUn fun(_:Unit) H31=>
 J25 (()) H31)
 (J25 (()) H18)) fun _y26 H27=>
 (IxOk x2.1 z4.2.1 x2.2.1)∧
 loadW H27 false 1 ⟨(blkOf x2.1),(offOf x2.1+z4.2.1.toNat*1),none⟩ (pInt .i64) fun(x32:Int)=>
 callW PP fq31 #[(pq w),(.int .i64 x32)] H27 pUn fun(_:Unit) H34=>
 next9 ((IntKind.i64.wrap (z7.1+1)),(IntKind.i64.wrap (z7.2.1+1)),()) H34))
 (next6 (z7.1,(IntKind.i64.wrap (z4.2.1+1)),()) H8))
 (joinPK (Bool×Unit) H5 (fun J35=>
 forkB (decide (z4.1>0))
 (J35 ((!(end_.toList==(bs []).toList)),()) H5)
 (J35 (false,()) H5)) fun y36=>
 joinK (Unit) (fun J37=>
 forkB y36.1
 (newB H5 (.cells #[(.string end_)] tq9) fun b40 H41=>
 callW PP fq40 #[(pq w),(.slice (some ⟨b40,0,none⟩) 1 1)] H41 pUn fun(_:Unit) H43=>
 J37 (()) H43)
 (J37 (()) H5)) fun _y38 H39=>
 retK (some []) H39 R)
theorem wKids.enter (w:Nat) (i:Int) (begin_:ByteArray) (end_:ByteArray) (between:ByteArray) (kinds kindsO kindsN kindsC:Nat) (H:Heap) (R:RR) (h:wKids.W w i begin_ end_ between kinds kindsO kindsN kindsC H R):Fn PP fq41 #[(pq w),(.int .i64 i),(.string begin_),(.string end_),(.string between),(.slice (some ⟨kinds,kindsO,none⟩) kindsN kindsC)] H R:=
 fnS mixed Tryz.func41 ⟨patL [(19,pSlc),(21,pSlc),(37,pSlc),(41,(pInt .i64)),(44,(pInt .i64)),(48,(pInt .i64)),(59,pUn),(69,pUn),(76,(pInt .i64)),(77,pUn),(87,pUn)],loopL [(0,[Slot.int .i64 13,Slot.int .i64 14]),(2,[Slot.int .i64 13,Slot.int .i64 15])],joinL [(55,[]),(65,[]),(83,[])],joinL [],joinRL [(9,[Slot.bool 55],true),(11,[Slot.bool 65],true),(15,[Slot.bool 83],true)]⟩ _ H R (Eq.mp (by unfold wKids.W;kernel_rfl) h)
def wFirstType.W (w:Nat) (i:Int) (sign_:ByteArray) (H:Heap) (R:RR):Prop:=
 lw H w 0 pSlc fun(x1:Sl)=>
 callW PP fq26 #[(.slice x1.1 x1.2.1 x1.2.2),(.int .i64 i)] H pSlc fun(x2:Sl) H3=>
 loopK (Int×Unit) (0,()) H3 fun z4 H5 next6=>
 forkB (decide (z4.1<((x2.2.1:Nat):Int)))
 (lw H5 w 0 pSlc fun(x7:Sl)=>
 (IxOk x2.1 z4.1 x2.2.1)∧
 loadW H5 false 1 ⟨(blkOf x2.1),(offOf x2.1+z4.1.toNat*1),none⟩ (pInt .i64) fun(x8:Int)=>
 (IxOk x7.1 x8 x7.2.1)∧
 loadW H5 true 6 ⟨(blkOf x7.1),(offOf x7.1+x8.toNat*6),none⟩ pNd fun(x9:Int×ByteArray×ByteArray×ByteArray×Int×Int)=>
 callW PP fq44 #[(.agg #[(.int .i64 x9.1),(.string x9.2.1),(.string x9.2.2.1),(.string x9.2.2.2.1),(.int .i64 x9.2.2.2.2.1),(.int .i64 x9.2.2.2.2.2)])] H5 pBool fun(x10:Bool) H11=>
 forkB x10
 (forkB (!(sign_.toList==(bs []).toList))
 (newB H11 (.cells #[(.string sign_)] tq9) fun b12 H13=>
 callW PP fq40 #[(pq w),(.slice (some ⟨b12,0,none⟩) 1 1)] H13 pUn fun(_:Unit) H15=>
 (IxOk x2.1 z4.1 x2.2.1)∧
 loadW H15 false 1 ⟨(blkOf x2.1),(offOf x2.1+z4.1.toNat*1),none⟩ (pInt .i64) fun(x16:Int)=>
 callW PP fq31 #[(pq w),(.int .i64 x16)] H15 pUn fun(_:Unit) H18=>
 retK (some []) H18 R)
 ((IxOk x2.1 z4.1 x2.2.1)∧
 loadW H11 false 1 ⟨(blkOf x2.1),(offOf x2.1+z4.1.toNat*1),none⟩ (pInt .i64) fun(x19:Int)=>
 callW PP fq31 #[(pq w),(.int .i64 x19)] H11 pUn fun(_:Unit) H21=>
 retK (some []) H21 R))
 (next6 ((IntKind.i64.wrap (z4.1+1)),()) H11))
 (retK (some []) H5 R)
theorem wFirstType.enter (w:Nat) (i:Int) (sign_:ByteArray) (H:Heap) (R:RR) (h:wFirstType.W w i sign_ H R):Fn PP fq43 #[(pq w),(.int .i64 i),(.string sign_),(.func (.func fq44) #[] #[])] H R:=
 fnS mixed Tryz.func43 ⟨patL [(13,pSlc),(15,pSlc),(26,pSlc),(30,(pInt .i64)),(32,pNd),(33,pBool),(39,pUn),(44,(pInt .i64)),(45,pUn)],loopL [(0,[Slot.int .i64 9])],joinL [],joinL [],joinRL []⟩ _ H R (Eq.mp (by unfold wFirstType.W;kernel_rfl) h)
def wFirstValue.W (w:Nat) (i:Int) (sign_:ByteArray) (H:Heap) (R:RR):Prop:=
 lw H w 0 pSlc fun(x1:Sl)=>
 callW PP fq26 #[(.slice x1.1 x1.2.1 x1.2.2),(.int .i64 i)] H pSlc fun(x2:Sl) H3=>
 loopK (Int×Unit) (0,()) H3 fun z4 H5 next6=>
 forkB (decide (z4.1<((x2.2.1:Nat):Int)))
 (lw H5 w 0 pSlc fun(x7:Sl)=>
 (IxOk x2.1 z4.1 x2.2.1)∧
 loadW H5 false 1 ⟨(blkOf x2.1),(offOf x2.1+z4.1.toNat*1),none⟩ (pInt .i64) fun(x8:Int)=>
 (IxOk x7.1 x8 x7.2.1)∧
 loadW H5 true 6 ⟨(blkOf x7.1),(offOf x7.1+x8.toNat*6),none⟩ pNd fun(x9:Int×ByteArray×ByteArray×ByteArray×Int×Int)=>
 callW PP fq45 #[(.agg #[(.int .i64 x9.1),(.string x9.2.1),(.string x9.2.2.1),(.string x9.2.2.2.1),(.int .i64 x9.2.2.2.2.1),(.int .i64 x9.2.2.2.2.2)])] H5 pBool fun(x10:Bool) H11=>
 forkB x10
 (forkB (!(sign_.toList==(bs []).toList))
 (newB H11 (.cells #[(.string sign_)] tq9) fun b12 H13=>
 callW PP fq40 #[(pq w),(.slice (some ⟨b12,0,none⟩) 1 1)] H13 pUn fun(_:Unit) H15=>
 (IxOk x2.1 z4.1 x2.2.1)∧
 loadW H15 false 1 ⟨(blkOf x2.1),(offOf x2.1+z4.1.toNat*1),none⟩ (pInt .i64) fun(x16:Int)=>
 callW PP fq31 #[(pq w),(.int .i64 x16)] H15 pUn fun(_:Unit) H18=>
 retK (some []) H18 R)
 ((IxOk x2.1 z4.1 x2.2.1)∧
 loadW H11 false 1 ⟨(blkOf x2.1),(offOf x2.1+z4.1.toNat*1),none⟩ (pInt .i64) fun(x19:Int)=>
 callW PP fq31 #[(pq w),(.int .i64 x19)] H11 pUn fun(_:Unit) H21=>
 retK (some []) H21 R))
 (next6 ((IntKind.i64.wrap (z4.1+1)),()) H11))
 (retK (some []) H5 R)
theorem wFirstValue.enter (w:Nat) (i:Int) (sign_:ByteArray) (H:Heap) (R:RR) (h:wFirstValue.W w i sign_ H R):Fn PP fq43 #[(pq w),(.int .i64 i),(.string sign_),(.func (.func fq45) #[] #[])] H R:=
 fnS mixed Tryz.func43 ⟨patL [(13,pSlc),(15,pSlc),(26,pSlc),(30,(pInt .i64)),(32,pNd),(33,pBool),(39,pUn),(44,(pInt .i64)),(45,pUn)],loopL [(0,[Slot.int .i64 9])],joinL [],joinL [],joinRL []⟩ _ H R (Eq.mp (by unfold wFirstValue.W;kernel_rfl) h)
def TokenTexts.W (d dO dN dC:Nat) (i:Int) (H:Heap) (R:RR):Prop:=
 newB H (.map #[] 0) fun b1 H2=>
 newB H2 (.cells #[(.slice (some ⟨d,dO,none⟩) dN dC),(.slice none 0 0),(.map (some b1))] tq49) fun b3 H4=>
 callW PP fq31 #[(pq b3),(.int .i64 i)] H4 pUn fun(_:Unit) H6=>
 lw H6 b3 1 pSlc fun(x7:Sl)=>
 retK (some [(.slice x7.1 x7.2.1 x7.2.2)]) H6 R
theorem TokenTexts.enter (d dO dN dC:Nat) (i:Int) (H:Heap) (R:RR) (h:TokenTexts.W d dO dN dC i H R):Fn PP fq21 #[(.slice (some ⟨d,dO,none⟩) dN dC),(.int .i64 i)] H R:=
 fnS mixed Tryz.func21 (hz [(12,pUn),(16,pSlc)]) _ H R (Eq.mp (by unfold TokenTexts.W;kernel_rfl) h)
def Gaps.W (l lO lN _lC:Nat) (byA:Option Addr) (byAN _byAC:Nat) (H:Heap) (R:RR):Prop:=
 loopK (ByteArray×Int×Unit) ((bs []),0,()) H fun z1 H2 next3=>
 forkB (decide (z1.2.1<((lN:Nat):Int)))
 (joinK (ByteArray×Unit) (fun J4=>
 forkB (decide (((byAN:Nat):Int)>0))
 (newB H2 (.cells #[(.string (bs [])),(.string (bs [32])),(.string (bs [10])),(.string (bs [44])),(.string (bs [32,44,32])),(.string (bs [9])),(.string (bs [13,10])),(.string (bs [13])),(.string (bs [35,32,97,10])),(.string (bs [35,13])),(.string (bs [44,44,10,32,32]))] tq9) fun b7 H8=>
 ((((byAN:Nat):Int):Int)≠0)∧
 (IxOk byA (Int.tmod z1.2.1 ((byAN:Nat):Int)) byAN)∧
 loadW H8 false 1 ⟨(blkOf byA),(offOf byA+(Int.tmod z1.2.1 ((byAN:Nat):Int)).toNat*1),none⟩ (pInt .u8) fun(x9:Int)=>
 ((11:Int)≠0)∧
 (IxOk (some ⟨b7,0,none⟩) (Int.tmod (IntKind.i64.wrap x9) 11) 11)∧
 loadW H8 false 1 ⟨b7,(0+(Int.tmod (IntKind.i64.wrap x9) 11).toNat*1),none⟩ pStr fun(x10:ByteArray)=>
 J4 (x10,()) H8)
 (J4 ((bs [32]),()) H2)) fun y5 H6=>
 joinK (Bool×Unit) (fun J11=>
 forkB (y5.1.toList==(bs []).toList)
 (forkB (decide (z1.2.1>0))
 ((IxOk (some ⟨l,lO,none⟩) (IntKind.i64.wrap (z1.2.1 -1)) lN)∧
 loadW H6 false 1 ⟨l,(lO+(IntKind.i64.wrap (z1.2.1 -1)).toNat*1),none⟩ pStr fun(x14:ByteArray)=>
 callW PP fq32 #[(.string x14)] H6 pBool fun(x15:Bool) H16=>
 forkB x15
 ((IxOk (some ⟨l,lO,none⟩) z1.2.1 lN)∧
 loadW H16 false 1 ⟨l,(lO+z1.2.1.toNat*1),none⟩ pStr fun(x17:ByteArray)=>
 callW PP fq32 #[(.string x17)] H16 pBool fun(x18:Bool) H19=>
 forkB x18
 (J11 (true,()) H19)
 ((IxOk (some ⟨l,lO,none⟩) (IntKind.i64.wrap (z1.2.1 -1)) lN)∧
 loadW H19 false 1 ⟨l,(lO+(IntKind.i64.wrap (z1.2.1 -1)).toNat*1),none⟩ pStr fun(x20:ByteArray)=>
 ((0:Int)≤0∧0<((x20.size:Nat):Int))∧
 forkB ((bt x20 0)==34)
 ((IxOk (some ⟨l,lO,none⟩) z1.2.1 lN)∧
 loadW H19 false 1 ⟨l,(lO+z1.2.1.toNat*1),none⟩ pStr fun(x21:ByteArray)=>
 ((0:Int)≤0∧0<((x21.size:Nat):Int))∧
 J11 (((bt x21 0)==34),()) H19)
 (J11 (false,()) H19)))
 ((IxOk (some ⟨l,lO,none⟩) (IntKind.i64.wrap (z1.2.1 -1)) lN)∧
 loadW H16 false 1 ⟨l,(lO+(IntKind.i64.wrap (z1.2.1 -1)).toNat*1),none⟩ pStr fun(x22:ByteArray)=>
 ((0:Int)≤0∧0<((x22.size:Nat):Int))∧
 forkB ((bt x22 0)==34)
 ((IxOk (some ⟨l,lO,none⟩) z1.2.1 lN)∧
 loadW H16 false 1 ⟨l,(lO+z1.2.1.toNat*1),none⟩ pStr fun(x23:ByteArray)=>
 ((0:Int)≤0∧0<((x23.size:Nat):Int))∧
 J11 (((bt x23 0)==34),()) H16)
 (J11 (false,()) H16)))
 (J11 (false,()) H6))
 (J11 (false,()) H6)) fun y12 H13=>
 joinK (ByteArray×Unit) (fun J24=>
 forkB y12.1
 (J24 ((bs [32]),()) H13)
 (J24 (y5.1,()) H13)) fun y25 H26=>
 joinPK (Bool×Unit) H26 (fun J27=>
 forkB (decide (z1.2.1>0))
 (J27 (true,()) H26)
 (J27 ((decide (((byAN:Nat):Int)>0)),()) H26)) fun y28=>
 joinK (ByteArray×Unit) (fun J29=>
 forkB y28.1
 ((((z1.1.size+y25.1.size:Nat):Int)≤9223372036854775807)∧
 J29 ((z1.1++y25.1),()) H26)
 (J29 (z1.1,()) H26)) fun y30 H31=>
 (IxOk (some ⟨l,lO,none⟩) z1.2.1 lN)∧
 loadW H31 false 1 ⟨l,(lO+z1.2.1.toNat*1),none⟩ pStr fun(x32:ByteArray)=>
 (((y30.1.size+x32.size:Nat):Int)≤9223372036854775807)∧
 next3 ((y30.1++x32),(IntKind.i64.wrap (z1.2.1+1)),()) H31)
 (retK (some [(.string z1.1)]) H2 R)
theorem Gaps.enter (l lO lN lC:Nat) (byA:Option Addr) (byAN byAC:Nat) (H:Heap) (R:RR) (h:Gaps.W l lO lN lC byA byAN byAC H R):Fn PP fq23 #[(.slice (some ⟨l,lO,none⟩) lN lC),(.slice byA byAN byAC)] H R:=
 fnS mixed Tryz.func23 ⟨patL [(24,(pInt .u8)),(28,pStr),(40,pStr),(41,pBool),(46,pStr),(47,pBool),(54,pStr),(61,pStr),(81,pStr)],loopL [(0,[Slot.str 5,Slot.int .i64 6])],joinL [(16,[Slot.str 7]),(66,[Slot.str 7]),(73,[Slot.str 5])],joinL [],joinRL [(8,[Slot.bool 66],false),(10,[Slot.bool 73],true)]⟩ _ H R (Eq.mp (by unfold Gaps.W;kernel_rfl) h)
def clinging.W (s:ByteArray) (H:Heap) (R:RR):Prop:=
 ((0:Int)≤0∧0<((s.size:Nat):Int))∧
 callW PP fq47 #[(.int .u8 (bt s 0))] H pBool fun(x1:Bool) H2=>
 forkB x1
 (retK (some [(.bool true)]) H2 R)
 (((0:Int)≤0∧0<((s.size:Nat):Int))∧
 callW PP fq48 #[(.int .u8 (bt s 0))] H2 pBool fun(x3:Bool) H4=>
 forkB x3
 (retK (some [(.bool true)]) H4 R)
 (((0:Int)≤0∧0<((s.size:Nat):Int))∧
 forkB ((bt s 0)==45)
 (retK (some [(.bool true)]) H4 R)
 (((0:Int)≤0∧0<((s.size:Nat):Int))∧
 retK (some [(.bool ((bt s 0)==46))]) H4 R)))
theorem clinging.enter (s:ByteArray) (H:Heap) (R:RR) (h:clinging.W s H R):Fn PP fq32 #[(.string s)] H R:=
 fnS mixed Tryz.func32 (hz [(5,pBool),(9,pBool)]) _ H R (Eq.mp (by unfold clinging.W;kernel_rfl) h)
def Sub.W (d dO dN dC:Nat) (i:Int) (H:Heap) (R:RR):Prop:=
 (IxOk (some ⟨d,dO,none⟩) i dN)∧
 loadW H false 1 ⟨d,((dO+i.toNat*6)+5),none⟩ (pInt .i64) fun(x1:Int)=>
 (((0:Int)≤(IntKind.i64.wrap (i+x1))∧(IntKind.i64.wrap (i+x1))≤((dC:Nat):Int))∧((0:Int)≤i∧i≤(((IntKind.i64.wrap (i+x1)).toNat:Nat):Int)))∧
 retK (some [(.slice (some ⟨d,(slcO dO dC i.toNat 6),none⟩) ((IntKind.i64.wrap (i+x1)).toNat -i.toNat) (dC -i.toNat))]) H R
theorem Sub.enter (d dO dN dC:Nat) (i:Int) (H:Heap) (R:RR) (h:Sub.W d dO dN dC i H R):Fn PP fq22 #[(.slice (some ⟨d,dO,none⟩) dN dC),(.int .i64 i)] H R:=
 fnS mixed Tryz.func22 (hz [(12,(pInt .i64))]) _ H R (Eq.mp (by unfold Sub.W;kernel_rfl) h)
def Quote.W (s:ByteArray) (H:Heap) (R:RR):Prop:=
 loopK (ByteArray×Int×Unit) ((bs [34]),0,()) H fun z1 H2 next3=>
 forkB (decide (z1.2.1<((s.size:Nat):Int)))
 (callW PP fq79 #[(.string s),(.int .i64 z1.2.1)] H2 pII fun(x4:Int×Int) H5=>
 forkB (x4.2==0)
 ((((z1.1.size+(bs [34]).size:Nat):Int)≤9223372036854775807)∧
 retK (some [(.string (z1.1++(bs [34])))]) H5 R)
 (joinPK (Bool×Unit) H5 (fun J6=>
 forkB (x4.1==34)
 (J6 (true,()) H5)
 (J6 ((x4.1==92),()) H5)) fun y7=>
 joinK (ByteArray×Unit) (fun J8=>
 forkB y7.1
 ((((0:Int)≤(IntKind.i64.wrap (z1.2.1+1))∧(IntKind.i64.wrap (z1.2.1+1))≤((s.size:Nat):Int))∧((0:Int)≤z1.2.1∧z1.2.1≤(((IntKind.i64.wrap (z1.2.1+1)).toNat:Nat):Int)))∧
 ((((bs [92]).size+(s.extract z1.2.1.toNat (IntKind.i64.wrap (z1.2.1+1)).toNat).size:Nat):Int)≤9223372036854775807)∧
 (((z1.1.size+((bs [92])++(s.extract z1.2.1.toNat (IntKind.i64.wrap (z1.2.1+1)).toNat)).size:Nat):Int)≤9223372036854775807)∧
 J8 ((z1.1++((bs [92])++(s.extract z1.2.1.toNat (IntKind.i64.wrap (z1.2.1+1)).toNat))),()) H5)
 (joinPK (Bool×Unit) H5 (fun J11=>
 forkB (decide (x4.1<32))
 (J11 (true,()) H5)
 (forkB (x4.1==127)
 (J11 (true,()) H5)
 (J11 ((x4.1==65279),()) H5))) fun y12=>
 joinK (ByteArray×Unit) (fun J13=>
 forkB y12.1
 ((((0:Int)≤(IntKind.i64.wrap (((x4.1:Int).fdiv (2^(min (12:Int).toNat 64)))+1))∧(IntKind.i64.wrap (((x4.1:Int).fdiv (2^(min (12:Int).toNat 64)))+1))≤(((bs [48,49,50,51,52,53,54,55,56,57,97,98,99,100,101,102]).size:Nat):Int))∧((0:Int)≤((x4.1:Int).fdiv (2^(min (12:Int).toNat 64)))∧((x4.1:Int).fdiv (2^(min (12:Int).toNat 64)))≤(((IntKind.i64.wrap (((x4.1:Int).fdiv (2^(min (12:Int).toNat 64)))+1)).toNat:Nat):Int)))∧
 ((((bs [92,117]).size+((bs [48,49,50,51,52,53,54,55,56,57,97,98,99,100,101,102]).extract ((x4.1:Int).fdiv (2^(min (12:Int).toNat 64))).toNat (IntKind.i64.wrap (((x4.1:Int).fdiv (2^(min (12:Int).toNat 64)))+1)).toNat).size:Nat):Int)≤9223372036854775807)∧
 (((0:Int)≤(IntKind.i64.wrap ((IntKind.i64.wrap ((BitVec.ofInt 64 ((x4.1:Int).fdiv (2^(min (8:Int).toNat 64)))&&&BitVec.ofInt 64 15).toNat:Int))+1))∧(IntKind.i64.wrap ((IntKind.i64.wrap ((BitVec.ofInt 64 ((x4.1:Int).fdiv (2^(min (8:Int).toNat 64)))&&&BitVec.ofInt 64 15).toNat:Int))+1))≤(((bs [48,49,50,51,52,53,54,55,56,57,97,98,99,100,101,102]).size:Nat):Int))∧((0:Int)≤(IntKind.i64.wrap ((BitVec.ofInt 64 ((x4.1:Int).fdiv (2^(min (8:Int).toNat 64)))&&&BitVec.ofInt 64 15).toNat:Int))∧(IntKind.i64.wrap ((BitVec.ofInt 64 ((x4.1:Int).fdiv (2^(min (8:Int).toNat 64)))&&&BitVec.ofInt 64 15).toNat:Int))≤(((IntKind.i64.wrap ((IntKind.i64.wrap ((BitVec.ofInt 64 ((x4.1:Int).fdiv (2^(min (8:Int).toNat 64)))&&&BitVec.ofInt 64 15).toNat:Int))+1)).toNat:Nat):Int)))∧
 (((((bs [92,117])++((bs [48,49,50,51,52,53,54,55,56,57,97,98,99,100,101,102]).extract ((x4.1:Int).fdiv (2^(min (12:Int).toNat 64))).toNat (IntKind.i64.wrap (((x4.1:Int).fdiv (2^(min (12:Int).toNat 64)))+1)).toNat)).size+((bs [48,49,50,51,52,53,54,55,56,57,97,98,99,100,101,102]).extract (IntKind.i64.wrap ((BitVec.ofInt 64 ((x4.1:Int).fdiv (2^(min (8:Int).toNat 64)))&&&BitVec.ofInt 64 15).toNat:Int)).toNat (IntKind.i64.wrap ((IntKind.i64.wrap ((BitVec.ofInt 64 ((x4.1:Int).fdiv (2^(min (8:Int).toNat 64)))&&&BitVec.ofInt 64 15).toNat:Int))+1)).toNat).size:Nat):Int)≤9223372036854775807)∧
 (((0:Int)≤(IntKind.i64.wrap ((IntKind.i64.wrap ((BitVec.ofInt 64 ((x4.1:Int).fdiv (2^(min (4:Int).toNat 64)))&&&BitVec.ofInt 64 15).toNat:Int))+1))∧(IntKind.i64.wrap ((IntKind.i64.wrap ((BitVec.ofInt 64 ((x4.1:Int).fdiv (2^(min (4:Int).toNat 64)))&&&BitVec.ofInt 64 15).toNat:Int))+1))≤(((bs [48,49,50,51,52,53,54,55,56,57,97,98,99,100,101,102]).size:Nat):Int))∧((0:Int)≤(IntKind.i64.wrap ((BitVec.ofInt 64 ((x4.1:Int).fdiv (2^(min (4:Int).toNat 64)))&&&BitVec.ofInt 64 15).toNat:Int))∧(IntKind.i64.wrap ((BitVec.ofInt 64 ((x4.1:Int).fdiv (2^(min (4:Int).toNat 64)))&&&BitVec.ofInt 64 15).toNat:Int))≤(((IntKind.i64.wrap ((IntKind.i64.wrap ((BitVec.ofInt 64 ((x4.1:Int).fdiv (2^(min (4:Int).toNat 64)))&&&BitVec.ofInt 64 15).toNat:Int))+1)).toNat:Nat):Int)))∧
 ((((((bs [92,117])++((bs [48,49,50,51,52,53,54,55,56,57,97,98,99,100,101,102]).extract ((x4.1:Int).fdiv (2^(min (12:Int).toNat 64))).toNat (IntKind.i64.wrap (((x4.1:Int).fdiv (2^(min (12:Int).toNat 64)))+1)).toNat))++((bs [48,49,50,51,52,53,54,55,56,57,97,98,99,100,101,102]).extract (IntKind.i64.wrap ((BitVec.ofInt 64 ((x4.1:Int).fdiv (2^(min (8:Int).toNat 64)))&&&BitVec.ofInt 64 15).toNat:Int)).toNat (IntKind.i64.wrap ((IntKind.i64.wrap ((BitVec.ofInt 64 ((x4.1:Int).fdiv (2^(min (8:Int).toNat 64)))&&&BitVec.ofInt 64 15).toNat:Int))+1)).toNat)).size+((bs [48,49,50,51,52,53,54,55,56,57,97,98,99,100,101,102]).extract (IntKind.i64.wrap ((BitVec.ofInt 64 ((x4.1:Int).fdiv (2^(min (4:Int).toNat 64)))&&&BitVec.ofInt 64 15).toNat:Int)).toNat (IntKind.i64.wrap ((IntKind.i64.wrap ((BitVec.ofInt 64 ((x4.1:Int).fdiv (2^(min (4:Int).toNat 64)))&&&BitVec.ofInt 64 15).toNat:Int))+1)).toNat).size:Nat):Int)≤9223372036854775807)∧
 (((0:Int)≤(IntKind.i64.wrap ((IntKind.i64.wrap ((BitVec.ofInt 64 x4.1&&&BitVec.ofInt 64 15).toNat:Int))+1))∧(IntKind.i64.wrap ((IntKind.i64.wrap ((BitVec.ofInt 64 x4.1&&&BitVec.ofInt 64 15).toNat:Int))+1))≤(((bs [48,49,50,51,52,53,54,55,56,57,97,98,99,100,101,102]).size:Nat):Int))∧((0:Int)≤(IntKind.i64.wrap ((BitVec.ofInt 64 x4.1&&&BitVec.ofInt 64 15).toNat:Int))∧(IntKind.i64.wrap ((BitVec.ofInt 64 x4.1&&&BitVec.ofInt 64 15).toNat:Int))≤(((IntKind.i64.wrap ((IntKind.i64.wrap ((BitVec.ofInt 64 x4.1&&&BitVec.ofInt 64 15).toNat:Int))+1)).toNat:Nat):Int)))∧
 (((((((bs [92,117])++((bs [48,49,50,51,52,53,54,55,56,57,97,98,99,100,101,102]).extract ((x4.1:Int).fdiv (2^(min (12:Int).toNat 64))).toNat (IntKind.i64.wrap (((x4.1:Int).fdiv (2^(min (12:Int).toNat 64)))+1)).toNat))++((bs [48,49,50,51,52,53,54,55,56,57,97,98,99,100,101,102]).extract (IntKind.i64.wrap ((BitVec.ofInt 64 ((x4.1:Int).fdiv (2^(min (8:Int).toNat 64)))&&&BitVec.ofInt 64 15).toNat:Int)).toNat (IntKind.i64.wrap ((IntKind.i64.wrap ((BitVec.ofInt 64 ((x4.1:Int).fdiv (2^(min (8:Int).toNat 64)))&&&BitVec.ofInt 64 15).toNat:Int))+1)).toNat))++((bs [48,49,50,51,52,53,54,55,56,57,97,98,99,100,101,102]).extract (IntKind.i64.wrap ((BitVec.ofInt 64 ((x4.1:Int).fdiv (2^(min (4:Int).toNat 64)))&&&BitVec.ofInt 64 15).toNat:Int)).toNat (IntKind.i64.wrap ((IntKind.i64.wrap ((BitVec.ofInt 64 ((x4.1:Int).fdiv (2^(min (4:Int).toNat 64)))&&&BitVec.ofInt 64 15).toNat:Int))+1)).toNat)).size+((bs [48,49,50,51,52,53,54,55,56,57,97,98,99,100,101,102]).extract (IntKind.i64.wrap ((BitVec.ofInt 64 x4.1&&&BitVec.ofInt 64 15).toNat:Int)).toNat (IntKind.i64.wrap ((IntKind.i64.wrap ((BitVec.ofInt 64 x4.1&&&BitVec.ofInt 64 15).toNat:Int))+1)).toNat).size:Nat):Int)≤9223372036854775807)∧
 (((z1.1.size+(((((bs [92,117])++((bs [48,49,50,51,52,53,54,55,56,57,97,98,99,100,101,102]).extract ((x4.1:Int).fdiv (2^(min (12:Int).toNat 64))).toNat (IntKind.i64.wrap (((x4.1:Int).fdiv (2^(min (12:Int).toNat 64)))+1)).toNat))++((bs [48,49,50,51,52,53,54,55,56,57,97,98,99,100,101,102]).extract (IntKind.i64.wrap ((BitVec.ofInt 64 ((x4.1:Int).fdiv (2^(min (8:Int).toNat 64)))&&&BitVec.ofInt 64 15).toNat:Int)).toNat (IntKind.i64.wrap ((IntKind.i64.wrap ((BitVec.ofInt 64 ((x4.1:Int).fdiv (2^(min (8:Int).toNat 64)))&&&BitVec.ofInt 64 15).toNat:Int))+1)).toNat))++((bs [48,49,50,51,52,53,54,55,56,57,97,98,99,100,101,102]).extract (IntKind.i64.wrap ((BitVec.ofInt 64 ((x4.1:Int).fdiv (2^(min (4:Int).toNat 64)))&&&BitVec.ofInt 64 15).toNat:Int)).toNat (IntKind.i64.wrap ((IntKind.i64.wrap ((BitVec.ofInt 64 ((x4.1:Int).fdiv (2^(min (4:Int).toNat 64)))&&&BitVec.ofInt 64 15).toNat:Int))+1)).toNat))++((bs [48,49,50,51,52,53,54,55,56,57,97,98,99,100,101,102]).extract (IntKind.i64.wrap ((BitVec.ofInt 64 x4.1&&&BitVec.ofInt 64 15).toNat:Int)).toNat (IntKind.i64.wrap ((IntKind.i64.wrap ((BitVec.ofInt 64 x4.1&&&BitVec.ofInt 64 15).toNat:Int))+1)).toNat)).size:Nat):Int)≤9223372036854775807)∧
 J13 ((z1.1++(((((bs [92,117])++((bs [48,49,50,51,52,53,54,55,56,57,97,98,99,100,101,102]).extract ((x4.1:Int).fdiv (2^(min (12:Int).toNat 64))).toNat (IntKind.i64.wrap (((x4.1:Int).fdiv (2^(min (12:Int).toNat 64)))+1)).toNat))++((bs [48,49,50,51,52,53,54,55,56,57,97,98,99,100,101,102]).extract (IntKind.i64.wrap ((BitVec.ofInt 64 ((x4.1:Int).fdiv (2^(min (8:Int).toNat 64)))&&&BitVec.ofInt 64 15).toNat:Int)).toNat (IntKind.i64.wrap ((IntKind.i64.wrap ((BitVec.ofInt 64 ((x4.1:Int).fdiv (2^(min (8:Int).toNat 64)))&&&BitVec.ofInt 64 15).toNat:Int))+1)).toNat))++((bs [48,49,50,51,52,53,54,55,56,57,97,98,99,100,101,102]).extract (IntKind.i64.wrap ((BitVec.ofInt 64 ((x4.1:Int).fdiv (2^(min (4:Int).toNat 64)))&&&BitVec.ofInt 64 15).toNat:Int)).toNat (IntKind.i64.wrap ((IntKind.i64.wrap ((BitVec.ofInt 64 ((x4.1:Int).fdiv (2^(min (4:Int).toNat 64)))&&&BitVec.ofInt 64 15).toNat:Int))+1)).toNat))++((bs [48,49,50,51,52,53,54,55,56,57,97,98,99,100,101,102]).extract (IntKind.i64.wrap ((BitVec.ofInt 64 x4.1&&&BitVec.ofInt 64 15).toNat:Int)).toNat (IntKind.i64.wrap ((IntKind.i64.wrap ((BitVec.ofInt 64 x4.1&&&BitVec.ofInt 64 15).toNat:Int))+1)).toNat))),()) H5)
 ((((0:Int)≤(IntKind.i64.wrap (z1.2.1+x4.2))∧(IntKind.i64.wrap (z1.2.1+x4.2))≤((s.size:Nat):Int))∧((0:Int)≤z1.2.1∧z1.2.1≤(((IntKind.i64.wrap (z1.2.1+x4.2)).toNat:Nat):Int)))∧
 (((z1.1.size+(s.extract z1.2.1.toNat (IntKind.i64.wrap (z1.2.1+x4.2)).toNat).size:Nat):Int)≤9223372036854775807)∧
 J13 ((z1.1++(s.extract z1.2.1.toNat (IntKind.i64.wrap (z1.2.1+x4.2)).toNat)),()) H5)) fun y14 H15=>
 J8 (y14.1,()) H15)) fun y9 H10=>
 next3 (y9.1,(IntKind.i64.wrap (z1.2.1+x4.2)),()) H10))
 ((((z1.1.size+(bs [34]).size:Nat):Int)≤9223372036854775807)∧
 retK (some [(.string (z1.1++(bs [34])))]) H2 R)
theorem Quote.enter (s:ByteArray) (H:Heap) (R:RR) (h:Quote.W s H R):Fn PP fq76 #[(.string s)] H R:=
 fnS mixed Tryz.func76 ⟨patL [(14,pII)],loopL [(0,[Slot.str 3,Slot.int .i64 4])],joinL [(30,[Slot.str 3]),(45,[Slot.str 3])],joinL [],joinRL [(8,[Slot.bool 30],true),(10,[Slot.bool 45],true)]⟩ _ H R (Eq.mp (by unfold Quote.W;kernel_rfl) h)
def Block.W (s:ByteArray) (H:Heap) (R:RR):Prop:=
 loopK (ByteArray×Int×Unit) ((bs [34,34,34,10]),0,()) H fun z1 H2 next3=>
 forkB (decide (z1.2.1<((s.size:Nat):Int)))
 (callW PP fq80 #[(.string s),(.int .i64 z1.2.1),(.string (bs [34,34,34]))] H2 pBool fun(x4:Bool) H5=>
 forkB x4
 ((((z1.1.size+(bs [92,34,34,34]).size:Nat):Int)≤9223372036854775807)∧
 next3 ((z1.1++(bs [92,34,34,34])),(IntKind.i64.wrap (z1.2.1+3)),()) H5)
 ((((0:Int)≤(IntKind.i64.wrap (z1.2.1+1))∧(IntKind.i64.wrap (z1.2.1+1))≤((s.size:Nat):Int))∧((0:Int)≤z1.2.1∧z1.2.1≤(((IntKind.i64.wrap (z1.2.1+1)).toNat:Nat):Int)))∧
 (((z1.1.size+(s.extract z1.2.1.toNat (IntKind.i64.wrap (z1.2.1+1)).toNat).size:Nat):Int)≤9223372036854775807)∧
 next3 ((z1.1++(s.extract z1.2.1.toNat (IntKind.i64.wrap (z1.2.1+1)).toNat)),(IntKind.i64.wrap (z1.2.1+1)),()) H5))
 ((((z1.1.size+(bs [10,34,34,34]).size:Nat):Int)≤9223372036854775807)∧
 retK (some [(.string (z1.1++(bs [10,34,34,34])))]) H2 R)
theorem Block.enter (s:ByteArray) (H:Heap) (R:RR) (h:Block.W s H R):Fn PP fq75 #[(.string s)] H R:=
 fnS mixed Tryz.func75 ⟨patL [(11,pBool)],loopL [(0,[Slot.str 3,Slot.int .i64 4])],joinL [],joinL [],joinRL []⟩ _ H R (Eq.mp (by unfold Block.W;kernel_rfl) h)
end Go.Vx
