/- A part of the proof of what the last text of this claim says: WA0, WA1, WA2, WA3. Conditions: none. -/
import Derived.Test.YtkopcepfeeemhaaGreatDoorProg
import Derived.KernelRfl
import Derived.Test.YtkopcepfeeemhaaGreatDoorYDAb
namespace Go.Vx
open Go Go.Proofs
abbrev wr (n:Int):Int:=IntKind.i64.wrap n
theorem i64x {n:Int} (h: -9223372036854775808≤n∧n≤9223372036854775807):wr n=n:=i64w h
abbrev iv (n:Int):Value:= .int .i64 n
abbrev BA:Type:=ByteArray
abbrev OA:Type:=Option Addr
abbrev nI:Value:= .nilIface
abbrev sE:Value:= .string (bs [])
abbrev pTk:Pat:=⟨Int×Int×Int×BA,fun x=>(.agg #[(.int .i64 x.1),(.int .i64 x.2.1),(.int .i64 x.2.2.1),(.string x.2.2.2)])⟩
abbrev pNd:Pat:=⟨Int×BA×BA×BA×Int×Int,fun x=>(.agg #[(.int .i64 x.1),(.string x.2.1),(.string x.2.2.1),(.string x.2.2.2.1),(.int .i64 x.2.2.2.2.1),(.int .i64 x.2.2.2.2.2)])⟩
abbrev pUn:Pat:=⟨Unit,fun _=>(.tuple #[])⟩
abbrev pTkE:Pat:=⟨Int×Int×Int×BA,fun x=>(.tuple #[(.agg #[(.int .i64 x.1),(.int .i64 x.2.1),(.int .i64 x.2.2.1),(.string x.2.2.2)]),nI])⟩
abbrev pSlE:Pat:=⟨(OA×Nat×Nat),fun x=>(.tuple #[(.slice x.1 x.2.1 x.2.2),nI])⟩
abbrev pRu:Pat:=⟨Int×Int,fun x=>(.tuple #[(.int .i32 x.1),(.int .i64 x.2)])⟩
abbrev pBlE:Pat:=⟨Nat,fun x=>(.tuple #[(.pointer (some ⟨x,0,none⟩)),nI])⟩
abbrev pIfE:Pat:=⟨(Nat×Nat),fun x=>(.tuple #[(.iface x.1 (.pointer (some ⟨x.2,0,none⟩))),nI])⟩
abbrev pIf:Pat:=⟨(Nat×Nat),fun x=>(.iface x.1 (.pointer (some ⟨x.2,0,none⟩)))⟩
abbrev pIE:Pat:=⟨Int,fun x=>(.tuple #[(.int .i64 x),nI])⟩
abbrev pSIB:Pat:=⟨(OA×Nat×Nat)×Int×Bool,fun x=>(.tuple #[(.slice x.1.1 x.1.2.1 x.1.2.2),(.int .i64 x.2.1),(.bool x.2.2)])⟩
abbrev pSl4:Pat:=⟨(Nat×Nat×Nat×Nat),fun x=>(.slice (some ⟨x.1,x.2.1,none⟩) x.2.2.1 x.2.2.2)⟩
abbrev pII:Pat:=⟨Int×Int,fun x=>(.tuple #[(.int .i64 x.1),(.int .i64 x.2)])⟩
abbrev pBoE:Pat:=⟨Bool,fun x=>(.tuple #[(.bool x),nI])⟩
abbrev Sl:Type:=OA×Nat×Nat
abbrev pq (b:Nat):Value:= .pointer (some ⟨b,0,none⟩)
abbrev RR:Type:=Value→Heap→Prop
abbrev rk (l:List Value) (H:Heap) (R:RR):Prop:=retK (some l) H R
def hz (l:List (Nat×Pat)):Hints:=⟨patL l,k06 [],k03 [],k03 [],k05 []⟩
abbrev lw (H:Heap) (b o:Nat) (p:Pat) (K:p.α→Prop):Prop:=k01 H false 1 ⟨b,o,none⟩ p K
abbrev lc (H:Heap) (b o:Nat) (v:Value):Prop:=k07 H false 1 ⟨b,o,none⟩=some v
set_option maxRecDepth 100000
noncomputable abbrev PP:Program:=Tryz.prog
theorem mixed:Tryz.prog.follows .mixedOrders=true:=by kernel_rfl
theorem fnE {f:FuncId} {fn:Func} {A:Prop} (hf:PP.funcs[f]?=some fn) (hs:Hints) {args:List Value} {H:Heap} {R:RR} (e:A=funW PP fn hs args H R) (h:A):Fn PP f args.toArray H R:=fnS mixed hf hs args H R (Eq.mp e h)
abbrev fq315:FuncId:=315
abbrev fq177:FuncId:=177
abbrev fq214:FuncId:=214
abbrev fq178:FuncId:=178
abbrev fq162:FuncId:=162
abbrev fq158:FuncId:=158
abbrev fq215:FuncId:=215
abbrev fq159:FuncId:=159
abbrev fq174:FuncId:=174
abbrev fq152:FuncId:=152
abbrev fq213:FuncId:=213
abbrev fq169:FuncId:=169
abbrev fq175:FuncId:=175
abbrev fq176:FuncId:=176
abbrev fq160:FuncId:=160
abbrev fq155:FuncId:=155
abbrev fq212:FuncId:=212
abbrev fq156:FuncId:=156
abbrev fq204:FuncId:=204
abbrev fq234:FuncId:=234
abbrev fq200:FuncId:=200
abbrev fq203:FuncId:=203
abbrev fq202:FuncId:=202
abbrev fq205:FuncId:=205
abbrev fq148:FuncId:=148
abbrev fq248:FuncId:=248
abbrev fq236:FuncId:=236
abbrev fq166:FuncId:=166
abbrev fq145:FuncId:=145
abbrev fq147:FuncId:=147
abbrev fq140:FuncId:=140
abbrev fq208:FuncId:=208
abbrev fq206:FuncId:=206
abbrev fq161:FuncId:=161
abbrev fq157:FuncId:=157
abbrev fq209:FuncId:=209
abbrev fq172:FuncId:=172
abbrev fq262:FuncId:=262
abbrev fq244:FuncId:=244
abbrev fq242:FuncId:=242
abbrev fq245:FuncId:=245
abbrev fq232:FuncId:=232
abbrev fq198:FuncId:=198
abbrev fq247:FuncId:=247
abbrev fq27:FuncId:=27
abbrev fq68:FuncId:=68
abbrev fq33:FuncId:=33
abbrev fq30:FuncId:=30
abbrev fq64:FuncId:=64
abbrev fq120:FuncId:=120
abbrev fq74:FuncId:=74
abbrev fq128:FuncId:=128
abbrev fq129:FuncId:=129
abbrev fq66:FuncId:=66
abbrev fq65:FuncId:=65
abbrev fq121:FuncId:=121
abbrev fq70:FuncId:=70
abbrev fq122:FuncId:=122
abbrev fq71:FuncId:=71
abbrev fq123:FuncId:=123
abbrev fq187:FuncId:=187
abbrev fq216:FuncId:=216
abbrev fq38:FuncId:=38
abbrev fq67:FuncId:=67
abbrev fq73:FuncId:=73
abbrev fq124:FuncId:=124
abbrev fq126:FuncId:=126
abbrev fq127:FuncId:=127
abbrev fq125:FuncId:=125
abbrev fq184:FuncId:=184
abbrev fq130:FuncId:=130
abbrev fq185:FuncId:=185
abbrev fq186:FuncId:=186
abbrev fq188:FuncId:=188
abbrev fq189:FuncId:=189
abbrev fq190:FuncId:=190
abbrev fq191:FuncId:=191
abbrev fq192:FuncId:=192
abbrev fq193:FuncId:=193
abbrev fq194:FuncId:=194
abbrev fq118:FuncId:=118
abbrev fq179:FuncId:=179
abbrev fq180:FuncId:=180
abbrev fq119:FuncId:=119
abbrev fq181:FuncId:=181
abbrev fq182:FuncId:=182
abbrev fq183:FuncId:=183
abbrev fq63:FuncId:=63
abbrev fq117:FuncId:=117
abbrev fq69:FuncId:=69
abbrev fq14:FuncId:=14
abbrev fq15:FuncId:=15
abbrev fq28:FuncId:=28
abbrev fq136:FuncId:=136
abbrev fq196:FuncId:=196
abbrev fq243:FuncId:=243
abbrev fq261:FuncId:=261
abbrev fq256:FuncId:=256
abbrev fq257:FuncId:=257
abbrev fq226:FuncId:=226
abbrev fq225:FuncId:=225
abbrev fq230:FuncId:=230
abbrev fq241:FuncId:=241
abbrev fq228:FuncId:=228
abbrev fq229:FuncId:=229
abbrev fq231:FuncId:=231
abbrev fq197:FuncId:=197
abbrev fq227:FuncId:=227
abbrev fq246:FuncId:=246
abbrev fq255:FuncId:=255
abbrev fq263:FuncId:=263
abbrev fq271:FuncId:=271
abbrev fq37:FuncId:=37
abbrev fq149:FuncId:=149
abbrev fq87:FuncId:=87
abbrev fq61:FuncId:=61
abbrev fq116:FuncId:=116
abbrev fq143:FuncId:=143
abbrev fq137:FuncId:=137
abbrev fq95:FuncId:=95
abbrev fq106:FuncId:=106
abbrev fq92:FuncId:=92
abbrev fq141:FuncId:=141
abbrev fq85:FuncId:=85
abbrev fq114:FuncId:=114
abbrev fq96:FuncId:=96
abbrev fq173:FuncId:=173
abbrev fq154:FuncId:=154
abbrev fq108:FuncId:=108
abbrev fq115:FuncId:=115
abbrev fq105:FuncId:=105
abbrev fq107:FuncId:=107
abbrev fq138:FuncId:=138
abbrev fq101:FuncId:=101
abbrev fq102:FuncId:=102
abbrev fq112:FuncId:=112
abbrev fq94:FuncId:=94
abbrev fq113:FuncId:=113
abbrev fq110:FuncId:=110
abbrev fq168:FuncId:=168
abbrev fq93:FuncId:=93
abbrev fq103:FuncId:=103
abbrev fq97:FuncId:=97
abbrev fq98:FuncId:=98
abbrev fq210:FuncId:=210
abbrev fq146:FuncId:=146
abbrev fq144:FuncId:=144
abbrev fq211:FuncId:=211
abbrev fq235:FuncId:=235
abbrev fq91:FuncId:=91
abbrev fq109:FuncId:=109
abbrev fq142:FuncId:=142
abbrev fq89:FuncId:=89
abbrev fq90:FuncId:=90
abbrev fq88:FuncId:=88
abbrev fq207:FuncId:=207
abbrev fq165:FuncId:=165
abbrev fq164:FuncId:=164
abbrev fq151:FuncId:=151
abbrev fq104:FuncId:=104
abbrev fq100:FuncId:=100
abbrev fq99:FuncId:=99
abbrev fq171:FuncId:=171
abbrev fq233:FuncId:=233
abbrev fq170:FuncId:=170
abbrev fq111:FuncId:=111
abbrev fq167:FuncId:=167
abbrev fq62:FuncId:=62
abbrev fq153:FuncId:=153
abbrev fq163:FuncId:=163
abbrev fq139:FuncId:=139
abbrev fq150:FuncId:=150
abbrev fq201:FuncId:=201
abbrev fq199:FuncId:=199
abbrev fq86:FuncId:=86
abbrev fq16:FuncId:=16
abbrev fq75:FuncId:=75
abbrev fq81:FuncId:=81
abbrev fq251:FuncId:=251
abbrev fq23:FuncId:=23
abbrev fq49:FuncId:=49
abbrev fq50:FuncId:=50
abbrev fq19:FuncId:=19
abbrev fq26:FuncId:=26
abbrev fq20:FuncId:=20
abbrev fq78:FuncId:=78
abbrev fq133:FuncId:=133
abbrev fq79:FuncId:=79
abbrev fq76:FuncId:=76
abbrev fq21:FuncId:=21
abbrev fq52:FuncId:=52
abbrev fq32:FuncId:=32
abbrev fq134:FuncId:=134
abbrev fq57:FuncId:=57
abbrev fq84:FuncId:=84
abbrev fq35:FuncId:=35
abbrev fq250:FuncId:=250
abbrev fq47:FuncId:=47
abbrev fq48:FuncId:=48
abbrev fq59:FuncId:=59
abbrev fq83:FuncId:=83
abbrev fq56:FuncId:=56
abbrev fq44:FuncId:=44
abbrev fq45:FuncId:=45
abbrev fq135:FuncId:=135
abbrev fq132:FuncId:=132
abbrev fq218:FuncId:=218
abbrev fq222:FuncId:=222
abbrev fq217:FuncId:=217
abbrev fq249:FuncId:=249
abbrev fq239:FuncId:=239
abbrev fq224:FuncId:=224
abbrev fq220:FuncId:=220
abbrev fq221:FuncId:=221
abbrev fq238:FuncId:=238
abbrev fq223:FuncId:=223
abbrev fq195:FuncId:=195
abbrev fq82:FuncId:=82
abbrev fq29:FuncId:=29
abbrev fq53:FuncId:=53
abbrev fq54:FuncId:=54
abbrev fq58:FuncId:=58
abbrev fq55:FuncId:=55
abbrev fq36:FuncId:=36
abbrev fq60:FuncId:=60
abbrev fq219:FuncId:=219
abbrev fq34:FuncId:=34
abbrev fq237:FuncId:=237
abbrev fq80:FuncId:=80
abbrev fq51:FuncId:=51
abbrev fq131:FuncId:=131
abbrev fq77:FuncId:=77
abbrev fq42:FuncId:=42
abbrev fq43:FuncId:=43
abbrev fq41:FuncId:=41
abbrev fq31:FuncId:=31
abbrev fq39:FuncId:=39
abbrev fq40:FuncId:=40
abbrev fq46:FuncId:=46
abbrev fq258:FuncId:=258
abbrev fq240:FuncId:=240
abbrev tq65:TypeId:=65
abbrev tq20:TypeId:=20
abbrev tq180:TypeId:=180
abbrev tq306:TypeId:=306
abbrev tq182:TypeId:=182
abbrev tq273:TypeId:=273
abbrev tq260:TypeId:=260
abbrev tq308:TypeId:=308
abbrev tq125:TypeId:=125
abbrev tq194:TypeId:=194
abbrev tq187:TypeId:=187
abbrev tq303:TypeId:=303
abbrev tq205:TypeId:=205
abbrev tq197:TypeId:=197
abbrev tq199:TypeId:=199
abbrev tq265:TypeId:=265
abbrev tq189:TypeId:=189
abbrev tq301:TypeId:=301
abbrev tq251:TypeId:=251
abbrev tq297:TypeId:=297
abbrev tq312:TypeId:=312
abbrev tq185:TypeId:=185
abbrev tq115:TypeId:=115
abbrev tq113:TypeId:=113
abbrev tq131:TypeId:=131
abbrev tq299:TypeId:=299
abbrev tq238:TypeId:=238
abbrev tq319:TypeId:=319
abbrev tq316:TypeId:=316
abbrev tq202:TypeId:=202
abbrev tq109:TypeId:=109
abbrev tq234:TypeId:=234
abbrev tq222:TypeId:=222
abbrev tq191:TypeId:=191
abbrev tq322:TypeId:=322
abbrev tq183:TypeId:=183
abbrev tq269:TypeId:=269
abbrev tq255:TypeId:=255
abbrev tq173:TypeId:=173
abbrev tq176:TypeId:=176
abbrev tq175:TypeId:=175
abbrev tq375:TypeId:=375
abbrev tq397:TypeId:=397
abbrev tq41:TypeId:=41
abbrev tq138:TypeId:=138
abbrev tq63:TypeId:=63
abbrev tq3:TypeId:=3
abbrev tq21:TypeId:=21
abbrev tq85:TypeId:=85
abbrev tq394:TypeId:=394
abbrev tq96:TypeId:=96
abbrev tq304:TypeId:=304
abbrev tq99:TypeId:=99
abbrev tq270:TypeId:=270
abbrev tq257:TypeId:=257
abbrev tq307:TypeId:=307
abbrev tq123:TypeId:=123
abbrev tq126:TypeId:=126
abbrev tq117:TypeId:=117
abbrev tq302:TypeId:=302
abbrev tq203:TypeId:=203
abbrev tq128:TypeId:=128
abbrev tq129:TypeId:=129
abbrev tq262:TypeId:=262
abbrev tq120:TypeId:=120
abbrev tq300:TypeId:=300
abbrev tq248:TypeId:=248
abbrev tq295:TypeId:=295
abbrev tq309:TypeId:=309
abbrev tq111:TypeId:=111
abbrev tq107:TypeId:=107
abbrev tq298:TypeId:=298
abbrev tq235:TypeId:=235
abbrev tq317:TypeId:=317
abbrev tq313:TypeId:=313
abbrev tq200:TypeId:=200
abbrev tq104:TypeId:=104
abbrev tq231:TypeId:=231
abbrev tq218:TypeId:=218
abbrev tq192:TypeId:=192
abbrev tq102:TypeId:=102
abbrev tq266:TypeId:=266
abbrev tq252:TypeId:=252
abbrev tq169:TypeId:=169
abbrev tq93:TypeId:=93
abbrev tq328:TypeId:=328
abbrev tq60:TypeId:=60
abbrev tq88:TypeId:=88
abbrev tq46:TypeId:=46
abbrev tq90:TypeId:=90
abbrev tq92:TypeId:=92
abbrev tq30:TypeId:=30
abbrev tq145:TypeId:=145
abbrev tq326:TypeId:=326
abbrev tq73:TypeId:=73
abbrev tq49:TypeId:=49
abbrev tq9:TypeId:=9
abbrev tq5:TypeId:=5
abbrev kc5:Nat:=0
abbrev kc4:Nat:=1
def isBegin.W (c:Int) (H:Heap) (R:RR):Prop:=
 k02 (decide (c≥97))
 (k02 (decide (c≤122))
 (rk [(.bool true)] H R)
 (k02 (decide (c≥65))
 (k02 (decide (c≤90))
 (rk [(.bool true)] H R)
 (rk [(.bool (c==95))] H R))
 (rk [(.bool (c==95))] H R)))
 (k02 (decide (c≥65))
 (k02 (decide (c≤90))
 (rk [(.bool true)] H R)
 (rk [(.bool (c==95))] H R))
 (rk [(.bool (c==95))] H R))
theorem isBegin.enter (c:Int) (H:Heap) (R:RR) (h:isBegin.W c H R):Fn PP fq47 #[(.int .u8 c)] H R:=
 fnE Tryz.func47 (hz []) (by unfold isBegin.W;kernel_rfl) h
def isDigit.W (c:Int) (H:Heap) (R:RR):Prop:=
 k02 (decide (c≥48))
 (rk [(.bool (decide (c≤57)))] H R)
 (rk [(.bool false)] H R)
theorem isDigit.enter (c:Int) (H:Heap) (R:RR) (h:isDigit.W c H R):Fn PP fq48 #[(.int .u8 c)] H R:=
 fnE Tryz.func48 (hz []) (by unfold isDigit.W;kernel_rfl) h
def IsName.W (s:BA) (H:Heap) (R:RR):Prop:=
 k0e (Int×Unit) (0,()) H fun z1 H2 next3=>
 k02 (decide (z1.1<((s.size:Nat):Int)))
 (((0:Int)≤z1.1∧z1.1<((s.size:Nat):Int))∧
 k00 PP fq47 #[(.int .u8 (bt s z1.1))] H2 k04 fun(x4:Bool) H5=>
 k02 (!x4)
 (k02 (z1.1==0)
 (rk [(.bool false)] H5 R)
 (((0:Int)≤z1.1∧z1.1<((s.size:Nat):Int))∧
 k00 PP fq48 #[(.int .u8 (bt s z1.1))] H5 k04 fun(x6:Bool) H7=>
 k02 (!x6)
 (rk [(.bool false)] H7 R)
 (next3 ((IntKind.i64.wrap (z1.1+1)),()) H7)))
 (next3 ((IntKind.i64.wrap (z1.1+1)),()) H5))
 (rk [(.bool (!(s.toList==(bs []).toList)))] H2 R)
theorem IsName.enter (s:BA) (H:Heap) (R:RR) (h:IsName.W s H R):Fn PP fq49 #[(.string s)] H R:=
 fnE Tryz.func49 ⟨patL [(13,k04),(22,k04)],k06 [(0,[Slot.int .i64 3])],k03 [],k03 [],k05 []⟩ (by unfold IsName.W;kernel_rfl) h
def Point.W (s:BA) (at_:Int) (H:Heap) (R:RR):Prop:=
 ((0:Int)≤at_∧at_<((s.size:Nat):Int))∧
 k02 (decide ((IntKind.i64.wrap (bt s at_))<128))
 (rk [(.int .i64 (IntKind.i64.wrap (bt s at_))),(.int .i64 1)] H R)
 (k0j (Bool×Unit) H (fun J1=>
 k02 (decide ((IntKind.i64.wrap (bt s at_))≥194))
 (J1 ((decide ((IntKind.i64.wrap (bt s at_))<224)),()) H)
 (J1 (false,()) H)) fun y2=>
 k0d (Int×Int×Int×Unit) (fun J3=>
 k02 y2.1
 (J3 ((IntKind.i64.wrap ((IntKind.i64.wrap (bt s at_)) -192)),2,128,()) H)
 (k0j (Bool×Unit) H (fun J6=>
 k02 (decide ((IntKind.i64.wrap (bt s at_))≥224))
 (J6 ((decide ((IntKind.i64.wrap (bt s at_))<240)),()) H)
 (J6 (false,()) H)) fun y7=>
 k0d (Int×Int×Int×Unit) (fun J8=>
 k02 y7.1
 (J8 ((IntKind.i64.wrap ((IntKind.i64.wrap (bt s at_)) -224)),3,2048,()) H)
 (k0j (Bool×Unit) H (fun J11=>
 k02 (decide ((IntKind.i64.wrap (bt s at_))≥240))
 (J11 ((decide ((IntKind.i64.wrap (bt s at_))<245)),()) H)
 (J11 (false,()) H)) fun y12=>
 k0d (Int×Int×Int×Unit) (fun J13=>
 k02 y12.1
 (J13 ((IntKind.i64.wrap ((IntKind.i64.wrap (bt s at_)) -240)),4,65536,()) H)
 (J13 (0,0,0,()) H)) fun y14 H15=>
 J8 (y14.1,y14.2.1,y14.2.2.1,()) H15)) fun y9 H10=>
 J3 (y9.1,y9.2.1,y9.2.2.1,()) H10)) fun y4 H5=>
 k0j (Bool×Unit) H5 (fun J16=>
 k02 (y4.2.1==0)
 (J16 (true,()) H5)
 (J16 ((decide ((IntKind.i64.wrap (at_+y4.2.1))>((s.size:Nat):Int))),()) H5)) fun y17=>
 k02 y17.1
 (rk [(.int .i64 0),(.int .i64 0)] H5 R)
 (k0e (Int×Int×Int×Unit) (y4.1,y4.2.1,(IntKind.i64.wrap (at_+1)),()) H5 fun z18 H19 next20=>
 k02 (decide (z18.2.2.1<(IntKind.i64.wrap (at_+z18.2.1))))
 (k0j (Bool×Unit) H19 (fun J21=>
 ((0:Int)≤z18.2.2.1∧z18.2.2.1<((s.size:Nat):Int))∧
 k02 (decide ((bt s z18.2.2.1)<128))
 (J21 (true,()) H19)
 (((0:Int)≤z18.2.2.1∧z18.2.2.1<((s.size:Nat):Int))∧
 J21 ((decide ((bt s z18.2.2.1)>191)),()) H19)) fun y22=>
 k02 y22.1
 (rk [(.int .i64 0),(.int .i64 0)] H19 R)
 (((0:Int)≤z18.2.2.1∧z18.2.2.1<((s.size:Nat):Int))∧
 next20 ((IntKind.i64.wrap ((IntKind.i64.wrap ((IntKind.i64.wrap (z18.1*2^(min (6:Int).toNat 64)))+(IntKind.i64.wrap (bt s z18.2.2.1)))) -128)),z18.2.1,(IntKind.i64.wrap (z18.2.2.1+1)),()) H19))
 (k0j (Bool×Unit) H19 (fun J23=>
 k02 (decide (z18.1<y4.2.2.1))
 (J23 (true,()) H19)
 (k02 (decide (z18.1>1114111))
 (J23 (true,()) H19)
 (k02 (decide (z18.1≥55296))
 (J23 ((decide (z18.1<57344)),()) H19)
 (J23 (false,()) H19)))) fun y24=>
 k02 y24.1
 (rk [(.int .i64 0),(.int .i64 0)] H19 R)
 (rk [(.int .i64 z18.1),(.int .i64 z18.2.1)] H19 R))))
theorem Point.enter (s:BA) (at_:Int) (H:Heap) (R:RR) (h:Point.W s at_ H R):Fn PP fq79 #[(.string s),(.int .i64 at_)] H R:=
 fnE Tryz.func79 ⟨patL [],k06 [(1,[Slot.int .i64 4,Slot.int .i64 5,Slot.int .i64 8])],k03 [(17,[Slot.int .i64 4,Slot.int .i64 5,Slot.int .i64 7]),(26,[Slot.int .i64 4,Slot.int .i64 5,Slot.int .i64 7]),(35,[Slot.int .i64 4,Slot.int .i64 5,Slot.int .i64 7])],k03 [],k05 [(5,[Slot.bool 17],true),(7,[Slot.bool 26],true),(9,[Slot.bool 35],true),(11,[Slot.bool 53],true),(16,[Slot.bool 72],true),(19,[Slot.bool 95],true)]⟩ (by unfold Point.W;kernel_rfl) h
def hexadecimal.W (c:Int) (H:Heap) (R:RR):Prop:=
 k02 (decide (c≥48))
 (k02 (decide (c≤57))
 (rk [(.int .i64 (IntKind.i64.wrap (IntKind.u8.wrap (c -48))))] H R)
 (k02 (decide (c≥97))
 (k02 (decide (c≤102))
 (rk [(.int .i64 (IntKind.i64.wrap ((IntKind.i64.wrap (IntKind.u8.wrap (c -97)))+10)))] H R)
 (k02 (decide (c≥65))
 (k02 (decide (c≤70))
 (rk [(.int .i64 (IntKind.i64.wrap ((IntKind.i64.wrap (IntKind.u8.wrap (c -65)))+10)))] H R)
 (rk [(.int .i64 (-1))] H R))
 (rk [(.int .i64 (-1))] H R)))
 (k02 (decide (c≥65))
 (k02 (decide (c≤70))
 (rk [(.int .i64 (IntKind.i64.wrap ((IntKind.i64.wrap (IntKind.u8.wrap (c -65)))+10)))] H R)
 (rk [(.int .i64 (-1))] H R))
 (rk [(.int .i64 (-1))] H R))))
 (k02 (decide (c≥97))
 (k02 (decide (c≤102))
 (rk [(.int .i64 (IntKind.i64.wrap ((IntKind.i64.wrap (IntKind.u8.wrap (c -97)))+10)))] H R)
 (k02 (decide (c≥65))
 (k02 (decide (c≤70))
 (rk [(.int .i64 (IntKind.i64.wrap ((IntKind.i64.wrap (IntKind.u8.wrap (c -65)))+10)))] H R)
 (rk [(.int .i64 (-1))] H R))
 (rk [(.int .i64 (-1))] H R)))
 (k02 (decide (c≥65))
 (k02 (decide (c≤70))
 (rk [(.int .i64 (IntKind.i64.wrap ((IntKind.i64.wrap (IntKind.u8.wrap (c -65)))+10)))] H R)
 (rk [(.int .i64 (-1))] H R))
 (rk [(.int .i64 (-1))] H R)))
theorem hexadecimal.enter (c:Int) (H:Heap) (R:RR) (h:hexadecimal.W c H R):Fn PP fq250 #[(.int .u8 c)] H R:=
 fnE Tryz.func250 (hz []) (by unfold hexadecimal.W;kernel_rfl) h
def sign.W (c:Int) (H:Heap) (R:RR):Prop:=
 k02 (c==33)
 (rk [(.int .i64 2)] H R)
 (k02 (c==36)
 (rk [(.int .i64 3)] H R)
 (k02 (c==40)
 (rk [(.int .i64 4)] H R)
 (k02 (c==41)
 (rk [(.int .i64 5)] H R)
 (k02 (c==58)
 (rk [(.int .i64 7)] H R)
 (k02 (c==61)
 (rk [(.int .i64 8)] H R)
 (k02 (c==64)
 (rk [(.int .i64 9)] H R)
 (k02 (c==91)
 (rk [(.int .i64 10)] H R)
 (k02 (c==93)
 (rk [(.int .i64 11)] H R)
 (k02 (c==123)
 (rk [(.int .i64 12)] H R)
 (k02 (c==124)
 (rk [(.int .i64 13)] H R)
 (k02 (c==125)
 (rk [(.int .i64 14)] H R)
 (k02 (c==38)
 (rk [(.int .i64 20)] H R)
 (rk [(.int .i64 0)] H R)))))))))))))
theorem sign.enter (c:Int) (H:Heap) (R:RR) (h:sign.W c H R):Fn PP fq219 #[(.int .u8 c)] H R:=
 fnE Tryz.func219 (hz []) (by unfold sign.W;kernel_rfl) h
def starts.W (s:BA) (at_:Int) (t:BA) (H:Heap) (R:RR):Prop:=
 k02 (decide ((IntKind.i64.wrap (at_+((t.size:Nat):Int)))≤((s.size:Nat):Int)))
 ((((0:Int)≤(IntKind.i64.wrap (at_+((t.size:Nat):Int)))∧(IntKind.i64.wrap (at_+((t.size:Nat):Int)))≤((s.size:Nat):Int))∧((0:Int)≤at_∧at_≤(((IntKind.i64.wrap (at_+((t.size:Nat):Int))).toNat:Nat):Int)))∧
 rk [(.bool ((s.extract at_.toNat (IntKind.i64.wrap (at_+((t.size:Nat):Int))).toNat).toList==t.toList))] H R)
 (rk [(.bool false)] H R)
theorem starts.enter (s:BA) (at_:Int) (t:BA) (H:Heap) (R:RR) (h:starts.W s at_ t H R):Fn PP fq80 #[(.string s),(.int .i64 at_),(.string t)] H R:=
 fnE Tryz.func80 (hz []) (by unfold starts.W;kernel_rfl) h
def k6V.W (c:Int) (H:Heap) (R:RR):Prop:=
 k02 (c==9)
 (rk [(.bool true),(.bool (decide (c≤65535)))] H R)
 (k02 (c==10)
 (rk [(.bool true),(.bool (decide (c≤65535)))] H R)
 (k02 (c==13)
 (rk [(.bool true),(.bool (decide (c≤65535)))] H R)
 (rk [(.bool (decide (c≥32))),(.bool (decide (c≤65535)))] H R)))
theorem k6V.enter (c:Int) (H:Heap) (R:RR) (h:k6V.W c H R):Fn PP fq237 #[(.int .i64 c)] H R:=
 fnE Tryz.func237 (hz []) (by unfold k6V.W;kernel_rfl) h
def Encoded.W (c:Int) (H:Heap) (R:RR):Prop:=
 newB H (.cells #[(.int .i32 (IntKind.i32.wrap c))] tq21) fun b1 H2=>
 kdW H2 ⟨b1,0,none⟩ fun(c3:Int)=>
 rk [(.string (Utf8.encode c3))] H2 R
theorem Encoded.enter (c:Int) (H:Heap) (R:RR) (h:Encoded.W c H R):Fn PP fq251 #[(.int .i64 c)] H R:=
 fnE Tryz.func251 (hz []) (by unfold Encoded.W;kernel_rfl) h
def textable.W (s:BA) (H:Heap) (R:RR):Prop:=
 k0e (Int×Unit) (0,()) H fun z1 H2 next3=>
 k02 (decide (z1.1<((s.size:Nat):Int)))
 (k00 PP fq79 #[(.string s),(.int .i64 z1.1)] H2 pII fun(x4:Int×Int) H5=>
 k0j (Bool×Unit) H5 (fun J6=>
 k02 (x4.2==0)
 (J6 (true,()) H5)
 (k02 (x4.1==0)
 (J6 (true,()) H5)
 (J6 ((decide (x4.1>65535)),()) H5))) fun y7=>
 k02 y7.1
 (rk [(.bool false)] H5 R)
 (next3 ((IntKind.i64.wrap (z1.1+x4.2)),()) H5))
 (rk [(.bool true)] H2 R)
theorem textable.enter (s:BA) (H:Heap) (R:RR) (h:textable.W s H R):Fn PP fq51 #[(.string s)] H R:=
 fnE Tryz.func51 ⟨patL [(13,pII)],k06 [(0,[Slot.int .i64 3])],k03 [],k03 [],k05 [(4,[Slot.bool 25],true)]⟩ (by unfold textable.W;kernel_rfl) h
def blockable.W (s:BA) (H:Heap) (R:RR):Prop:=
 k0e (Int×Unit) (0,()) H fun z1 H2 next3=>
 k02 (decide (z1.1<((s.size:Nat):Int)))
 (k00 PP fq79 #[(.string s),(.int .i64 z1.1)] H2 pII fun(x4:Int×Int) H5=>
 k0d (Bool×Unit) (fun J6=>
 k02 (x4.2==0)
 (J6 (true,()) H5)
 (k02 (x4.1 !=9)
 (k02 (x4.1 !=10)
 (k02 (decide (x4.1<32))
 (J6 (true,()) H5)
 (k02 (x4.1==127)
 (J6 (true,()) H5)
 (k02 (x4.1==65279)
 (J6 (true,()) H5)
 (k02 (decide (x4.1>65535))
 (J6 (true,()) H5)
 (k00 PP fq80 #[(.string s),(.int .i64 z1.1),(.string (bs [34,34,34]))] H5 k04 fun(x9:Bool) H10=>
 J6 (x9,()) H10)))))
 (k02 (x4.1==127)
 (J6 (true,()) H5)
 (k02 (x4.1==65279)
 (J6 (true,()) H5)
 (k02 (decide (x4.1>65535))
 (J6 (true,()) H5)
 (k00 PP fq80 #[(.string s),(.int .i64 z1.1),(.string (bs [34,34,34]))] H5 k04 fun(x11:Bool) H12=>
 J6 (x11,()) H12)))))
 (k02 (x4.1==127)
 (J6 (true,()) H5)
 (k02 (x4.1==65279)
 (J6 (true,()) H5)
 (k02 (decide (x4.1>65535))
 (J6 (true,()) H5)
 (k00 PP fq80 #[(.string s),(.int .i64 z1.1),(.string (bs [34,34,34]))] H5 k04 fun(x13:Bool) H14=>
 J6 (x13,()) H14)))))) fun y7 H8=>
 k02 y7.1
 (rk [(.bool false)] H8 R)
 (next3 ((IntKind.i64.wrap (z1.1+x4.2)),()) H8))
 (k0d (Bool×Unit) (fun J15=>
 ((((bs [10]).size+s.size:Nat):Int)≤9223372036854775807)∧
 (((((bs [10])++s).size+(bs [10]).size:Nat):Int)≤9223372036854775807)∧
 k00 PP fq81 #[(.string (((bs [10])++s)++(bs [10])))] H2 pStr fun(x18:BA) H19=>
 k02 (x18.toList==s.toList)
 (((((bs [10]).size+s.size:Nat):Int)≤9223372036854775807)∧
 (((((bs [10])++s).size+(bs [10]).size:Nat):Int)≤9223372036854775807)∧
 k00 PP fq82 #[(.string (((bs [10])++s)++(bs [10])))] H19 k04 fun(x20:Bool) H21=>
 J15 (x20,()) H21)
 (J15 (false,()) H19)) fun y16 H17=>
 rk [(.bool y16.1)] H17 R)
theorem blockable.enter (s:BA) (H:Heap) (R:RR) (h:blockable.W s H R):Fn PP fq52 #[(.string s)] H R:=
 fnE Tryz.func52 ⟨patL [(13,pII),(45,k04),(53,pStr),(60,k04)],k06 [(0,[Slot.int .i64 3])],k03 [],k03 [],k05 [(4,[Slot.bool 46],false),(7,[Slot.bool 2],false)]⟩ (by unfold blockable.W;kernel_rfl) h
def leading.W (s:BA) (H:Heap) (R:RR):Prop:=
 k0e (Int×Unit) (0,()) H fun z1 H2 next3=>
 k0j (Bool×Unit) H2 (fun J4=>
 k02 (decide (z1.1<((s.size:Nat):Int)))
 (((0:Int)≤z1.1∧z1.1<((s.size:Nat):Int))∧
 k02 ((bt s z1.1)==32)
 (J4 (true,()) H2)
 (((0:Int)≤z1.1∧z1.1<((s.size:Nat):Int))∧
 J4 (((bt s z1.1)==9),()) H2))
 (J4 (false,()) H2)) fun y5=>
 k02 y5.1
 (next3 ((IntKind.i64.wrap (z1.1+1)),()) H2)
 (rk [(.int .i64 z1.1)] H2 R)
theorem leading.enter (s:BA) (H:Heap) (R:RR) (h:leading.W s H R):Fn PP fq135 #[(.string s)] H R:=
 fnE Tryz.func135 ⟨patL [],k06 [(0,[Slot.int .i64 3])],k03 [],k03 [],k05 [(2,[Slot.bool 19],true)]⟩ (by unfold leading.W;kernel_rfl) h
def common.W (l lO lN _lC:Nat) (H:Heap) (R:RR):Prop:=
 k0e (Int×Int×Unit) ((-1),1,()) H fun z1 H2 next3=>
 k02 (decide (z1.2.1<((lN:Nat):Int)))
 ((IxOk (some ⟨l,lO,none⟩) z1.2.1 lN)∧
 k01 H2 false 1 ⟨l,(lO+z1.2.1.toNat*1),none⟩ pStr fun(x4:BA)=>
 k00 PP fq135 #[(.string x4)] H2 (pInt .i64) fun(x5:Int) H6=>
 k0j (Bool×Unit) H6 (fun J7=>
 (IxOk (some ⟨l,lO,none⟩) z1.2.1 lN)∧
 k01 H6 false 1 ⟨l,(lO+z1.2.1.toNat*1),none⟩ pStr fun(x9:BA)=>
 k02 (decide (x5<((x9.size:Nat):Int)))
 (k02 (decide (z1.1<0))
 (J7 (true,()) H6)
 (J7 ((decide (x5<z1.1)),()) H6))
 (J7 (false,()) H6)) fun y8=>
 k0d (Int×Unit) (fun J10=>
 k02 y8.1
 (J10 (x5,()) H6)
 (J10 (z1.1,()) H6)) fun y11 H12=>
 next3 (y11.1,(IntKind.i64.wrap (z1.2.1+1)),()) H12)
 (rk [(.int .i64 (if 0>z1.1 then 0 else z1.1))] H2 R)
theorem common.enter (l lO lN lC:Nat) (H:Heap) (R:RR) (h:common.W l lO lN lC H R):Fn PP fq134 #[(.slice (some ⟨l,lO,none⟩) lN lC)] H R:=
 fnE Tryz.func134 ⟨patL [(15,pStr),(16,(pInt .i64)),(21,pStr)],k06 [(0,[Slot.int .i64 3,Slot.int .i64 4])],k03 [(32,[Slot.int .i64 3])],k03 [],k05 [(6,[Slot.bool 32],true)]⟩ (by unfold common.W;kernel_rfl) h
def Lines.W (s:BA) (H:Heap) (R:RR):Prop:=
 k0e (Sl×Int×Int×Unit) ((none,0,0),0,0,()) H fun z1 H2 next3=>
 k02 (decide (z1.2.2.1<((s.size:Nat):Int)))
 (k0j (Bool×Unit) H2 (fun J4=>
 ((0:Int)≤z1.2.2.1∧z1.2.2.1<((s.size:Nat):Int))∧
 k02 ((bt s z1.2.2.1) !=10)
 (((0:Int)≤z1.2.2.1∧z1.2.2.1<((s.size:Nat):Int))∧
 J4 (((bt s z1.2.2.1) !=13),()) H2)
 (J4 (false,()) H2)) fun y5=>
 k02 y5.1
 (next3 ((z1.1.1,z1.1.2.1,z1.1.2.2),z1.2.1,(IntKind.i64.wrap (z1.2.2.1+1)),()) H2)
 ((((0:Int)≤z1.2.2.1∧z1.2.2.1≤((s.size:Nat):Int))∧((0:Int)≤z1.2.1∧z1.2.1≤((z1.2.2.1.toNat:Nat):Int)))∧
 newB H2 (.cells #[(.string (s.extract z1.2.1.toNat z1.2.2.1.toNat))] tq9) fun b6 H7=>
 appK H7 tq9 1 16 z1.1.1 z1.1.2.1 z1.1.2.2 (some ⟨b6,0,none⟩) 1 fun a8 c9 H10=>
 k0j (Bool×Unit) H10 (fun J11=>
 ((0:Int)≤z1.2.2.1∧z1.2.2.1<((s.size:Nat):Int))∧
 k02 ((bt s z1.2.2.1)==13)
 (k02 (decide ((IntKind.i64.wrap (z1.2.2.1+1))<((s.size:Nat):Int)))
 (((0:Int)≤(IntKind.i64.wrap (z1.2.2.1+1))∧(IntKind.i64.wrap (z1.2.2.1+1))<((s.size:Nat):Int))∧
 J11 (((bt s (IntKind.i64.wrap (z1.2.2.1+1)))==10),()) H10)
 (J11 (false,()) H10))
 (J11 (false,()) H10)) fun y12=>
 k0d (Int×Unit) (fun J13=>
 k02 y12.1
 (J13 ((IntKind.i64.wrap (z1.2.2.1+1)),()) H10)
 (J13 (z1.2.2.1,()) H10)) fun y14 H15=>
 next3 ((a8,(z1.1.2.1+1),c9),(IntKind.i64.wrap (y14.1+1)),(IntKind.i64.wrap (y14.1+1)),()) H15))
 (((0:Int)≤z1.2.1∧z1.2.1≤((s.size:Nat):Int))∧
 newB H2 (.cells #[(.string (s.extract z1.2.1.toNat s.size))] tq9) fun b16 H17=>
 appK H17 tq9 1 16 z1.1.1 z1.1.2.1 z1.1.2.2 (some ⟨b16,0,none⟩) 1 fun a18 c19 H20=>
 rk [(.slice a18 (z1.1.2.1+1) c19)] H20 R)
theorem Lines.enter (s:BA) (H:Heap) (R:RR) (h:Lines.W s H R):Fn PP fq133 #[(.string s)] H R:=
 fnE Tryz.func133 ⟨patL [],k06 [(0,[Slot.slc 3,Slot.int .i64 4,Slot.int .i64 5])],k03 [(46,[Slot.int .i64 5])],k03 [],k05 [(6,[Slot.bool 21],true),(8,[Slot.bool 46],true)]⟩ (by unfold Lines.W;kernel_rfl) h
def plainBlock.W (raw:BA) (H:Heap) (R:RR):Prop:=
 k00 PP fq133 #[(.string raw)] H pSlc fun(x1:Sl) H2=>
 k00 PP fq134 #[(.slice x1.1 x1.2.1 x1.2.2)] H2 (pInt .i64) fun(x3:Int) H4=>
 k02 (decide (x3>0))
 ((IxOk x1.1 0 x1.2.1)∧
 k01 H4 false 1 ⟨(k0c x1.1),(k0b x1.1+(0:Int).toNat*1),none⟩ pStr fun(x5:BA)=>
 (IxOk x1.1 0 x1.2.1)∧
 k01 H4 false 1 ⟨(k0c x1.1),(k0b x1.1+(0:Int).toNat*1),none⟩ pStr fun(x6:BA)=>
 k00 PP fq135 #[(.string x5)] H4 (pInt .i64) fun(x7:Int) H8=>
 k07 H8 false 1 ⟨(k0c x1.1),(k0b x1.1+(0:Int).toNat*1),none⟩=some (.string x6)∧
 k02 (decide (x7<((x6.size:Nat):Int)))
 (rk [(.bool false)] H8 R)
 (k0e (Int×Unit) (1,()) H8 fun z9 H10 next11=>
 k02 (decide (z9.1<((x1.2.1:Nat):Int)))
 ((IxOk x1.1 z9.1 x1.2.1)∧
 k01 H10 false 1 ⟨(k0c x1.1),(k0b x1.1+z9.1.toNat*1),none⟩ pStr fun(x12:BA)=>
 (IxOk x1.1 z9.1 x1.2.1)∧
 k01 H10 false 1 ⟨(k0c x1.1),(k0b x1.1+z9.1.toNat*1),none⟩ pStr fun(x13:BA)=>
 k00 PP fq135 #[(.string x12)] H10 (pInt .i64) fun(x14:Int) H15=>
 k07 H15 false 1 ⟨(k0c x1.1),(k0b x1.1+z9.1.toNat*1),none⟩=some (.string x13)∧
 k02 (x14==((x13.size:Nat):Int))
 ((IxOk x1.1 z9.1 x1.2.1)∧
 k01 H15 false 1 ⟨(k0c x1.1),(k0b x1.1+z9.1.toNat*1),none⟩ pStr fun(x16:BA)=>
 k02 (decide (((x16.size:Nat):Int)>0))
 ((IxOk x1.1 z9.1 x1.2.1)∧
 k01 H15 false 1 ⟨(k0c x1.1),(k0b x1.1+z9.1.toNat*1),none⟩ pStr fun(x17:BA)=>
 k02 (decide (((x17.size:Nat):Int)<x3))
 (rk [(.bool false)] H15 R)
 (next11 ((IntKind.i64.wrap (z9.1+1)),()) H15))
 (next11 ((IntKind.i64.wrap (z9.1+1)),()) H15))
 (next11 ((IntKind.i64.wrap (z9.1+1)),()) H15))
 (rk [(.bool true)] H10 R)))
 (k0e (Int×Unit) (1,()) H4 fun z18 H19 next20=>
 k02 (decide (z18.1<((x1.2.1:Nat):Int)))
 ((IxOk x1.1 z18.1 x1.2.1)∧
 k01 H19 false 1 ⟨(k0c x1.1),(k0b x1.1+z18.1.toNat*1),none⟩ pStr fun(x21:BA)=>
 (IxOk x1.1 z18.1 x1.2.1)∧
 k01 H19 false 1 ⟨(k0c x1.1),(k0b x1.1+z18.1.toNat*1),none⟩ pStr fun(x22:BA)=>
 k00 PP fq135 #[(.string x21)] H19 (pInt .i64) fun(x23:Int) H24=>
 k07 H24 false 1 ⟨(k0c x1.1),(k0b x1.1+z18.1.toNat*1),none⟩=some (.string x22)∧
 k02 (x23==((x22.size:Nat):Int))
 ((IxOk x1.1 z18.1 x1.2.1)∧
 k01 H24 false 1 ⟨(k0c x1.1),(k0b x1.1+z18.1.toNat*1),none⟩ pStr fun(x25:BA)=>
 k02 (decide (((x25.size:Nat):Int)>0))
 ((IxOk x1.1 z18.1 x1.2.1)∧
 k01 H24 false 1 ⟨(k0c x1.1),(k0b x1.1+z18.1.toNat*1),none⟩ pStr fun(x26:BA)=>
 k02 (decide (((x26.size:Nat):Int)<x3))
 (rk [(.bool false)] H24 R)
 (next20 ((IntKind.i64.wrap (z18.1+1)),()) H24))
 (next20 ((IntKind.i64.wrap (z18.1+1)),()) H24))
 (next20 ((IntKind.i64.wrap (z18.1+1)),()) H24))
 (rk [(.bool true)] H19 R))
theorem plainBlock.enter (raw:BA) (H:Heap) (R:RR) (h:plainBlock.W raw H R):Fn PP fq82 #[(.string raw)] H R:=
 fnE Tryz.func82 ⟨patL [(7,pSlc),(9,(pInt .i64)),(15,pStr),(16,(pInt .i64)),(19,pStr),(32,pStr),(33,(pInt .i64)),(37,pStr),(44,pStr),(52,pStr)],k06 [(0,[Slot.int .i64 5])],k03 [],k03 [],k05 []⟩ (by unfold plainBlock.W;kernel_rfl) h
def BlockValue.W (raw:BA) (H:Heap) (R:RR):Prop:=
 k00 PP fq133 #[(.string raw)] H pSlc fun(x1:Sl) H2=>
 k00 PP fq134 #[(.slice x1.1 x1.2.1 x1.2.2)] H2 (pInt .i64) fun(x3:Int) H4=>
 k0e (Int×Unit) (1,()) H4 fun z5 H6 next7=>
 k02 (decide (z5.1<((x1.2.1:Nat):Int)))
 ((IxOk x1.1 z5.1 x1.2.1)∧
 k01 H6 false 1 ⟨(k0c x1.1),(k0b x1.1+z5.1.toNat*1),none⟩ pStr fun(x8:BA)=>
 (IxOk x1.1 z5.1 x1.2.1)∧
 k01 H6 false 1 ⟨(k0c x1.1),(k0b x1.1+z5.1.toNat*1),none⟩ pStr fun(x9:BA)=>
 ((0:Int)≤(if((x9.size:Nat):Int)<x3 then((x9.size:Nat):Int) else x3)∧(if((x9.size:Nat):Int)<x3 then((x9.size:Nat):Int) else x3)≤((x8.size:Nat):Int))∧
 (IxOk x1.1 z5.1 x1.2.1)∧
 k08 H6 ⟨(k0c x1.1),(k0b x1.1+z5.1.toNat*1),none⟩ [(.string (x8.extract (if((x9.size:Nat):Int)<x3 then((x9.size:Nat):Int) else x3).toNat x8.size))] fun H10=>
 next7 ((IntKind.i64.wrap (z5.1+1)),()) H10)
 (k0d (Sl×Unit) (fun J11=>
 k0e (Sl×Unit) ((x1.1,x1.2.1,x1.2.2),()) H6 fun z14 H15 next16=>
 k02 (decide (((z14.1.2.1:Nat):Int)>0))
 ((IxOk z14.1.1 0 z14.1.2.1)∧
 k01 H15 false 1 ⟨(k0c z14.1.1),(k0b z14.1.1+(0:Int).toNat*1),none⟩ pStr fun(x17:BA)=>
 (IxOk z14.1.1 0 z14.1.2.1)∧
 k01 H15 false 1 ⟨(k0c z14.1.1),(k0b z14.1.1+(0:Int).toNat*1),none⟩ pStr fun(x18:BA)=>
 k00 PP fq135 #[(.string x17)] H15 (pInt .i64) fun(x19:Int) H20=>
 k07 H20 false 1 ⟨(k0c z14.1.1),(k0b z14.1.1+(0:Int).toNat*1),none⟩=some (.string x18)∧
 k02 (x19==((x18.size:Nat):Int))
 (((0:Int)≤1∧1≤((z14.1.2.1:Nat):Int))∧
 next16 (((slcA z14.1.1 z14.1.2.2 (1:Int).toNat 1),(z14.1.2.1 -(1:Int).toNat),(z14.1.2.2 -(1:Int).toNat)),()) H20)
 (J11 ((z14.1.1,z14.1.2.1,z14.1.2.2),()) H20))
 (J11 ((z14.1.1,z14.1.2.1,z14.1.2.2),()) H15)) fun y12 H13=>
 k0d (Sl×Unit) (fun J21=>
 k0e (Sl×Unit) ((y12.1.1,y12.1.2.1,y12.1.2.2),()) H13 fun z24 H25 next26=>
 k02 (decide (((z24.1.2.1:Nat):Int)>0))
 ((IxOk z24.1.1 (IntKind.i64.wrap (((z24.1.2.1:Nat):Int) -1)) z24.1.2.1)∧
 k01 H25 false 1 ⟨(k0c z24.1.1),(k0b z24.1.1+(IntKind.i64.wrap (((z24.1.2.1:Nat):Int) -1)).toNat*1),none⟩ pStr fun(x27:BA)=>
 (IxOk z24.1.1 (IntKind.i64.wrap (((z24.1.2.1:Nat):Int) -1)) z24.1.2.1)∧
 k01 H25 false 1 ⟨(k0c z24.1.1),(k0b z24.1.1+(IntKind.i64.wrap (((z24.1.2.1:Nat):Int) -1)).toNat*1),none⟩ pStr fun(x28:BA)=>
 k00 PP fq135 #[(.string x27)] H25 (pInt .i64) fun(x29:Int) H30=>
 k07 H30 false 1 ⟨(k0c z24.1.1),(k0b z24.1.1+(IntKind.i64.wrap (((z24.1.2.1:Nat):Int) -1)).toNat*1),none⟩=some (.string x28)∧
 k02 (x29==((x28.size:Nat):Int))
 (((0:Int)≤(IntKind.i64.wrap (((z24.1.2.1:Nat):Int) -1))∧(IntKind.i64.wrap (((z24.1.2.1:Nat):Int) -1))≤((z24.1.2.2:Nat):Int))∧
 next26 (((slcA z24.1.1 z24.1.2.2 0 1),(IntKind.i64.wrap (((z24.1.2.1:Nat):Int) -1)).toNat,z24.1.2.2),()) H30)
 (J21 ((z24.1.1,z24.1.2.1,z24.1.2.2),()) H30))
 (J21 ((z24.1.1,z24.1.2.1,z24.1.2.2),()) H25)) fun y22 H23=>
 k0e (BA×Int×Unit) ((bs []),0,()) H23 fun z31 H32 next33=>
 k02 (decide (z31.2.1<((y22.1.2.1:Nat):Int)))
 (k0d (BA×Unit) (fun J34=>
 k02 (decide (z31.2.1>0))
 ((((z31.1.size+(bs [10]).size:Nat):Int)≤9223372036854775807)∧
 J34 ((z31.1++(bs [10])),()) H32)
 (J34 (z31.1,()) H32)) fun y35 H36=>
 (IxOk y22.1.1 z31.2.1 y22.1.2.1)∧
 k01 H36 false 1 ⟨(k0c y22.1.1),(k0b y22.1.1+z31.2.1.toNat*1),none⟩ pStr fun(x37:BA)=>
 (((y35.1.size+x37.size:Nat):Int)≤9223372036854775807)∧
 next33 ((y35.1++x37),(IntKind.i64.wrap (z31.2.1+1)),()) H36)
 (rk [(.string z31.1)] H32 R))
theorem BlockValue.enter (raw:BA) (H:Heap) (R:RR) (h:BlockValue.W raw H R):Fn PP fq81 #[(.string raw)] H R:=
 fnE Tryz.func81 ⟨patL [(9,pSlc),(11,(pInt .i64)),(23,pStr),(28,pStr),(39,pStr),(40,(pInt .i64)),(43,pStr),(58,pStr),(59,(pInt .i64)),(65,pStr),(88,pStr)],k06 [(0,[Slot.int .i64 5]),(2,[Slot.slc 3]),(4,[Slot.slc 3]),(6,[Slot.str 6,Slot.int .i64 7])],k03 [(81,[Slot.str 6])],k03 [(2,[Slot.slc 3]),(4,[Slot.slc 3])],k05 []⟩ (by unfold BlockValue.W;kernel_rfl) h
def k6k.W (x:Nat) (H:Heap) (R:RR):Prop:=
 k08 H ⟨x,3,none⟩ [(.bool true)] fun H1=>
 rk [] H1 R
theorem k6k.enter (x:Nat) (H:Heap) (R:RR) (h:k6k.W x H R):Fn PP fq224 #[(pq x)] H R:=
 fnE Tryz.func224 (hz []) (by unfold k6k.W;kernel_rfl) h
def k6f.W (x:Nat) (kind:Int) (to:Int) (value:BA) (H:Heap) (R:RR):Prop:=
 lw H x 2 pSlc fun(x1:Sl)=>
 lw H x 1 (pInt .i64) fun(x2:Int)=>
 newB H (.cells #[(.int .i64 kind),(.string value),(.int .i64 x2),(.int .i64 to)] tq138) fun b3 H4=>
 lc H4 x 2 (.slice x1.1 x1.2.1 x1.2.2)∧
 appK H4 tq138 4 40 x1.1 x1.2.1 x1.2.2 (some ⟨b3,0,none⟩) 1 fun a5 c6 H7=>
 k08 H7 ⟨x,2,none⟩ [(.slice a5 (x1.2.1+1) c6)] fun H8=>
 k08 H8 ⟨x,1,none⟩ [(.int .i64 to)] fun H9=>
 rk [] H9 R
theorem k6f.enter (x:Nat) (kind:Int) (to:Int) (value:BA) (H:Heap) (R:RR) (h:k6f.W x kind to value H R):Fn PP fq218 #[(pq x),(.int .i64 kind),(.int .i64 to),(.string value)] H R:=
 fnE Tryz.func218 (hz [(12,pSlc),(18,(pInt .i64))]) (by unfold k6f.W;kernel_rfl) h
def k6m.W (x:Nat) (i:Int) (H:Heap) (R:RR):Prop:=
 lw H x 0 pStr fun(x1:BA)=>
 k02 (decide (i≥((x1.size:Nat):Int)))
 (rk [(.int .u8 0)] H R)
 (lw H x 0 pStr fun(x2:BA)=>
 ((0:Int)≤i∧i<((x2.size:Nat):Int))∧
 rk [(.int .u8 (bt x2 i))] H R)
theorem k6m.enter (x:Nat) (i:Int) (H:Heap) (R:RR) (h:k6m.W x i H R):Fn PP fq220 #[(pq x),(.int .i64 i)] H R:=
 fnE Tryz.func220 (hz [(9,pStr),(15,pStr)]) (by unfold k6m.W;kernel_rfl) h
def k6h.W (x:Nat) (H:Heap) (R:RR):Prop:=
 k0e (Unit) (()) H fun _z1 H2 next3=>
 lw H2 x 1 (pInt .i64) fun(x4:Int)=>
 lw H2 x 0 pStr fun(x5:BA)=>
 k02 (decide (x4<((x5.size:Nat):Int)))
 (lw H2 x 0 pStr fun(x6:BA)=>
 lw H2 x 1 (pInt .i64) fun(x7:Int)=>
 ((0:Int)≤x7∧x7<((x6.size:Nat):Int))∧
 k02 ((bt x6 x7) !=10)
 (lw H2 x 0 pStr fun(x8:BA)=>
 lw H2 x 1 (pInt .i64) fun(x9:Int)=>
 ((0:Int)≤x9∧x9<((x8.size:Nat):Int))∧
 k02 ((bt x8 x9) !=13)
 (lw H2 x 0 pStr fun(x10:BA)=>
 lw H2 x 1 (pInt .i64) fun(x11:Int)=>
 k00 PP fq79 #[(.string x10),(.int .i64 x11)] H2 pII fun(x12:Int×Int) H13=>
 k02 (x12.2==0)
 (k08 H13 ⟨x,3,none⟩ [(.bool true)] fun H14=>
 k08 H14 ⟨x,4,none⟩ [(.bool true)] fun H15=>
 rk [] H15 R)
 (k00 PP fq237 #[(.int .i64 x12.1)] H13 ⟨Bool×Bool,fun x=>(.tuple #[(.bool x.1),(.bool x.2)])⟩ fun(x16:Bool×Bool) H17=>
 lw H17 x 4 k04 fun(x18:Bool)=>
 k02 x18
 (k08 H17 ⟨x,4,none⟩ [(.bool true)] fun H19=>
 lw H19 x 1 (pInt .i64) fun(x20:Int)=>
 k08 H19 ⟨x,1,none⟩ [(.int .i64 (IntKind.i64.wrap (x20+x12.2)))] fun H21=>
 next3 (()) H21)
 (k02 (!x16.2)
 (k08 H17 ⟨x,4,none⟩ [(.bool true)] fun H22=>
 lw H22 x 1 (pInt .i64) fun(x23:Int)=>
 k08 H22 ⟨x,1,none⟩ [(.int .i64 (IntKind.i64.wrap (x23+x12.2)))] fun H24=>
 next3 (()) H24)
 (k02 (!x16.1)
 (k08 H17 ⟨x,4,none⟩ [(.bool true)] fun H25=>
 lw H25 x 1 (pInt .i64) fun(x26:Int)=>
 k08 H25 ⟨x,1,none⟩ [(.int .i64 (IntKind.i64.wrap (x26+x12.2)))] fun H27=>
 next3 (()) H27)
 (k08 H17 ⟨x,4,none⟩ [(.bool (decide (x12.1≥128)))] fun H28=>
 lw H28 x 1 (pInt .i64) fun(x29:Int)=>
 k08 H28 ⟨x,1,none⟩ [(.int .i64 (IntKind.i64.wrap (x29+x12.2)))] fun H30=>
 next3 (()) H30)))))
 (rk [] H2 R))
 (rk [] H2 R))
 (rk [] H2 R)
theorem k6h.enter (x:Nat) (H:Heap) (R:RR) (h:k6h.W x H R):Fn PP fq217 #[(pq x)] H R:=
 fnE Tryz.func217 ⟨patL [(9,(pInt .i64)),(13,pStr),(20,pStr),(24,(pInt .i64)),(32,pStr),(36,(pInt .i64)),(44,pStr),(48,(pInt .i64)),(49,pII),(62,⟨Bool×Bool,fun x=>(.tuple #[(.bool x.1),(.bool x.2)])⟩),(69,k04),(87,(pInt .i64))],k06 [(0,[])],k03 [],k03 [],k05 []⟩ (by unfold k6h.W;kernel_rfl) h
def k6i.W (x:Nat) (i:Int) (H:Heap) (R:RR):Prop:=
 k0e (Int×Unit) (i,()) H fun z1 H2 next3=>
 k00 PP fq220 #[(pq x),(.int .i64 z1.1)] H2 (pInt .u8) fun(x4:Int) H5=>
 k00 PP fq48 #[(.int .u8 x4)] H5 k04 fun(x6:Bool) H7=>
 k02 x6
 (next3 ((IntKind.i64.wrap (z1.1+1)),()) H7)
 (rk [(.int .i64 z1.1)] H7 R)
theorem k6i.enter (x:Nat) (i:Int) (H:Heap) (R:RR) (h:k6i.W x i H R):Fn PP fq249 #[(pq x),(.int .i64 i)] H R:=
 fnE Tryz.func249 ⟨patL [(7,(pInt .u8)),(8,k04)],k06 [(0,[Slot.int .i64 1])],k03 [],k03 [],k05 []⟩ (by unfold k6i.W;kernel_rfl) h
def k6o.W (x:Nat) (i:Int) (H:Heap) (R:RR):Prop:=
 k00 PP fq220 #[(pq x),(.int .i64 i)] H (pInt .u8) fun(x1:Int) H2=>
 k0d (Int×Unit) (fun J3=>
 k02 (x1==45)
 (J3 ((IntKind.i64.wrap (i+1)),()) H2)
 (J3 (i,()) H2)) fun y4 H5=>
 k00 PP fq249 #[(pq x),(.int .i64 y4.1)] H5 (pInt .i64) fun(x6:Int) H7=>
 k0j (Bool×Unit) H7 (fun J8=>
 k02 (x6==y4.1)
 (J8 (true,()) H7)
 (lw H7 x 0 pStr fun(x10:BA)=>
 ((0:Int)≤y4.1∧y4.1<((x10.size:Nat):Int))∧
 k02 ((bt x10 y4.1)==48)
 (J8 ((decide (x6>(IntKind.i64.wrap (y4.1+1)))),()) H7)
 (J8 (false,()) H7))) fun y9=>
 k02 y9.1
 (rk [(.int .i64 0),(.int .i64 0)] H7 R)
 (k00 PP fq220 #[(pq x),(.int .i64 x6)] H7 (pInt .u8) fun(x11:Int) H12=>
 k0d (Int×Int×Unit) (fun J13=>
 k02 (x11==46)
 (k00 PP fq249 #[(pq x),(.int .i64 (IntKind.i64.wrap (x6+1)))] H12 (pInt .i64) fun(x16:Int) H17=>
 k02 (x16==(IntKind.i64.wrap (x6+1)))
 (rk [(.int .i64 0),(.int .i64 0)] H17 R)
 (J13 (17,x16,()) H17))
 (J13 (16,x6,()) H12)) fun y14 H15=>
 k00 PP fq220 #[(pq x),(.int .i64 y14.2.1)] H15 (pInt .u8) fun(x18:Int) H19=>
 k0j (Bool×Unit) H19 (fun J20=>
 k02 (x18==101)
 (J20 (true,()) H19)
 (J20 ((x18==69),()) H19)) fun y21=>
 k0d (Int×Int×Unit) (fun J22=>
 k02 y21.1
 (k00 PP fq220 #[(pq x),(.int .i64 (IntKind.i64.wrap (y14.2.1+1)))] H19 (pInt .u8) fun(x25:Int) H26=>
 k0j (Bool×Unit) H26 (fun J27=>
 k02 (x25==43)
 (J27 (true,()) H26)
 (J27 ((x25==45),()) H26)) fun y28=>
 k0d (Int×Unit) (fun J29=>
 k02 y28.1
 (J29 ((IntKind.i64.wrap ((IntKind.i64.wrap (y14.2.1+1))+1)),()) H26)
 (J29 ((IntKind.i64.wrap (y14.2.1+1)),()) H26)) fun y30 H31=>
 k00 PP fq249 #[(pq x),(.int .i64 y30.1)] H31 (pInt .i64) fun(x32:Int) H33=>
 k02 (x32==y30.1)
 (rk [(.int .i64 0),(.int .i64 0)] H33 R)
 (J22 (17,x32,()) H33))
 (J22 (y14.1,y14.2.1,()) H19)) fun y23 H24=>
 rk [(.int .i64 y23.1),(.int .i64 y23.2.1)] H24 R)
theorem k6o.enter (x:Nat) (i:Int) (H:Heap) (R:RR) (h:k6o.W x i H R):Fn PP fq238 #[(pq x),(.int .i64 i)] H R:=
 fnE Tryz.func238 ⟨patL [(10,(pInt .u8)),(16,(pInt .i64)),(24,pStr),(37,(pInt .u8)),(44,(pInt .i64)),(50,(pInt .u8)),(61,(pInt .u8)),(72,(pInt .i64))],k06 [],k03 [(11,[Slot.int .i64 1]),(38,[Slot.int .i64 4,Slot.int .i64 5]),(56,[Slot.int .i64 4,Slot.int .i64 5]),(67,[Slot.int .i64 1])],k03 [],k05 [(4,[Slot.bool 34],true),(13,[Slot.bool 56],true),(17,[Slot.bool 67],true)]⟩ (by unfold k6o.W;kernel_rfl) h
def k6n.W (x:Nat) (H:Heap) (R:RR):Prop:=
 lw H x 1 (pInt .i64) fun(x1:Int)=>
 k00 PP fq238 #[(pq x),(.int .i64 x1)] H pII fun(x2:Int×Int) H3=>
 k02 (x2.1==0)
 (k00 PP fq224 #[(pq x)] H3 pUn fun(_:Unit) H5=>
 rk [] H5 R)
 (k00 PP fq220 #[(pq x),(.int .i64 x2.2)] H3 (pInt .u8) fun(x6:Int) H7=>
 k0d (Bool×Unit) (fun J8=>
 k02 (x6==46)
 (J8 (true,()) H7)
 (k00 PP fq47 #[(.int .u8 x6)] H7 k04 fun(x11:Bool) H12=>
 J8 (x11,()) H12)) fun y9 H10=>
 k02 y9.1
 (k08 H10 ⟨x,4,none⟩ [(.bool true)] fun H13=>
 k00 PP fq224 #[(pq x)] H13 pUn fun(_:Unit) H15=>
 rk [] H15 R)
 (lw H10 x 0 pStr fun(x16:BA)=>
 lw H10 x 1 (pInt .i64) fun(x17:Int)=>
 (((0:Int)≤x2.2∧x2.2≤((x16.size:Nat):Int))∧((0:Int)≤x17∧x17≤((x2.2.toNat:Nat):Int)))∧
 k00 PP fq218 #[(pq x),(.int .i64 x2.1),(.int .i64 x2.2),(.string (x16.extract x17.toNat x2.2.toNat))] H10 pUn fun(_:Unit) H19=>
 rk [] H19 R))
theorem k6n.enter (x:Nat) (H:Heap) (R:RR) (h:k6n.W x H R):Fn PP fq221 #[(pq x)] H R:=
 fnE Tryz.func221 ⟨patL [(10,(pInt .i64)),(11,pII),(17,pUn),(20,(pInt .u8)),(25,k04),(31,pUn),(38,pStr),(42,(pInt .i64)),(45,pUn)],k06 [],k03 [],k03 [],k05 [(4,[Slot.bool 26],false)]⟩ (by unfold k6n.W;kernel_rfl) h
def k6j.W (x:Nat) (i:Int) (H:Heap) (R:RR):Prop:=
 k00 PP fq220 #[(pq x),(.int .i64 (IntKind.i64.wrap (i+1)))] H (pInt .u8) fun(x1:Int) H2=>
 k0e (Int×Unit) (0,()) H2 fun z3 H4 next5=>
 k02 (decide (z3.1<(((bs [34,92,47,98,102,110,114,116]).size:Nat):Int)))
 (((0:Int)≤z3.1∧z3.1<(((bs [34,92,47,98,102,110,114,116]).size:Nat):Int))∧
 k02 ((bt (bs [34,92,47,98,102,110,114,116]) z3.1)==x1)
 ((((0:Int)≤(IntKind.i64.wrap (z3.1+1))∧(IntKind.i64.wrap (z3.1+1))≤(((bs [34,92,47,8,12,10,13,9]).size:Nat):Int))∧((0:Int)≤z3.1∧z3.1≤(((IntKind.i64.wrap (z3.1+1)).toNat:Nat):Int)))∧
 rk [(.string ((bs [34,92,47,8,12,10,13,9]).extract z3.1.toNat (IntKind.i64.wrap (z3.1+1)).toNat)),(.int .i64 2)] H4 R)
 (next5 ((IntKind.i64.wrap (z3.1+1)),()) H4))
 (k02 (x1 !=117)
 (rk [sE,(.int .i64 0)] H4 R)
 (k0e (Int×Int×Unit) (0,(IntKind.i64.wrap (i+2)),()) H4 fun z6 H7 next8=>
 k02 (decide (z6.2.1<(IntKind.i64.wrap (i+6))))
 (k00 PP fq220 #[(pq x),(.int .i64 z6.2.1)] H7 (pInt .u8) fun(x9:Int) H10=>
 k00 PP fq250 #[(.int .u8 x9)] H10 (pInt .i64) fun(x11:Int) H12=>
 k02 (decide (x11<0))
 (lw H12 x 4 k04 fun(x13:Bool)=>
 k02 x13
 (k08 H12 ⟨x,4,none⟩ [(.bool true)] fun H14=>
 rk [sE,(.int .i64 0)] H14 R)
 (k00 PP fq220 #[(pq x),(.int .i64 z6.2.1)] H12 (pInt .u8) fun(x15:Int) H16=>
 k08 H16 ⟨x,4,none⟩ [(.bool (x15==123))] fun H17=>
 rk [sE,(.int .i64 0)] H17 R))
 (next8 ((IntKind.i64.wrap ((IntKind.i64.wrap (16*z6.1))+x11)),(IntKind.i64.wrap (z6.2.1+1)),()) H12))
 (k0j (Bool×Unit) H7 (fun J18=>
 k02 (decide (z6.1≥55296))
 (J18 ((decide (z6.1<57344)),()) H7)
 (J18 (false,()) H7)) fun y19=>
 k02 y19.1
 (k08 H7 ⟨x,4,none⟩ [(.bool true)] fun H20=>
 rk [sE,(.int .i64 0)] H20 R)
 (lw H7 x 4 k04 fun(x21:Bool)=>
 k02 x21
 (k08 H7 ⟨x,4,none⟩ [(.bool true)] fun H22=>
 k00 PP fq251 #[(.int .i64 z6.1)] H22 pStr fun(x23:BA) H24=>
 rk [(.string x23),(.int .i64 6)] H24 R)
 (k08 H7 ⟨x,4,none⟩ [(.bool (z6.1==0))] fun H25=>
 k00 PP fq251 #[(.int .i64 z6.1)] H25 pStr fun(x26:BA) H27=>
 rk [(.string x26),(.int .i64 6)] H27 R)))))
theorem k6j.enter (x:Nat) (i:Int) (H:Heap) (R:RR) (h:k6j.W x i H R):Fn PP fq239 #[(pq x),(.int .i64 i)] H R:=
 fnE Tryz.func239 ⟨patL [(16,(pInt .u8)),(45,(pInt .u8)),(46,(pInt .i64)),(53,k04),(57,(pInt .u8)),(79,k04),(87,pStr)],k06 [(0,[Slot.int .i64 9]),(2,[Slot.int .i64 10,Slot.int .i64 11])],k03 [],k03 [],k05 [(20,[Slot.bool 71],true)]⟩ (by unfold k6j.W;kernel_rfl) h
def k6p.W (x:Nat) (H:Heap) (R:RR):Prop:=
 lw H x 1 (pInt .i64) fun(x1:Int)=>
 k0e (BA×Int×Unit) ((bs []),(IntKind.i64.wrap (x1+1)),()) H fun z2 H3 next4=>
 lw H3 x 0 pStr fun(x5:BA)=>
 k02 (decide (z2.2.1<((x5.size:Nat):Int)))
 (lw H3 x 0 pStr fun(x6:BA)=>
 ((0:Int)≤z2.2.1∧z2.2.1<((x6.size:Nat):Int))∧
 k02 ((bt x6 z2.2.1)==34)
 (k00 PP fq218 #[(pq x),(.int .i64 18),(.int .i64 (IntKind.i64.wrap (z2.2.1+1))),(.string z2.1)] H3 pUn fun(_:Unit) H8=>
 rk [] H8 R)
 (k0j (Bool×Unit) H3 (fun J9=>
 k02 ((bt x6 z2.2.1)==10)
 (J9 (true,()) H3)
 (J9 (((bt x6 z2.2.1)==13),()) H3)) fun y10=>
 k02 y10.1
 (k00 PP fq224 #[(pq x)] H3 pUn fun(_:Unit) H12=>
 rk [] H12 R)
 (k02 ((bt x6 z2.2.1)==92)
 (k00 PP fq239 #[(pq x),(.int .i64 z2.2.1)] H3 ⟨BA×Int,fun x=>(.tuple #[(.string x.1),(.int .i64 x.2)])⟩ fun(x13:BA×Int) H14=>
 k02 (x13.2==0)
 (k00 PP fq224 #[(pq x)] H14 pUn fun(_:Unit) H16=>
 rk [] H16 R)
 ((((z2.1.size+x13.1.size:Nat):Int)≤9223372036854775807)∧
 next4 ((z2.1++x13.1),(IntKind.i64.wrap (z2.2.1+x13.2)),()) H14))
 (lw H3 x 0 pStr fun(x17:BA)=>
 k00 PP fq79 #[(.string x17),(.int .i64 z2.2.1)] H3 pII fun(x18:Int×Int) H19=>
 k00 PP fq237 #[(.int .i64 x18.1)] H19 ⟨Bool×Bool,fun x=>(.tuple #[(.bool x.1),(.bool x.2)])⟩ fun(x20:Bool×Bool) H21=>
 k0j (Bool×Unit) H21 (fun J22=>
 k02 (x18.2==0)
 (J22 (true,()) H21)
 (J22 ((!x20.1),()) H21)) fun y23=>
 k02 y23.1
 (lw H21 x 4 k04 fun(x24:Bool)=>
 k02 x24
 (k08 H21 ⟨x,4,none⟩ [(.bool true)] fun H25=>
 k00 PP fq224 #[(pq x)] H25 pUn fun(_:Unit) H27=>
 rk [] H27 R)
 (k08 H21 ⟨x,4,none⟩ [(.bool (x18.2==0))] fun H28=>
 k00 PP fq224 #[(pq x)] H28 pUn fun(_:Unit) H30=>
 rk [] H30 R))
 (lw H21 x 4 k04 fun(x31:Bool)=>
 k02 x31
 (k08 H21 ⟨x,4,none⟩ [(.bool true)] fun H32=>
 lw H32 x 0 pStr fun(x33:BA)=>
 (((0:Int)≤(IntKind.i64.wrap (z2.2.1+x18.2))∧(IntKind.i64.wrap (z2.2.1+x18.2))≤((x33.size:Nat):Int))∧((0:Int)≤z2.2.1∧z2.2.1≤(((IntKind.i64.wrap (z2.2.1+x18.2)).toNat:Nat):Int)))∧
 (((z2.1.size+(x33.extract z2.2.1.toNat (IntKind.i64.wrap (z2.2.1+x18.2)).toNat).size:Nat):Int)≤9223372036854775807)∧
 next4 ((z2.1++(x33.extract z2.2.1.toNat (IntKind.i64.wrap (z2.2.1+x18.2)).toNat)),(IntKind.i64.wrap (z2.2.1+x18.2)),()) H32)
 (k08 H21 ⟨x,4,none⟩ [(.bool (!x20.2))] fun H34=>
 lw H34 x 0 pStr fun(x35:BA)=>
 (((0:Int)≤(IntKind.i64.wrap (z2.2.1+x18.2))∧(IntKind.i64.wrap (z2.2.1+x18.2))≤((x35.size:Nat):Int))∧((0:Int)≤z2.2.1∧z2.2.1≤(((IntKind.i64.wrap (z2.2.1+x18.2)).toNat:Nat):Int)))∧
 (((z2.1.size+(x35.extract z2.2.1.toNat (IntKind.i64.wrap (z2.2.1+x18.2)).toNat).size:Nat):Int)≤9223372036854775807)∧
 next4 ((z2.1++(x35.extract z2.2.1.toNat (IntKind.i64.wrap (z2.2.1+x18.2)).toNat)),(IntKind.i64.wrap (z2.2.1+x18.2)),()) H34))))))
 (k00 PP fq224 #[(pq x)] H3 pUn fun(_:Unit) H37=>
 rk [] H37 R)
theorem k6p.enter (x:Nat) (H:Heap) (R:RR) (h:k6p.W x H R):Fn PP fq223 #[(pq x)] H R:=
 fnE Tryz.func223 ⟨patL [(14,(pInt .i64)),(20,pStr),(26,pStr),(33,pStr),(35,pII),(40,⟨Bool×Bool,fun x=>(.tuple #[(.bool x.1),(.bool x.2)])⟩),(53,k04),(61,pUn),(66,k04),(77,pStr),(94,pUn),(103,pUn),(110,⟨BA×Int,fun x=>(.tuple #[(.string x.1),(.int .i64 x.2)])⟩),(116,pUn),(124,pUn)],k06 [(0,[Slot.str 2,Slot.int .i64 3])],k03 [],k03 [],k05 [(6,[Slot.bool 48],true),(13,[Slot.bool 95],true)]⟩ (by unfold k6p.W;kernel_rfl) h
def k6g.W (x:Nat) (H:Heap) (R:RR):Prop:=
 lw H x 1 (pInt .i64) fun(x1:Int)=>
 k0e (BA×Int×Unit) ((bs []),(IntKind.i64.wrap (x1+3)),()) H fun z2 H3 next4=>
 lw H3 x 0 pStr fun(x5:BA)=>
 k02 (decide (z2.2.1<((x5.size:Nat):Int)))
 (lw H3 x 0 pStr fun(x6:BA)=>
 k00 PP fq80 #[(.string x6),(.int .i64 z2.2.1),(.string (bs [34,34,34]))] H3 k04 fun(x7:Bool) H8=>
 k02 x7
 (lw H8 x 4 k04 fun(x9:Bool)=>
 k02 x9
 (k08 H8 ⟨x,4,none⟩ [(.bool true)] fun H10=>
 k00 PP fq81 #[(.string z2.1)] H10 pStr fun(x11:BA) H12=>
 k00 PP fq218 #[(pq x),(.int .i64 19),(.int .i64 (IntKind.i64.wrap (z2.2.1+3))),(.string x11)] H12 pUn fun(_:Unit) H14=>
 rk [] H14 R)
 (k00 PP fq82 #[(.string z2.1)] H8 k04 fun(x15:Bool) H16=>
 k08 H16 ⟨x,4,none⟩ [(.bool (!x15))] fun H17=>
 k00 PP fq81 #[(.string z2.1)] H17 pStr fun(x18:BA) H19=>
 k00 PP fq218 #[(pq x),(.int .i64 19),(.int .i64 (IntKind.i64.wrap (z2.2.1+3))),(.string x18)] H19 pUn fun(_:Unit) H21=>
 rk [] H21 R))
 (lw H8 x 0 pStr fun(x22:BA)=>
 k00 PP fq80 #[(.string x22),(.int .i64 z2.2.1),(.string (bs [92,34,34,34]))] H8 k04 fun(x23:Bool) H24=>
 k02 x23
 (k08 H24 ⟨x,4,none⟩ [(.bool true)] fun H25=>
 (((z2.1.size+(bs [34,34,34]).size:Nat):Int)≤9223372036854775807)∧
 next4 ((z2.1++(bs [34,34,34])),(IntKind.i64.wrap (z2.2.1+4)),()) H25)
 (lw H24 x 0 pStr fun(x26:BA)=>
 k00 PP fq79 #[(.string x26),(.int .i64 z2.2.1)] H24 pII fun(x27:Int×Int) H28=>
 k00 PP fq237 #[(.int .i64 x27.1)] H28 ⟨Bool×Bool,fun x=>(.tuple #[(.bool x.1),(.bool x.2)])⟩ fun(x29:Bool×Bool) H30=>
 k0j (Bool×Unit) H30 (fun J31=>
 k02 (x27.2==0)
 (J31 (true,()) H30)
 (J31 ((!x29.1),()) H30)) fun y32=>
 k02 y32.1
 (lw H30 x 4 k04 fun(x33:Bool)=>
 k02 x33
 (k08 H30 ⟨x,4,none⟩ [(.bool true)] fun H34=>
 k00 PP fq224 #[(pq x)] H34 pUn fun(_:Unit) H36=>
 rk [] H36 R)
 (k08 H30 ⟨x,4,none⟩ [(.bool (x27.2==0))] fun H37=>
 k00 PP fq224 #[(pq x)] H37 pUn fun(_:Unit) H39=>
 rk [] H39 R))
 (lw H30 x 4 k04 fun(x40:Bool)=>
 k02 x40
 (k08 H30 ⟨x,4,none⟩ [(.bool true)] fun H41=>
 lw H41 x 0 pStr fun(x42:BA)=>
 (((0:Int)≤(IntKind.i64.wrap (z2.2.1+x27.2))∧(IntKind.i64.wrap (z2.2.1+x27.2))≤((x42.size:Nat):Int))∧((0:Int)≤z2.2.1∧z2.2.1≤(((IntKind.i64.wrap (z2.2.1+x27.2)).toNat:Nat):Int)))∧
 (((z2.1.size+(x42.extract z2.2.1.toNat (IntKind.i64.wrap (z2.2.1+x27.2)).toNat).size:Nat):Int)≤9223372036854775807)∧
 next4 ((z2.1++(x42.extract z2.2.1.toNat (IntKind.i64.wrap (z2.2.1+x27.2)).toNat)),(IntKind.i64.wrap (z2.2.1+x27.2)),()) H41)
 (k08 H30 ⟨x,4,none⟩ [(.bool (!x29.2))] fun H43=>
 lw H43 x 0 pStr fun(x44:BA)=>
 (((0:Int)≤(IntKind.i64.wrap (z2.2.1+x27.2))∧(IntKind.i64.wrap (z2.2.1+x27.2))≤((x44.size:Nat):Int))∧((0:Int)≤z2.2.1∧z2.2.1≤(((IntKind.i64.wrap (z2.2.1+x27.2)).toNat:Nat):Int)))∧
 (((z2.1.size+(x44.extract z2.2.1.toNat (IntKind.i64.wrap (z2.2.1+x27.2)).toNat).size:Nat):Int)≤9223372036854775807)∧
 next4 ((z2.1++(x44.extract z2.2.1.toNat (IntKind.i64.wrap (z2.2.1+x27.2)).toNat)),(IntKind.i64.wrap (z2.2.1+x27.2)),()) H43)))))
 (k00 PP fq224 #[(pq x)] H3 pUn fun(_:Unit) H46=>
 rk [] H46 R)
theorem k6g.enter (x:Nat) (H:Heap) (R:RR) (h:k6g.W x H R):Fn PP fq222 #[(pq x)] H R:=
 fnE Tryz.func222 ⟨patL [(11,(pInt .i64)),(17,pStr),(24,pStr),(26,pII),(31,⟨Bool×Bool,fun x=>(.tuple #[(.bool x.1),(.bool x.2)])⟩),(44,k04),(52,pUn),(57,k04),(68,pStr),(82,pStr),(84,k04),(89,k04),(92,k04),(101,pStr),(102,pUn),(107,pStr),(109,k04),(118,pUn)],k06 [(0,[Slot.str 2,Slot.int .i64 3])],k03 [],k03 [],k05 [(5,[Slot.bool 39],true)]⟩ (by unfold k6g.W;kernel_rfl) h
def k6q.W (x:Nat) (H:Heap) (R:RR):Prop:=
 lw H x 0 pStr fun(x1:BA)=>
 lw H x 1 (pInt .i64) fun(x2:Int)=>
 ((0:Int)≤x2∧x2<((x1.size:Nat):Int))∧
 k0j (Bool×Unit) H (fun J3=>
 k02 ((bt x1 x2)==32)
 (J3 (true,()) H)
 (k02 ((bt x1 x2)==9)
 (J3 (true,()) H)
 (k02 ((bt x1 x2)==10)
 (J3 (true,()) H)
 (k02 ((bt x1 x2)==13)
 (J3 (true,()) H)
 (J3 (((bt x1 x2)==44),()) H))))) fun y4=>
 k02 y4.1
 (lw H x 1 (pInt .i64) fun(x5:Int)=>
 k08 H ⟨x,1,none⟩ [(.int .i64 (IntKind.i64.wrap (x5+1)))] fun H6=>
 rk [] H6 R)
 (lw H x 0 pStr fun(x7:BA)=>
 lw H x 1 (pInt .i64) fun(x8:Int)=>
 k00 PP fq80 #[(.string x7),(.int .i64 x8),(.string (bs [239,187,191]))] H k04 fun(x9:Bool) H10=>
 k02 x9
 (k08 H10 ⟨x,4,none⟩ [(.bool true)] fun H11=>
 lw H11 x 1 (pInt .i64) fun(x12:Int)=>
 k08 H11 ⟨x,1,none⟩ [(.int .i64 (IntKind.i64.wrap (x12+3)))] fun H13=>
 rk [] H13 R)
 (k02 ((bt x1 x2)==35)
 (k00 PP fq217 #[(pq x)] H10 pUn fun(_:Unit) H15=>
 rk [] H15 R)
 (lw H10 x 0 pStr fun(x16:BA)=>
 lw H10 x 1 (pInt .i64) fun(x17:Int)=>
 k00 PP fq80 #[(.string x16),(.int .i64 x17),(.string (bs [46,46,46]))] H10 k04 fun(x18:Bool) H19=>
 k02 x18
 (lw H19 x 1 (pInt .i64) fun(x20:Int)=>
 k00 PP fq218 #[(pq x),(.int .i64 6),(.int .i64 (IntKind.i64.wrap (x20+3))),sE] H19 pUn fun(_:Unit) H22=>
 rk [] H22 R)
 (k00 PP fq219 #[(.int .u8 (bt x1 x2))] H19 (pInt .i64) fun(x23:Int) H24=>
 k02 (decide (x23>0))
 (lw H24 x 1 (pInt .i64) fun(x25:Int)=>
 k00 PP fq219 #[(.int .u8 (bt x1 x2))] H24 (pInt .i64) fun(x26:Int) H27=>
 lc H27 x 1 (.int .i64 x25)∧
 k00 PP fq218 #[(pq x),(.int .i64 x26),(.int .i64 (IntKind.i64.wrap (x25+1))),sE] H27 pUn fun(_:Unit) H29=>
 rk [] H29 R)
 (k00 PP fq47 #[(.int .u8 (bt x1 x2))] H24 k04 fun(x30:Bool) H31=>
 k02 x30
 (lw H31 x 1 (pInt .i64) fun(x32:Int)=>
 k0e (Int×Unit) (x32,()) H31 fun z33 H34 next35=>
 k0d (Bool×Unit) (fun J36=>
 k00 PP fq220 #[(pq x),(.int .i64 z33.1)] H34 (pInt .u8) fun(x39:Int) H40=>
 k00 PP fq47 #[(.int .u8 x39)] H40 k04 fun(x41:Bool) H42=>
 k02 x41
 (J36 (true,()) H42)
 (k00 PP fq220 #[(pq x),(.int .i64 z33.1)] H42 (pInt .u8) fun(x43:Int) H44=>
 k00 PP fq48 #[(.int .u8 x43)] H44 k04 fun(x45:Bool) H46=>
 J36 (x45,()) H46)) fun y37 H38=>
 k02 y37.1
 (next35 ((IntKind.i64.wrap (z33.1+1)),()) H38)
 (lw H38 x 0 pStr fun(x47:BA)=>
 lw H38 x 1 (pInt .i64) fun(x48:Int)=>
 (((0:Int)≤z33.1∧z33.1≤((x47.size:Nat):Int))∧((0:Int)≤x48∧x48≤((z33.1.toNat:Nat):Int)))∧
 k00 PP fq218 #[(pq x),(.int .i64 15),(.int .i64 z33.1),(.string (x47.extract x48.toNat z33.1.toNat))] H38 pUn fun(_:Unit) H50=>
 rk [] H50 R))
 (k0d (Bool×Unit) (fun J51=>
 k02 ((bt x1 x2)==45)
 (J51 (true,()) H31)
 (k00 PP fq48 #[(.int .u8 (bt x1 x2))] H31 k04 fun(x54:Bool) H55=>
 J51 (x54,()) H55)) fun y52 H53=>
 k02 y52.1
 (k00 PP fq221 #[(pq x)] H53 pUn fun(_:Unit) H57=>
 rk [] H57 R)
 (lw H53 x 0 pStr fun(x58:BA)=>
 lw H53 x 1 (pInt .i64) fun(x59:Int)=>
 k00 PP fq80 #[(.string x58),(.int .i64 x59),(.string (bs [34,34,34]))] H53 k04 fun(x60:Bool) H61=>
 k02 x60
 (k00 PP fq222 #[(pq x)] H61 pUn fun(_:Unit) H63=>
 rk [] H63 R)
 (k02 ((bt x1 x2)==34)
 (k00 PP fq223 #[(pq x)] H61 pUn fun(_:Unit) H65=>
 rk [] H65 R)
 (k00 PP fq224 #[(pq x)] H61 pUn fun(_:Unit) H67=>
 rk [] H67 R)))))))))
theorem k6q.enter (x:Nat) (H:Heap) (R:RR) (h:k6q.W x H R):Fn PP fq195 #[(pq x)] H R:=
 fnE Tryz.func195 ⟨patL [(7,pStr),(11,(pInt .i64)),(14,pUn),(37,(pInt .i64)),(45,pStr),(49,(pInt .i64)),(50,k04),(57,(pInt .i64)),(65,pUn),(70,pStr),(74,(pInt .i64)),(75,k04),(80,(pInt .i64)),(82,pUn),(85,(pInt .i64)),(89,(pInt .i64)),(93,(pInt .i64)),(95,pUn),(98,k04),(102,(pInt .i64)),(105,(pInt .u8)),(106,k04),(110,(pInt .u8)),(111,k04),(120,pStr),(124,(pInt .i64)),(127,pUn),(133,k04),(136,pUn),(141,pStr),(145,(pInt .i64)),(146,k04),(148,pUn),(153,pUn)],k06 [(1,[Slot.int .i64 3])],k03 [],k03 [],k05 [(2,[Slot.bool 15],true),(15,[Slot.bool 112],false),(18,[Slot.bool 128],false)]⟩ (by unfold k6q.W;kernel_rfl) h
def lexed.W (s:BA) (H:Heap) (R:RR):Prop:=
 newB H (.cells #[(.string s),(.int .i64 0),(.slice none 0 0),(.bool false),(.bool false)] tq326) fun b1 H2=>
 k0e (Unit) (()) H2 fun _z3 H4 next5=>
 lw H4 b1 3 k04 fun(x6:Bool)=>
 k02 (!x6)
 (lw H4 b1 1 (pInt .i64) fun(x7:Int)=>
 k02 (decide (x7<((s.size:Nat):Int)))
 (k00 PP fq195 #[(pq b1)] H4 pUn fun(_:Unit) H9=>
 next5 (()) H9)
 (lw H4 b1 2 pSlc fun(x10:Sl)=>
 lw H4 b1 3 k04 fun(x11:Bool)=>
 lw H4 b1 4 k04 fun(x12:Bool)=>
 rk [(.slice x10.1 x10.2.1 x10.2.2),(.bool (!x11)),(.bool (!x12))] H4 R))
 (lw H4 b1 2 pSlc fun(x13:Sl)=>
 lw H4 b1 3 k04 fun(x14:Bool)=>
 lw H4 b1 4 k04 fun(x15:Bool)=>
 rk [(.slice x13.1 x13.2.1 x13.2.2),(.bool (!x14)),(.bool (!x15))] H4 R)
theorem lexed.enter (s:BA) (H:Heap) (R:RR) (h:lexed.W s H R):Fn PP fq132 #[(.string s)] H R:=
 fnE Tryz.func132 ⟨patL [(12,k04),(18,(pInt .i64)),(24,pUn),(28,pSlc),(32,k04),(37,k04)],k06 [(0,[])],k03 [],k03 [],k05 []⟩ (by unfold lexed.W;kernel_rfl) h
def Lex.W (s:BA) (H:Heap) (R:RR):Prop:=
 k00 PP fq132 #[(.string s)] H ⟨Sl×Bool×Bool,fun x=>(.tuple #[(.slice x.1.1 x.1.2.1 x.1.2.2),(.bool x.2.1),(.bool x.2.2)])⟩ fun(x1:Sl×Bool×Bool) H2=>
 k02 (!x1.2.1)
 (rk [(.slice none 0 0),(.bool false),(.bool x1.2.2)] H2 R)
 (rk [(.slice x1.1.1 x1.1.2.1 x1.1.2.2),(.bool true),(.bool x1.2.2)] H2 R)
theorem Lex.enter (s:BA) (H:Heap) (R:RR) (h:Lex.W s H R):Fn PP fq78 #[(.string s)] H R:=
 fnE Tryz.func78 (hz [(7,⟨Sl×Bool×Bool,fun x=>(.tuple #[(.slice x.1.1 x.1.2.1 x.1.2.2),(.bool x.2.1),(.bool x.2.2)])⟩)]) (by unfold Lex.W;kernel_rfl) h
def IsNumber.W (s:BA) (kind:Int) (H:Heap) (R:RR):Prop:=
 k00 PP fq78 #[(.string s)] H ⟨Sl×Bool×Bool,fun x=>(.tuple #[(.slice x.1.1 x.1.2.1 x.1.2.2),(.bool x.2.1),(.bool x.2.2)])⟩ fun(x1:Sl×Bool×Bool) H2=>
 k02 x1.2.1
 (k02 x1.2.2
 (k02 (((x1.1.2.1:Nat):Int)==1)
 ((IxOk x1.1.1 0 x1.1.2.1)∧
 k01 H2 false 1 ⟨(k0c x1.1.1),(k0b x1.1.1+(0:Int).toNat*4),none⟩ (pInt .i64) fun(x3:Int)=>
 k02 (x3==kind)
 ((IxOk x1.1.1 0 x1.1.2.1)∧
 k01 H2 false 1 ⟨(k0c x1.1.1),((k0b x1.1.1+(0:Int).toNat*4)+1),none⟩ pStr fun(x4:BA)=>
 rk [(.bool (x4.toList==s.toList))] H2 R)
 (rk [(.bool false)] H2 R))
 (rk [(.bool false)] H2 R))
 (rk [(.bool false)] H2 R))
 (rk [(.bool false)] H2 R)
theorem IsNumber.enter (s:BA) (kind:Int) (H:Heap) (R:RR) (h:IsNumber.W s kind H R):Fn PP fq50 #[(.string s),(.int .i64 kind)] H R:=
 fnE Tryz.func50 (hz [(10,⟨Sl×Bool×Bool,fun x=>(.tuple #[(.slice x.1.1 x.1.2.1 x.1.2.2),(.bool x.2.1),(.bool x.2.2)])⟩),(27,(pInt .i64)),(35,pStr)]) (by unfold IsNumber.W;kernel_rfl) h
def formed.W (n:Nd) (H:Heap) (R:RR):Prop:=
 newB H (.cells #[(.int .i64 n.kind),(.string n.name),(.string n.alias),(.string n.text),(.int .i64 n.flag),(.int .i64 n.size)] tq41) fun b1 H2=>
 k0d (Bool×Unit) (fun J3=>
 lw H2 b1 2 pStr fun(x6:BA)=>
 k02 (!(x6.toList==(bs []).toList))
 (lw H2 b1 0 (pInt .i64) fun(x7:Int)=>
 k02 (x7 !=6)
 (J3 (true,()) H2)
 (lw H2 b1 2 pStr fun(x8:BA)=>
 k00 PP fq49 #[(.string x8)] H2 k04 fun(x9:Bool) H10=>
 J3 ((!x9),()) H10))
 (J3 (false,()) H2)) fun y4 H5=>
 k02 y4.1
 (rk [(.bool false)] H5 R)
 (lw H5 b1 0 (pInt .i64) fun(x11:Int)=>
 k02 (x11==1)
 (lw H5 b1 1 pStr fun(x12:BA)=>
 k02 (x12.toList==(bs []).toList)
 (lw H5 b1 3 pStr fun(x13:BA)=>
 k02 (x13.toList==(bs []).toList)
 (lw H5 b1 4 (pInt .i64) fun(x14:Int)=>
 rk [(.bool (x14==0))] H5 R)
 (rk [(.bool false)] H5 R))
 (rk [(.bool false)] H5 R))
 (k02 (x11==5)
 (lw H5 b1 1 pStr fun(x15:BA)=>
 k02 (x15.toList==(bs []).toList)
 (lw H5 b1 3 pStr fun(x16:BA)=>
 k02 (x16.toList==(bs []).toList)
 (lw H5 b1 4 (pInt .i64) fun(x17:Int)=>
 rk [(.bool (x17==0))] H5 R)
 (rk [(.bool false)] H5 R))
 (rk [(.bool false)] H5 R))
 (k02 (x11==17)
 (lw H5 b1 1 pStr fun(x18:BA)=>
 k02 (x18.toList==(bs []).toList)
 (lw H5 b1 3 pStr fun(x19:BA)=>
 k02 (x19.toList==(bs []).toList)
 (lw H5 b1 4 (pInt .i64) fun(x20:Int)=>
 rk [(.bool (x20==0))] H5 R)
 (rk [(.bool false)] H5 R))
 (rk [(.bool false)] H5 R))
 (k02 (x11==18)
 (lw H5 b1 1 pStr fun(x21:BA)=>
 k02 (x21.toList==(bs []).toList)
 (lw H5 b1 3 pStr fun(x22:BA)=>
 k02 (x22.toList==(bs []).toList)
 (lw H5 b1 4 (pInt .i64) fun(x23:Int)=>
 rk [(.bool (x23==0))] H5 R)
 (rk [(.bool false)] H5 R))
 (rk [(.bool false)] H5 R))
 (k02 (x11==21)
 (lw H5 b1 1 pStr fun(x24:BA)=>
 k02 (x24.toList==(bs []).toList)
 (lw H5 b1 3 pStr fun(x25:BA)=>
 k02 (x25.toList==(bs []).toList)
 (lw H5 b1 4 (pInt .i64) fun(x26:Int)=>
 rk [(.bool (x26==0))] H5 R)
 (rk [(.bool false)] H5 R))
 (rk [(.bool false)] H5 R))
 (k02 (x11==22)
 (lw H5 b1 1 pStr fun(x27:BA)=>
 k02 (x27.toList==(bs []).toList)
 (lw H5 b1 3 pStr fun(x28:BA)=>
 k02 (x28.toList==(bs []).toList)
 (lw H5 b1 4 (pInt .i64) fun(x29:Int)=>
 rk [(.bool (x29==0))] H5 R)
 (rk [(.bool false)] H5 R))
 (rk [(.bool false)] H5 R))
 (k02 (x11==24)
 (lw H5 b1 1 pStr fun(x30:BA)=>
 k02 (x30.toList==(bs []).toList)
 (lw H5 b1 3 pStr fun(x31:BA)=>
 k02 (x31.toList==(bs []).toList)
 (lw H5 b1 4 (pInt .i64) fun(x32:Int)=>
 rk [(.bool (x32==0))] H5 R)
 (rk [(.bool false)] H5 R))
 (rk [(.bool false)] H5 R))
 (k02 (x11==39)
 (lw H5 b1 1 pStr fun(x33:BA)=>
 k02 (x33.toList==(bs []).toList)
 (lw H5 b1 3 pStr fun(x34:BA)=>
 k02 (x34.toList==(bs []).toList)
 (lw H5 b1 4 (pInt .i64) fun(x35:Int)=>
 rk [(.bool (x35==0))] H5 R)
 (rk [(.bool false)] H5 R))
 (rk [(.bool false)] H5 R))
 (k02 (x11==2)
 (lw H5 b1 3 pStr fun(x36:BA)=>
 k02 (x36.toList==(bs [113,117,101,114,121]).toList)
 (lw H5 b1 1 pStr fun(x37:BA)=>
 k02 (x37.toList==(bs []).toList)
 (lw H5 b1 4 (pInt .i64) fun(x38:Int)=>
 k02 (x38==0)
 (rk [(.bool true)] H5 R)
 (lw H5 b1 4 (pInt .i64) fun(x39:Int)=>
 k02 (x39==1)
 (lw H5 b1 3 pStr fun(x40:BA)=>
 k02 (x40.toList==(bs [113,117,101,114,121]).toList)
 (lw H5 b1 1 pStr fun(x41:BA)=>
 rk [(.bool (x41.toList==(bs []).toList))] H5 R)
 (rk [(.bool false)] H5 R))
 (rk [(.bool false)] H5 R)))
 (lw H5 b1 1 pStr fun(x42:BA)=>
 k00 PP fq49 #[(.string x42)] H5 k04 fun(x43:Bool) H44=>
 k02 x43
 (lw H44 b1 4 (pInt .i64) fun(x45:Int)=>
 k02 (x45==0)
 (rk [(.bool true)] H44 R)
 (lw H44 b1 4 (pInt .i64) fun(x46:Int)=>
 k02 (x46==1)
 (lw H44 b1 3 pStr fun(x47:BA)=>
 k02 (x47.toList==(bs [113,117,101,114,121]).toList)
 (lw H44 b1 1 pStr fun(x48:BA)=>
 rk [(.bool (x48.toList==(bs []).toList))] H44 R)
 (rk [(.bool false)] H44 R))
 (rk [(.bool false)] H44 R)))
 (rk [(.bool false)] H44 R)))
 (lw H5 b1 3 pStr fun(x49:BA)=>
 k02 (x49.toList==(bs [109,117,116,97,116,105,111,110]).toList)
 (lw H5 b1 1 pStr fun(x50:BA)=>
 k02 (x50.toList==(bs []).toList)
 (lw H5 b1 4 (pInt .i64) fun(x51:Int)=>
 k02 (x51==0)
 (rk [(.bool true)] H5 R)
 (lw H5 b1 4 (pInt .i64) fun(x52:Int)=>
 k02 (x52==1)
 (lw H5 b1 3 pStr fun(x53:BA)=>
 k02 (x53.toList==(bs [113,117,101,114,121]).toList)
 (lw H5 b1 1 pStr fun(x54:BA)=>
 rk [(.bool (x54.toList==(bs []).toList))] H5 R)
 (rk [(.bool false)] H5 R))
 (rk [(.bool false)] H5 R)))
 (lw H5 b1 1 pStr fun(x55:BA)=>
 k00 PP fq49 #[(.string x55)] H5 k04 fun(x56:Bool) H57=>
 k02 x56
 (lw H57 b1 4 (pInt .i64) fun(x58:Int)=>
 k02 (x58==0)
 (rk [(.bool true)] H57 R)
 (lw H57 b1 4 (pInt .i64) fun(x59:Int)=>
 k02 (x59==1)
 (lw H57 b1 3 pStr fun(x60:BA)=>
 k02 (x60.toList==(bs [113,117,101,114,121]).toList)
 (lw H57 b1 1 pStr fun(x61:BA)=>
 rk [(.bool (x61.toList==(bs []).toList))] H57 R)
 (rk [(.bool false)] H57 R))
 (rk [(.bool false)] H57 R)))
 (rk [(.bool false)] H57 R)))
 (lw H5 b1 3 pStr fun(x62:BA)=>
 k02 (x62.toList==(bs [115,117,98,115,99,114,105,112,116,105,111,110]).toList)
 (lw H5 b1 1 pStr fun(x63:BA)=>
 k02 (x63.toList==(bs []).toList)
 (lw H5 b1 4 (pInt .i64) fun(x64:Int)=>
 k02 (x64==0)
 (rk [(.bool true)] H5 R)
 (lw H5 b1 4 (pInt .i64) fun(x65:Int)=>
 k02 (x65==1)
 (lw H5 b1 3 pStr fun(x66:BA)=>
 k02 (x66.toList==(bs [113,117,101,114,121]).toList)
 (lw H5 b1 1 pStr fun(x67:BA)=>
 rk [(.bool (x67.toList==(bs []).toList))] H5 R)
 (rk [(.bool false)] H5 R))
 (rk [(.bool false)] H5 R)))
 (lw H5 b1 1 pStr fun(x68:BA)=>
 k00 PP fq49 #[(.string x68)] H5 k04 fun(x69:Bool) H70=>
 k02 x69
 (lw H70 b1 4 (pInt .i64) fun(x71:Int)=>
 k02 (x71==0)
 (rk [(.bool true)] H70 R)
 (lw H70 b1 4 (pInt .i64) fun(x72:Int)=>
 k02 (x72==1)
 (lw H70 b1 3 pStr fun(x73:BA)=>
 k02 (x73.toList==(bs [113,117,101,114,121]).toList)
 (lw H70 b1 1 pStr fun(x74:BA)=>
 rk [(.bool (x74.toList==(bs []).toList))] H70 R)
 (rk [(.bool false)] H70 R))
 (rk [(.bool false)] H70 R)))
 (rk [(.bool false)] H70 R)))
 (rk [(.bool false)] H5 R))))
 (k02 (x11==3)
 (lw H5 b1 1 pStr fun(x75:BA)=>
 k00 PP fq49 #[(.string x75)] H5 k04 fun(x76:Bool) H77=>
 k02 x76
 (lw H77 b1 1 pStr fun(x78:BA)=>
 k02 (!(x78.toList==(bs [111,110]).toList))
 (lw H77 b1 3 pStr fun(x79:BA)=>
 k00 PP fq49 #[(.string x79)] H77 k04 fun(x80:Bool) H81=>
 k02 x80
 (lw H81 b1 4 (pInt .i64) fun(x82:Int)=>
 rk [(.bool (x82==0))] H81 R)
 (rk [(.bool false)] H81 R))
 (rk [(.bool false)] H77 R))
 (rk [(.bool false)] H77 R))
 (k02 (x11==7)
 (lw H5 b1 1 pStr fun(x83:BA)=>
 k00 PP fq49 #[(.string x83)] H5 k04 fun(x84:Bool) H85=>
 k02 x84
 (lw H85 b1 1 pStr fun(x86:BA)=>
 k02 (!(x86.toList==(bs [111,110]).toList))
 (lw H85 b1 3 pStr fun(x87:BA)=>
 k02 (x87.toList==(bs []).toList)
 (lw H85 b1 4 (pInt .i64) fun(x88:Int)=>
 rk [(.bool (x88==0))] H85 R)
 (rk [(.bool false)] H85 R))
 (rk [(.bool false)] H85 R))
 (rk [(.bool false)] H85 R))
 (k02 (x11==8)
 (lw H5 b1 1 pStr fun(x89:BA)=>
 k02 (x89.toList==(bs []).toList)
 (lw H5 b1 3 pStr fun(x90:BA)=>
 k02 (x90.toList==(bs []).toList)
 (lw H5 b1 4 (pInt .i64) fun(x91:Int)=>
 rk [(.bool (x91==0))] H5 R)
 (lw H5 b1 3 pStr fun(x92:BA)=>
 k00 PP fq49 #[(.string x92)] H5 k04 fun(x93:Bool) H94=>
 k02 x93
 (lw H94 b1 4 (pInt .i64) fun(x95:Int)=>
 rk [(.bool (x95==0))] H94 R)
 (rk [(.bool false)] H94 R)))
 (rk [(.bool false)] H5 R))
 (k02 (x11==12)
 (lw H5 b1 1 pStr fun(x96:BA)=>
 k02 (x96.toList==(bs []).toList)
 (lw H5 b1 4 (pInt .i64) fun(x97:Int)=>
 k02 (x97==0)
 (lw H5 b1 3 pStr fun(x98:BA)=>
 lw H5 b1 0 (pInt .i64) fun(x99:Int)=>
 k00 PP fq50 #[(.string x98),(.int .i64 (IntKind.i64.wrap ((IntKind.i64.wrap (16+x99)) -12)))] H5 k04 fun(x100:Bool) H101=>
 rk [(.bool x100)] H101 R)
 (rk [(.bool false)] H5 R))
 (rk [(.bool false)] H5 R))
 (k02 (x11==13)
 (lw H5 b1 1 pStr fun(x102:BA)=>
 k02 (x102.toList==(bs []).toList)
 (lw H5 b1 4 (pInt .i64) fun(x103:Int)=>
 k02 (x103==0)
 (lw H5 b1 3 pStr fun(x104:BA)=>
 lw H5 b1 0 (pInt .i64) fun(x105:Int)=>
 k00 PP fq50 #[(.string x104),(.int .i64 (IntKind.i64.wrap ((IntKind.i64.wrap (16+x105)) -12)))] H5 k04 fun(x106:Bool) H107=>
 rk [(.bool x106)] H107 R)
 (rk [(.bool false)] H5 R))
 (rk [(.bool false)] H5 R))
 (k02 (x11==14)
 (lw H5 b1 1 pStr fun(x108:BA)=>
 k02 (x108.toList==(bs []).toList)
 (lw H5 b1 4 (pInt .i64) fun(x109:Int)=>
 k02 (x109==0)
 (lw H5 b1 3 pStr fun(x110:BA)=>
 k00 PP fq51 #[(.string x110)] H5 k04 fun(x111:Bool) H112=>
 k02 x111
 (rk [(.bool true)] H112 R)
 (lw H112 b1 4 (pInt .i64) fun(x113:Int)=>
 k02 (x113==1)
 (lw H112 b1 3 pStr fun(x114:BA)=>
 k00 PP fq52 #[(.string x114)] H112 k04 fun(x115:Bool) H116=>
 rk [(.bool x115)] H116 R)
 (rk [(.bool false)] H112 R)))
 (lw H5 b1 4 (pInt .i64) fun(x117:Int)=>
 k02 (x117==1)
 (lw H5 b1 3 pStr fun(x118:BA)=>
 k00 PP fq52 #[(.string x118)] H5 k04 fun(x119:Bool) H120=>
 rk [(.bool x119)] H120 R)
 (rk [(.bool false)] H5 R)))
 (rk [(.bool false)] H5 R))
 (k02 (x11==23)
 (lw H5 b1 1 pStr fun(x121:BA)=>
 k02 (x121.toList==(bs []).toList)
 (lw H5 b1 4 (pInt .i64) fun(x122:Int)=>
 k02 (x122==0)
 (lw H5 b1 3 pStr fun(x123:BA)=>
 k00 PP fq51 #[(.string x123)] H5 k04 fun(x124:Bool) H125=>
 k02 x124
 (rk [(.bool true)] H125 R)
 (lw H125 b1 4 (pInt .i64) fun(x126:Int)=>
 k02 (x126==1)
 (lw H125 b1 3 pStr fun(x127:BA)=>
 k00 PP fq52 #[(.string x127)] H125 k04 fun(x128:Bool) H129=>
 rk [(.bool x128)] H129 R)
 (rk [(.bool false)] H125 R)))
 (lw H5 b1 4 (pInt .i64) fun(x130:Int)=>
 k02 (x130==1)
 (lw H5 b1 3 pStr fun(x131:BA)=>
 k00 PP fq52 #[(.string x131)] H5 k04 fun(x132:Bool) H133=>
 rk [(.bool x132)] H133 R)
 (rk [(.bool false)] H5 R)))
 (rk [(.bool false)] H5 R))
 (k02 (x11==15)
 (lw H5 b1 1 pStr fun(x134:BA)=>
 k02 (x134.toList==(bs []).toList)
 (lw H5 b1 3 pStr fun(x135:BA)=>
 k02 (x135.toList==(bs []).toList)
 (lw H5 b1 4 (pInt .i64) fun(x136:Int)=>
 k02 (x136==0)
 (rk [(.bool true)] H5 R)
 (lw H5 b1 4 (pInt .i64) fun(x137:Int)=>
 rk [(.bool (x137==1))] H5 R))
 (rk [(.bool false)] H5 R))
 (rk [(.bool false)] H5 R))
 (k02 (x11==16)
 (lw H5 b1 1 pStr fun(x138:BA)=>
 k00 PP fq49 #[(.string x138)] H5 k04 fun(x139:Bool) H140=>
 k02 x139
 (lw H140 b1 1 pStr fun(x141:BA)=>
 k02 (!(x141.toList==(bs [116,114,117,101]).toList))
 (lw H140 b1 1 pStr fun(x142:BA)=>
 k02 (!(x142.toList==(bs [102,97,108,115,101]).toList))
 (lw H140 b1 1 pStr fun(x143:BA)=>
 k02 (!(x143.toList==(bs [110,117,108,108]).toList))
 (lw H140 b1 3 pStr fun(x144:BA)=>
 k02 (x144.toList==(bs []).toList)
 (lw H140 b1 4 (pInt .i64) fun(x145:Int)=>
 rk [(.bool (x145==0))] H140 R)
 (rk [(.bool false)] H140 R))
 (rk [(.bool false)] H140 R))
 (rk [(.bool false)] H140 R))
 (rk [(.bool false)] H140 R))
 (rk [(.bool false)] H140 R))
 (k02 (x11==35)
 (lw H5 b1 1 pStr fun(x146:BA)=>
 k00 PP fq49 #[(.string x146)] H5 k04 fun(x147:Bool) H148=>
 k02 x147
 (lw H148 b1 1 pStr fun(x149:BA)=>
 k02 (!(x149.toList==(bs [116,114,117,101]).toList))
 (lw H148 b1 1 pStr fun(x150:BA)=>
 k02 (!(x150.toList==(bs [102,97,108,115,101]).toList))
 (lw H148 b1 1 pStr fun(x151:BA)=>
 k02 (!(x151.toList==(bs [110,117,108,108]).toList))
 (lw H148 b1 3 pStr fun(x152:BA)=>
 k02 (x152.toList==(bs []).toList)
 (lw H148 b1 4 (pInt .i64) fun(x153:Int)=>
 rk [(.bool (x153==0))] H148 R)
 (rk [(.bool false)] H148 R))
 (rk [(.bool false)] H148 R))
 (rk [(.bool false)] H148 R))
 (rk [(.bool false)] H148 R))
 (rk [(.bool false)] H148 R))
 (k02 (x11==25)
 (lw H5 b1 3 pStr fun(x154:BA)=>
 k02 (x154.toList==(bs [113,117,101,114,121]).toList)
 (lw H5 b1 1 pStr fun(x155:BA)=>
 k00 PP fq49 #[(.string x155)] H5 k04 fun(x156:Bool) H157=>
 k02 x156
 (lw H157 b1 4 (pInt .i64) fun(x158:Int)=>
 rk [(.bool (x158==0))] H157 R)
 (rk [(.bool false)] H157 R))
 (lw H5 b1 3 pStr fun(x159:BA)=>
 k02 (x159.toList==(bs [109,117,116,97,116,105,111,110]).toList)
 (lw H5 b1 1 pStr fun(x160:BA)=>
 k00 PP fq49 #[(.string x160)] H5 k04 fun(x161:Bool) H162=>
 k02 x161
 (lw H162 b1 4 (pInt .i64) fun(x163:Int)=>
 rk [(.bool (x163==0))] H162 R)
 (rk [(.bool false)] H162 R))
 (lw H5 b1 3 pStr fun(x164:BA)=>
 k02 (x164.toList==(bs [115,117,98,115,99,114,105,112,116,105,111,110]).toList)
 (lw H5 b1 1 pStr fun(x165:BA)=>
 k00 PP fq49 #[(.string x165)] H5 k04 fun(x166:Bool) H167=>
 k02 x166
 (lw H167 b1 4 (pInt .i64) fun(x168:Int)=>
 rk [(.bool (x168==0))] H167 R)
 (rk [(.bool false)] H167 R))
 (rk [(.bool false)] H5 R))))
 (lw H5 b1 0 (pInt .i64) fun(x169:Int)=>
 k02 (decide (x169≥1))
 (lw H5 b1 0 (pInt .i64) fun(x170:Int)=>
 k02 (decide (x170≤39))
 (lw H5 b1 1 pStr fun(x171:BA)=>
 k00 PP fq49 #[(.string x171)] H5 k04 fun(x172:Bool) H173=>
 k02 x172
 (lw H173 b1 3 pStr fun(x174:BA)=>
 k02 (x174.toList==(bs []).toList)
 (lw H173 b1 4 (pInt .i64) fun(x175:Int)=>
 rk [(.bool (x175==0))] H173 R)
 (rk [(.bool false)] H173 R))
 (rk [(.bool false)] H173 R))
 (rk [(.bool false)] H5 R))
 (rk [(.bool false)] H5 R))))))))))))))))))))))
theorem formed.enter (n:Nd) (H:Heap) (R:RR) (h:formed.W n H R):Fn PP fq35 #[(.agg #[(.int .i64 n.kind),(.string n.name),(.string n.alias),(.string n.text),(.int .i64 n.flag),(.int .i64 n.size)])] H R:=
 fnE Tryz.func35 ⟨patL [(5,pStr),(9,(pInt .i64)),(13,pStr),(14,k04),(19,(pInt .i64)),(30,pStr),(34,pStr),(39,(pInt .i64)),(45,pStr),(49,pStr),(54,pStr),(60,pStr),(64,pStr),(65,k04),(70,(pInt .i64)),(74,(pInt .i64)),(78,pStr),(83,pStr),(91,pStr),(92,k04),(95,pStr),(100,pStr),(101,k04),(105,(pInt .i64)),(111,pStr),(112,k04),(115,pStr),(120,pStr),(125,(pInt .i64)),(131,pStr),(135,pStr),(139,pStr),(140,k04),(145,(pInt .i64)),(152,pStr),(156,(pInt .i64)),(161,pStr),(163,(pInt .i64)),(166,k04),(172,pStr),(176,(pInt .i64)),(180,pStr),(181,k04),(185,(pInt .i64)),(189,pStr),(190,k04),(197,pStr),(201,pStr),(206,(pInt .i64)),(210,(pInt .i64)),(218,pStr),(219,k04),(222,pStr),(227,pStr),(232,pStr),(237,pStr),(242,(pInt .i64)),(248,pStr),(252,pStr),(257,pStr),(262,pStr),(263,k04),(267,(pInt .i64)),(271,(pInt .i64)),(275,(pInt .i64)),(280,pStr),(281,k04),(285,pStr),(290,(pInt .i64))],k06 [],k03 [],k03 [],k05 [(1,[Slot.bool 17],false)]⟩ (by unfold formed.W;kernel_rfl) h
def sized.W (d dO dN dC:Nat) (i:Int) (e:Int) (deep:Int) (H:Heap) (R:RR):Prop:=
 (IxOk (some ⟨d,dO,none⟩) i dN)∧
 k01 H false 1 ⟨d,((dO+i.toNat*6)+5),none⟩ (pInt .i64) fun(x1:Int)=>
 k02 (decide (x1<1))
 (rk [(.bool false)] H R)
 (k02 (decide (x1>(IntKind.i64.wrap (e -i))))
 (rk [(.bool false)] H R)
 (k02 (decide (deep>40))
 (rk [(.bool false)] H R)
 (k0e (Int×Unit) ((IntKind.i64.wrap (i+1)),()) H fun z2 H3 next4=>
 k02 (decide (z2.1<(IntKind.i64.wrap (i+x1))))
 (k00 PP fq34 #[(.slice (some ⟨d,dO,none⟩) dN dC),(.int .i64 z2.1),(.int .i64 (IntKind.i64.wrap (i+x1))),(.int .i64 (IntKind.i64.wrap (deep+1)))] H3 k04 fun(x5:Bool) H6=>
 k02 (!x5)
 (rk [(.bool false)] H6 R)
 ((IxOk (some ⟨d,dO,none⟩) z2.1 dN)∧
 k01 H6 false 1 ⟨d,((dO+z2.1.toNat*6)+5),none⟩ (pInt .i64) fun(x7:Int)=>
 next4 ((IntKind.i64.wrap (z2.1+x7)),()) H6))
 (rk [(.bool true)] H3 R))))
theorem sized.enter (d dO dN dC:Nat) (i:Int) (e:Int) (deep:Int) (H:Heap) (R:RR) (h:sized.W d dO dN dC i e deep H R):Fn PP fq34 #[(.slice (some ⟨d,dO,none⟩) dN dC),(.int .i64 i),(.int .i64 e),(.int .i64 deep)] H R:=
 fnE Tryz.func34 ⟨patL [(15,(pInt .i64)),(43,k04),(50,(pInt .i64))],k06 [(0,[Slot.int .i64 10])],k03 [],k03 [],k05 []⟩ (by unfold sized.W;kernel_rfl) h
def Kids.W (d dO dN _dC:Nat) (i:Int) (H:Heap) (R:RR):Prop:=
 k0e (Sl×Int×Unit) ((none,0,0),(IntKind.i64.wrap (i+1)),()) H fun z1 H2 next3=>
 (IxOk (some ⟨d,dO,none⟩) i dN)∧
 k01 H2 false 1 ⟨d,((dO+i.toNat*6)+5),none⟩ (pInt .i64) fun(x4:Int)=>
 k02 (decide (z1.2.1<(IntKind.i64.wrap (i+x4))))
 (newB H2 (.cells #[(.int .i64 z1.2.1)] tq3) fun b5 H6=>
 appK H6 tq3 1 8 z1.1.1 z1.1.2.1 z1.1.2.2 (some ⟨b5,0,none⟩) 1 fun a7 c8 H9=>
 (IxOk (some ⟨d,dO,none⟩) z1.2.1 dN)∧
 k01 H9 false 1 ⟨d,((dO+z1.2.1.toNat*6)+5),none⟩ (pInt .i64) fun(x10:Int)=>
 next3 ((a7,(z1.1.2.1+1),c8),(IntKind.i64.wrap (z1.2.1+x10)),()) H9)
 (rk [(.slice z1.1.1 z1.1.2.1 z1.1.2.2)] H2 R)
theorem Kids.enter (d dO dN dC:Nat) (i:Int) (H:Heap) (R:RR) (h:Kids.W d dO dN dC i H R):Fn PP fq26 #[(.slice (some ⟨d,dO,none⟩) dN dC),(.int .i64 i)] H R:=
 fnE Tryz.func26 ⟨patL [(15,(pInt .i64)),(23,(pInt .i64))],k06 [(0,[Slot.slc 5,Slot.int .i64 6])],k03 [],k03 [],k05 []⟩ (by unfold Kids.W;kernel_rfl) h
def KidsOf.W (d dO dN dC:Nat) (i:Int) (kind:Int) (H:Heap) (R:RR):Prop:=
 k00 PP fq26 #[(.slice (some ⟨d,dO,none⟩) dN dC),(.int .i64 i)] H pSlc fun(x1:Sl) H2=>
 k0e (Sl×Int×Unit) ((none,0,0),0,()) H2 fun z3 H4 next5=>
 k02 (decide (z3.2.1<((x1.2.1:Nat):Int)))
 ((IxOk x1.1 z3.2.1 x1.2.1)∧
 k01 H4 false 1 ⟨(k0c x1.1),(k0b x1.1+z3.2.1.toNat*1),none⟩ (pInt .i64) fun(x6:Int)=>
 (IxOk (some ⟨d,dO,none⟩) x6 dN)∧
 k01 H4 false 1 ⟨d,(dO+x6.toNat*6),none⟩ (pInt .i64) fun(x7:Int)=>
 k02 (x7==kind)
 ((IxOk x1.1 z3.2.1 x1.2.1)∧
 k01 H4 false 1 ⟨(k0c x1.1),(k0b x1.1+z3.2.1.toNat*1),none⟩ (pInt .i64) fun(x8:Int)=>
 newB H4 (.cells #[(.int .i64 x8)] tq3) fun b9 H10=>
 appK H10 tq3 1 8 z3.1.1 z3.1.2.1 z3.1.2.2 (some ⟨b9,0,none⟩) 1 fun a11 c12 H13=>
 next5 ((a11,(z3.1.2.1+1),c12),(IntKind.i64.wrap (z3.2.1+1)),()) H13)
 (next5 ((z3.1.1,z3.1.2.1,z3.1.2.2),(IntKind.i64.wrap (z3.2.1+1)),()) H4))
 (rk [(.slice z3.1.1 z3.1.2.1 z3.1.2.2)] H4 R)
theorem KidsOf.enter (d dO dN dC:Nat) (i:Int) (kind:Int) (H:Heap) (R:RR) (h:KidsOf.W d dO dN dC i kind H R):Fn PP fq20 #[(.slice (some ⟨d,dO,none⟩) dN dC),(.int .i64 i),(.int .i64 kind)] H R:=
 fnE Tryz.func20 ⟨patL [(12,pSlc),(23,(pInt .i64)),(26,(pInt .i64)),(33,(pInt .i64))],k06 [(0,[Slot.slc 7,Slot.int .i64 9])],k03 [],k03 [],k05 []⟩ (by unfold KidsOf.W;kernel_rfl) h
def KidOf.W (d dO dN dC:Nat) (i:Int) (kind:Int) (H:Heap) (R:RR):Prop:=
 k00 PP fq20 #[(.slice (some ⟨d,dO,none⟩) dN dC),(.int .i64 i),(.int .i64 kind)] H pSlc fun(x1:Sl) H2=>
 k02 (((x1.2.1:Nat):Int)==0)
 (rk [(.int .i64 (-1))] H2 R)
 ((IxOk x1.1 0 x1.2.1)∧
 k01 H2 false 1 ⟨(k0c x1.1),(k0b x1.1+(0:Int).toNat*1),none⟩ (pInt .i64) fun(x3:Int)=>
 rk [(.int .i64 x3)] H2 R)
theorem KidOf.enter (d dO dN dC:Nat) (i:Int) (kind:Int) (H:Heap) (R:RR) (h:KidOf.W d dO dN dC i kind H R):Fn PP fq19 #[(.slice (some ⟨d,dO,none⟩) dN dC),(.int .i64 i),(.int .i64 kind)] H R:=
 fnE Tryz.func19 (hz [(11,pSlc),(17,(pInt .i64))]) (by unfold KidOf.W;kernel_rfl) h
def k6J.W (r:Nat) (kinds kindsO kindsN _kindsC:Nat) (H:Heap) (R:RR):Prop:=
 k08 H ⟨r,2,none⟩ [(.int .i64 0)] fun H1=>
 k0e (Unit) (()) H1 fun _z2 H3 next4=>
 lw H3 r 1 pSlc fun(x5:Sl)=>
 k02 (decide (((x5.2.1:Nat):Int)>0))
 (k0e (Bool×Int×Unit) (false,0,()) H3 fun z6 H7 next8=>
 k02 (decide (z6.2.1<((kindsN:Nat):Int)))
 (k02 z6.1
 (next8 (true,(IntKind.i64.wrap (z6.2.1+1)),()) H7)
 (lw H7 r 0 pSlc fun(x9:Sl)=>
 lw H7 r 1 pSlc fun(x10:Sl)=>
 (IxOk x10.1 0 x10.2.1)∧
 k01 H7 false 1 ⟨(k0c x10.1),(k0b x10.1+(0:Int).toNat*1),none⟩ (pInt .i64) fun(x11:Int)=>
 (IxOk x9.1 x11 x9.2.1)∧
 k01 H7 false 1 ⟨(k0c x9.1),(k0b x9.1+x11.toNat*6),none⟩ (pInt .i64) fun(x12:Int)=>
 (IxOk (some ⟨kinds,kindsO,none⟩) z6.2.1 kindsN)∧
 k01 H7 false 1 ⟨kinds,(kindsO+z6.2.1.toNat*1),none⟩ (pInt .i64) fun(x13:Int)=>
 next8 ((x12==x13),(IntKind.i64.wrap (z6.2.1+1)),()) H7))
 (k02 (!z6.1)
 (rk [(pq r)] H7 R)
 (lw H7 r 1 pSlc fun(x14:Sl)=>
 ((0:Int)≤1∧1≤((x14.2.1:Nat):Int))∧
 k08 H7 ⟨r,1,none⟩ [(.slice (slcA x14.1 x14.2.2 (1:Int).toNat 1) (x14.2.1 -(1:Int).toNat) (x14.2.2 -(1:Int).toNat))] fun H15=>
 lw H15 r 2 (pInt .i64) fun(x16:Int)=>
 k08 H15 ⟨r,2,none⟩ [(.int .i64 (IntKind.i64.wrap (x16+1)))] fun H17=>
 next4 (()) H17)))
 (rk [(pq r)] H3 R)
theorem k6J.enter (r:Nat) (kinds kindsO kindsN kindsC:Nat) (H:Heap) (R:RR) (h:k6J.W r kinds kindsO kindsN kindsC H R):Fn PP fq53 #[(pq r),(.slice (some ⟨kinds,kindsO,none⟩) kindsN kindsC)] H R:=
 fnE Tryz.func53 ⟨patL [(13,pSlc),(27,pSlc),(31,pSlc),(33,(pInt .i64)),(36,(pInt .i64)),(40,(pInt .i64)),(50,pSlc),(57,(pInt .i64))],k06 [(0,[]),(2,[Slot.bool 5,Slot.int .i64 6])],k03 [],k03 [],k05 []⟩ (by unfold k6J.W;kernel_rfl) h
def k6K.W (r:Nat) (H:Heap) (R:RR):Prop:=
 lw H r 1 pSlc fun(x1:Sl)=>
 rk [(.bool (((x1.2.1:Nat):Int)==0))] H R
theorem k6K.enter (r:Nat) (H:Heap) (R:RR) (h:k6K.W r H R):Fn PP fq54 #[(pq r)] H R:=
 fnE Tryz.func54 (hz [(6,pSlc)]) (by unfold k6K.W;kernel_rfl) h
def k6L.W (r:Nat) (H:Heap) (R:RR):Prop:=
 lw H r 2 (pInt .i64) fun(x1:Int)=>
 rk [(.bool (decide (x1≤1)))] H R
theorem k6L.enter (r:Nat) (H:Heap) (R:RR) (h:k6L.W r H R):Fn PP fq58 #[(pq r)] H R:=
 fnE Tryz.func58 (hz [(6,(pInt .i64))]) (by unfold k6L.W;kernel_rfl) h
def k8n.W (r:Nat) (H:Heap) (R:RR):Prop:=
 lw H r 1 pSlc fun(x1:Sl)=>
 k02 (((x1.2.1:Nat):Int)==0)
 (rk [(.bool false)] H R)
 (lw H r 0 pSlc fun(x2:Sl)=>
 lw H r 1 pSlc fun(x3:Sl)=>
 (IxOk x3.1 0 x3.2.1)∧
 k01 H false 1 ⟨(k0c x3.1),(k0b x3.1+(0:Int).toNat*1),none⟩ (pInt .i64) fun(x4:Int)=>
 (IxOk x2.1 x4 x2.2.1)∧
 k01 H true 6 ⟨(k0c x2.1),(k0b x2.1+x4.toNat*6),none⟩ pNd fun(x5:Int×BA×BA×BA×Int×Int)=>
 k00 PP fq56 #[(.agg #[(.int .i64 x5.1),(.string x5.2.1),(.string x5.2.2.1),(.string x5.2.2.2.1),(.int .i64 x5.2.2.2.2.1),(.int .i64 x5.2.2.2.2.2)])] H k04 fun(x6:Bool) H7=>
 lc H7 r 1 (.slice x3.1 x3.2.1 x3.2.2)∧
 k02 (!x6)
 (rk [(.bool false)] H7 R)
 (lw H7 r 1 pSlc fun(x8:Sl)=>
 ((0:Int)≤1∧1≤((x8.2.1:Nat):Int))∧
 k08 H7 ⟨r,1,none⟩ [(.slice (slcA x8.1 x8.2.2 (1:Int).toNat 1) (x8.2.1 -(1:Int).toNat) (x8.2.2 -(1:Int).toNat))] fun H9=>
 rk [(.bool true)] H9 R))
theorem k8n.enter (r:Nat) (H:Heap) (R:RR) (h:k8n.W r H R):Fn PP fq55 #[(pq r),(.func (.func fq56) #[] #[])] H R:=
 fnE Tryz.func55 (hz [(8,pSlc),(16,pSlc),(20,pSlc),(22,(pInt .i64)),(24,pNd),(25,k04),(32,pSlc)]) (by unfold k8n.W;kernel_rfl) h
def k8m.W (r:Nat) (H:Heap) (R:RR):Prop:=
 lw H r 1 pSlc fun(x1:Sl)=>
 k02 (((x1.2.1:Nat):Int)==0)
 (rk [(.bool false)] H R)
 (lw H r 0 pSlc fun(x2:Sl)=>
 lw H r 1 pSlc fun(x3:Sl)=>
 (IxOk x3.1 0 x3.2.1)∧
 k01 H false 1 ⟨(k0c x3.1),(k0b x3.1+(0:Int).toNat*1),none⟩ (pInt .i64) fun(x4:Int)=>
 (IxOk x2.1 x4 x2.2.1)∧
 k01 H true 6 ⟨(k0c x2.1),(k0b x2.1+x4.toNat*6),none⟩ pNd fun(x5:Int×BA×BA×BA×Int×Int)=>
 k00 PP fq83 #[(.agg #[(.int .i64 x5.1),(.string x5.2.1),(.string x5.2.2.1),(.string x5.2.2.2.1),(.int .i64 x5.2.2.2.2.1),(.int .i64 x5.2.2.2.2.2)])] H k04 fun(x6:Bool) H7=>
 lc H7 r 1 (.slice x3.1 x3.2.1 x3.2.2)∧
 k02 (!x6)
 (rk [(.bool false)] H7 R)
 (lw H7 r 1 pSlc fun(x8:Sl)=>
 ((0:Int)≤1∧1≤((x8.2.1:Nat):Int))∧
 k08 H7 ⟨r,1,none⟩ [(.slice (slcA x8.1 x8.2.2 (1:Int).toNat 1) (x8.2.1 -(1:Int).toNat) (x8.2.2 -(1:Int).toNat))] fun H9=>
 rk [(.bool true)] H9 R))
theorem k8m.enter (r:Nat) (H:Heap) (R:RR) (h:k8m.W r H R):Fn PP fq55 #[(pq r),(.func (.func fq83) #[] #[])] H R:=
 fnE Tryz.func55 (hz [(8,pSlc),(16,pSlc),(20,pSlc),(22,(pInt .i64)),(24,pNd),(25,k04),(32,pSlc)]) (by unfold k8m.W;kernel_rfl) h
def k8l.W (r:Nat) (H:Heap) (R:RR):Prop:=
 lw H r 1 pSlc fun(x1:Sl)=>
 k02 (((x1.2.1:Nat):Int)==0)
 (rk [(.bool false)] H R)
 (lw H r 0 pSlc fun(x2:Sl)=>
 lw H r 1 pSlc fun(x3:Sl)=>
 (IxOk x3.1 0 x3.2.1)∧
 k01 H false 1 ⟨(k0c x3.1),(k0b x3.1+(0:Int).toNat*1),none⟩ (pInt .i64) fun(x4:Int)=>
 (IxOk x2.1 x4 x2.2.1)∧
 k01 H true 6 ⟨(k0c x2.1),(k0b x2.1+x4.toNat*6),none⟩ pNd fun(x5:Int×BA×BA×BA×Int×Int)=>
 k00 PP fq59 #[(.agg #[(.int .i64 x5.1),(.string x5.2.1),(.string x5.2.2.1),(.string x5.2.2.2.1),(.int .i64 x5.2.2.2.2.1),(.int .i64 x5.2.2.2.2.2)])] H k04 fun(x6:Bool) H7=>
 lc H7 r 1 (.slice x3.1 x3.2.1 x3.2.2)∧
 k02 (!x6)
 (rk [(.bool false)] H7 R)
 (lw H7 r 1 pSlc fun(x8:Sl)=>
 ((0:Int)≤1∧1≤((x8.2.1:Nat):Int))∧
 k08 H7 ⟨r,1,none⟩ [(.slice (slcA x8.1 x8.2.2 (1:Int).toNat 1) (x8.2.1 -(1:Int).toNat) (x8.2.2 -(1:Int).toNat))] fun H9=>
 rk [(.bool true)] H9 R))
theorem k8l.enter (r:Nat) (H:Heap) (R:RR) (h:k8l.W r H R):Fn PP fq55 #[(pq r),(.func (.func fq59) #[] #[])] H R:=
 fnE Tryz.func55 (hz [(8,pSlc),(16,pSlc),(20,pSlc),(22,(pInt .i64)),(24,pNd),(25,k04),(32,pSlc)]) (by unfold k8l.W;kernel_rfl) h
def k8o.W (r:Nat) (H:Heap) (R:RR):Prop:=
 lw H r 1 pSlc fun(x1:Sl)=>
 k02 (((x1.2.1:Nat):Int)==0)
 (rk [(.bool false)] H R)
 (lw H r 0 pSlc fun(x2:Sl)=>
 lw H r 1 pSlc fun(x3:Sl)=>
 (IxOk x3.1 0 x3.2.1)∧
 k01 H false 1 ⟨(k0c x3.1),(k0b x3.1+(0:Int).toNat*1),none⟩ (pInt .i64) fun(x4:Int)=>
 (IxOk x2.1 x4 x2.2.1)∧
 k01 H true 6 ⟨(k0c x2.1),(k0b x2.1+x4.toNat*6),none⟩ pNd fun(x5:Int×BA×BA×BA×Int×Int)=>
 k00 PP fq44 #[(.agg #[(.int .i64 x5.1),(.string x5.2.1),(.string x5.2.2.1),(.string x5.2.2.2.1),(.int .i64 x5.2.2.2.2.1),(.int .i64 x5.2.2.2.2.2)])] H k04 fun(x6:Bool) H7=>
 lc H7 r 1 (.slice x3.1 x3.2.1 x3.2.2)∧
 k02 (!x6)
 (rk [(.bool false)] H7 R)
 (lw H7 r 1 pSlc fun(x8:Sl)=>
 ((0:Int)≤1∧1≤((x8.2.1:Nat):Int))∧
 k08 H7 ⟨r,1,none⟩ [(.slice (slcA x8.1 x8.2.2 (1:Int).toNat 1) (x8.2.1 -(1:Int).toNat) (x8.2.2 -(1:Int).toNat))] fun H9=>
 rk [(.bool true)] H9 R))
theorem k8o.enter (r:Nat) (H:Heap) (R:RR) (h:k8o.W r H R):Fn PP fq55 #[(pq r),(.func (.func fq44) #[] #[])] H R:=
 fnE Tryz.func55 (hz [(8,pSlc),(16,pSlc),(20,pSlc),(22,(pInt .i64)),(24,pNd),(25,k04),(32,pSlc)]) (by unfold k8o.W;kernel_rfl) h
def k8q.W (r:Nat) (H:Heap) (R:RR):Prop:=
 lw H r 1 pSlc fun(x1:Sl)=>
 k02 (((x1.2.1:Nat):Int)==0)
 (rk [(.bool false)] H R)
 (lw H r 0 pSlc fun(x2:Sl)=>
 lw H r 1 pSlc fun(x3:Sl)=>
 (IxOk x3.1 0 x3.2.1)∧
 k01 H false 1 ⟨(k0c x3.1),(k0b x3.1+(0:Int).toNat*1),none⟩ (pInt .i64) fun(x4:Int)=>
 (IxOk x2.1 x4 x2.2.1)∧
 k01 H true 6 ⟨(k0c x2.1),(k0b x2.1+x4.toNat*6),none⟩ pNd fun(x5:Int×BA×BA×BA×Int×Int)=>
 k00 PP fq45 #[(.agg #[(.int .i64 x5.1),(.string x5.2.1),(.string x5.2.2.1),(.string x5.2.2.2.1),(.int .i64 x5.2.2.2.2.1),(.int .i64 x5.2.2.2.2.2)])] H k04 fun(x6:Bool) H7=>
 lc H7 r 1 (.slice x3.1 x3.2.1 x3.2.2)∧
 k02 (!x6)
 (rk [(.bool false)] H7 R)
 (lw H7 r 1 pSlc fun(x8:Sl)=>
 ((0:Int)≤1∧1≤((x8.2.1:Nat):Int))∧
 k08 H7 ⟨r,1,none⟩ [(.slice (slcA x8.1 x8.2.2 (1:Int).toNat 1) (x8.2.1 -(1:Int).toNat) (x8.2.2 -(1:Int).toNat))] fun H9=>
 rk [(.bool true)] H9 R))
theorem k8q.enter (r:Nat) (H:Heap) (R:RR) (h:k8q.W r H R):Fn PP fq55 #[(pq r),(.func (.func fq45) #[] #[])] H R:=
 fnE Tryz.func55 (hz [(8,pSlc),(16,pSlc),(20,pSlc),(22,(pInt .i64)),(24,pNd),(25,k04),(32,pSlc)]) (by unfold k8q.W;kernel_rfl) h
def isSelections.W (n:Nd) (H:Heap) (R:RR):Prop:=
 newB H (.cells #[(.int .i64 n.kind),(.string n.name),(.string n.alias),(.string n.text),(.int .i64 n.flag),(.int .i64 n.size)] tq41) fun b1 H2=>
 lw H2 b1 0 (pInt .i64) fun(x3:Int)=>
 rk [(.bool (x3==5))] H2 R
theorem isSelections.enter (n:Nd) (H:Heap) (R:RR) (h:isSelections.W n H R):Fn PP fq56 #[(.agg #[(.int .i64 n.kind),(.string n.name),(.string n.alias),(.string n.text),(.int .i64 n.flag),(.int .i64 n.size)])] H R:=
 fnE Tryz.func56 (hz [(4,(pInt .i64))]) (by unfold isSelections.W;kernel_rfl) h
def isObject.W (n:Nd) (H:Heap) (R:RR):Prop:=
 newB H (.cells #[(.int .i64 n.kind),(.string n.name),(.string n.alias),(.string n.text),(.int .i64 n.flag),(.int .i64 n.size)] tq41) fun b1 H2=>
 lw H2 b1 0 (pInt .i64) fun(x3:Int)=>
 rk [(.bool (x3==27))] H2 R
theorem isObject.enter (n:Nd) (H:Heap) (R:RR) (h:isObject.W n H R):Fn PP fq83 #[(.agg #[(.int .i64 n.kind),(.string n.name),(.string n.alias),(.string n.text),(.int .i64 n.flag),(.int .i64 n.size)])] H R:=
 fnE Tryz.func83 (hz [(4,(pInt .i64))]) (by unfold isObject.W;kernel_rfl) h
def isNullable.W (n:Nd) (H:Heap) (R:RR):Prop:=
 newB H (.cells #[(.int .i64 n.kind),(.string n.name),(.string n.alias),(.string n.text),(.int .i64 n.flag),(.int .i64 n.size)] tq41) fun b1 H2=>
 k01 H2 true 6 ⟨b1,0,none⟩ pNd fun(x3:Int×BA×BA×BA×Int×Int)=>
 k00 PP fq44 #[(.agg #[(.int .i64 x3.1),(.string x3.2.1),(.string x3.2.2.1),(.string x3.2.2.2.1),(.int .i64 x3.2.2.2.2.1),(.int .i64 x3.2.2.2.2.2)])] H2 k04 fun(x4:Bool) H5=>
 k02 x4
 (lw H5 b1 0 (pInt .i64) fun(x6:Int)=>
 rk [(.bool (x6 !=22))] H5 R)
 (rk [(.bool false)] H5 R)
theorem isNullable.enter (n:Nd) (H:Heap) (R:RR) (h:isNullable.W n H R):Fn PP fq59 #[(.agg #[(.int .i64 n.kind),(.string n.name),(.string n.alias),(.string n.text),(.int .i64 n.flag),(.int .i64 n.size)])] H R:=
 fnE Tryz.func59 (hz [(3,pNd),(4,k04),(7,(pInt .i64))]) (by unfold isNullable.W;kernel_rfl) h
def isType.W (n:Nd) (H:Heap) (R:RR):Prop:=
 newB H (.cells #[(.int .i64 n.kind),(.string n.name),(.string n.alias),(.string n.text),(.int .i64 n.flag),(.int .i64 n.size)] tq41) fun b1 H2=>
 lw H2 b1 0 (pInt .i64) fun(x3:Int)=>
 k02 (decide (x3≥20))
 (lw H2 b1 0 (pInt .i64) fun(x4:Int)=>
 rk [(.bool (decide (x4≤22)))] H2 R)
 (rk [(.bool false)] H2 R)
theorem isType.enter (n:Nd) (H:Heap) (R:RR) (h:isType.W n H R):Fn PP fq44 #[(.agg #[(.int .i64 n.kind),(.string n.name),(.string n.alias),(.string n.text),(.int .i64 n.flag),(.int .i64 n.size)])] H R:=
 fnE Tryz.func44 (hz [(4,(pInt .i64)),(8,(pInt .i64))]) (by unfold isType.W;kernel_rfl) h
def isValue.W (n:Nd) (H:Heap) (R:RR):Prop:=
 newB H (.cells #[(.int .i64 n.kind),(.string n.name),(.string n.alias),(.string n.text),(.int .i64 n.flag),(.int .i64 n.size)] tq41) fun b1 H2=>
 lw H2 b1 0 (pInt .i64) fun(x3:Int)=>
 k02 (decide (x3≥11))
 (lw H2 b1 0 (pInt .i64) fun(x4:Int)=>
 rk [(.bool (decide (x4≤18)))] H2 R)
 (rk [(.bool false)] H2 R)
theorem isValue.enter (n:Nd) (H:Heap) (R:RR) (h:isValue.W n H R):Fn PP fq45 #[(.agg #[(.int .i64 n.kind),(.string n.name),(.string n.alias),(.string n.text),(.int .i64 n.flag),(.int .i64 n.size)])] H R:=
 fnE Tryz.func45 (hz [(4,(pInt .i64)),(8,(pInt .i64))]) (by unfold isValue.W;kernel_rfl) h
def fixedAt.W (d dO dN _dC:Nat) (i:Int) (H:Heap) (R:RR):Prop:=
 k0e (Int×Unit) (i,()) H fun z1 H2 next3=>
 (IxOk (some ⟨d,dO,none⟩) i dN)∧
 k01 H2 false 1 ⟨d,((dO+i.toNat*6)+5),none⟩ (pInt .i64) fun(x4:Int)=>
 k02 (decide (z1.1<(IntKind.i64.wrap (i+x4))))
 ((IxOk (some ⟨d,dO,none⟩) z1.1 dN)∧
 k01 H2 false 1 ⟨d,(dO+z1.1.toNat*6),none⟩ (pInt .i64) fun(x5:Int)=>
 k02 (x5==11)
 (rk [(.bool false)] H2 R)
 (next3 ((IntKind.i64.wrap (z1.1+1)),()) H2))
 (rk [(.bool true)] H2 R)
theorem fixedAt.enter (d dO dN dC:Nat) (i:Int) (H:Heap) (R:RR) (h:fixedAt.W d dO dN dC i H R):Fn PP fq57 #[(.slice (some ⟨d,dO,none⟩) dN dC),(.int .i64 i)] H R:=
 fnE Tryz.func57 ⟨patL [(13,(pInt .i64)),(22,(pInt .i64))],k06 [(0,[Slot.int .i64 5])],k03 [],k03 [],k05 []⟩ (by unfold fixedAt.W;kernel_rfl) h
def fixedHere.W (d dO dN dC:Nat) (i:Int) (H:Heap) (R:RR):Prop:=
 k00 PP fq20 #[(.slice (some ⟨d,dO,none⟩) dN dC),(.int .i64 i),(.int .i64 10)] H pSlc fun(x1:Sl) H2=>
 k0e (Int×Unit) (0,()) H2 fun z3 H4 next5=>
 k02 (decide (z3.1<((x1.2.1:Nat):Int)))
 ((IxOk x1.1 z3.1 x1.2.1)∧
 k01 H4 false 1 ⟨(k0c x1.1),(k0b x1.1+z3.1.toNat*1),none⟩ (pInt .i64) fun(x6:Int)=>
 k00 PP fq57 #[(.slice (some ⟨d,dO,none⟩) dN dC),(.int .i64 x6)] H4 k04 fun(x7:Bool) H8=>
 k02 (!x7)
 (rk [(.bool false)] H8 R)
 (next5 ((IntKind.i64.wrap (z3.1+1)),()) H8))
 (rk [(.bool true)] H4 R)
theorem fixedHere.enter (d dO dN dC:Nat) (i:Int) (H:Heap) (R:RR) (h:fixedHere.W d dO dN dC i H R):Fn PP fq84 #[(.slice (some ⟨d,dO,none⟩) dN dC),(.int .i64 i)] H R:=
 fnE Tryz.func84 ⟨patL [(9,pSlc),(20,(pInt .i64)),(21,k04)],k06 [(0,[Slot.int .i64 6])],k03 [],k03 [],k05 []⟩ (by unfold fixedHere.W;kernel_rfl) h
def shaped.W (d dO dN dC:Nat) (i:Int) (H:Heap) (R:RR):Prop:=
 k00 PP fq26 #[(.slice (some ⟨d,dO,none⟩) dN dC),(.int .i64 i)] H pSlc fun(x1:Sl) H2=>
 newB H2 (.cells #[(.slice (some ⟨d,dO,none⟩) dN dC),(.slice x1.1 x1.2.1 x1.2.2),(.int .i64 0)] tq73) fun b3 H4=>
 (IxOk (some ⟨d,dO,none⟩) i dN)∧
 k01 H4 true 6 ⟨d,(dO+i.toNat*6),none⟩ pNd fun(x5:Int×BA×BA×BA×Int×Int)=>
 newB H4 (.cells #[(.int .i64 0),sE,sE,sE,(.int .i64 0),(.int .i64 0)] tq41) fun b6 H7=>
 k08 H7 ⟨b6,0,none⟩ [(.int .i64 x5.1),(.string x5.2.1),(.string x5.2.2.1),(.string x5.2.2.2.1),(.int .i64 x5.2.2.2.2.1),(.int .i64 x5.2.2.2.2.2)] fun H8=>
 lw H8 b6 0 (pInt .i64) fun(x9:Int)=>
 k02 (x9==1)
 (newB H8 (.cells #[(.int .i64 2),(.int .i64 3),(.int .i64 24),(.int .i64 26),(.int .i64 27),(.int .i64 31),(.int .i64 32),(.int .i64 34),(.int .i64 36),(.int .i64 37),(.int .i64 39)] tq3) fun b10 H11=>
 k00 PP fq53 #[(pq b3),(.slice (some ⟨b10,0,none⟩) 11 11)] H11 pBlk fun(x12:Nat) H13=>
 k00 PP fq54 #[(pq x12)] H13 k04 fun(x14:Bool) H15=>
 k02 x14
 (lw H15 b3 2 (pInt .i64) fun(x16:Int)=>
 rk [(.bool (decide (x16>0)))] H15 R)
 (rk [(.bool false)] H15 R))
 (k02 (x9==2)
 (lw H8 b6 4 (pInt .i64) fun(x17:Int)=>
 k02 (x17==1)
 (k00 PP fq55 #[(pq b3),(.func (.func fq56) #[] #[])] H8 k04 fun(x18:Bool) H19=>
 k02 x18
 (k00 PP fq54 #[(pq b3)] H19 k04 fun(x20:Bool) H21=>
 rk [(.bool x20)] H21 R)
 (rk [(.bool false)] H19 R))
 (newB H8 (.cells #[(.int .i64 4)] tq3) fun b22 H23=>
 k00 PP fq53 #[(pq b3),(.slice (some ⟨b22,0,none⟩) 1 1)] H23 pBlk fun(x24:Nat) H25=>
 newB H25 (.cells #[(.int .i64 10)] tq3) fun b26 H27=>
 k00 PP fq53 #[(pq x24),(.slice (some ⟨b26,0,none⟩) 1 1)] H27 pBlk fun(_x28:Nat) H29=>
 k00 PP fq55 #[(pq b3),(.func (.func fq56) #[] #[])] H29 k04 fun(x30:Bool) H31=>
 k02 x30
 (k00 PP fq54 #[(pq b3)] H31 k04 fun(x32:Bool) H33=>
 rk [(.bool x32)] H33 R)
 (rk [(.bool false)] H31 R)))
 (k02 (x9==3)
 (newB H8 (.cells #[(.int .i64 10)] tq3) fun b34 H35=>
 k00 PP fq53 #[(pq b3),(.slice (some ⟨b34,0,none⟩) 1 1)] H35 pBlk fun(_x36:Nat) H37=>
 k00 PP fq55 #[(pq b3),(.func (.func fq56) #[] #[])] H37 k04 fun(x38:Bool) H39=>
 k02 x38
 (k00 PP fq54 #[(pq b3)] H39 k04 fun(x40:Bool) H41=>
 rk [(.bool x40)] H41 R)
 (rk [(.bool false)] H39 R))
 (k02 (x9==8)
 (newB H8 (.cells #[(.int .i64 10)] tq3) fun b42 H43=>
 k00 PP fq53 #[(pq b3),(.slice (some ⟨b42,0,none⟩) 1 1)] H43 pBlk fun(_x44:Nat) H45=>
 k00 PP fq55 #[(pq b3),(.func (.func fq56) #[] #[])] H45 k04 fun(x46:Bool) H47=>
 k02 x46
 (k00 PP fq54 #[(pq b3)] H47 k04 fun(x48:Bool) H49=>
 rk [(.bool x48)] H49 R)
 (rk [(.bool false)] H47 R))
 (k02 (x9==4)
 (k00 PP fq55 #[(pq b3),(.func (.func fq44) #[] #[])] H8 k04 fun(x50:Bool) H51=>
 k02 x50
 (k00 PP fq54 #[(pq b3)] H51 k04 fun(x52:Bool) H53=>
 k02 x52
 (rk [(.bool true)] H53 R)
 (k00 PP fq55 #[(pq b3),(.func (.func fq45) #[] #[])] H53 k04 fun(x54:Bool) H55=>
 k02 x54
 (k00 PP fq54 #[(pq b3)] H55 k04 fun(x56:Bool) H57=>
 k02 x56
 (k00 PP fq57 #[(.slice (some ⟨d,dO,none⟩) dN dC),(.int .i64 i)] H57 k04 fun(x58:Bool) H59=>
 rk [(.bool x58)] H59 R)
 (rk [(.bool false)] H57 R))
 (rk [(.bool false)] H55 R)))
 (rk [(.bool false)] H51 R))
 (k02 (x9==5)
 (newB H8 (.cells #[(.int .i64 6),(.int .i64 7),(.int .i64 8)] tq3) fun b60 H61=>
 k00 PP fq53 #[(pq b3),(.slice (some ⟨b60,0,none⟩) 3 3)] H61 pBlk fun(x62:Nat) H63=>
 k00 PP fq54 #[(pq x62)] H63 k04 fun(x64:Bool) H65=>
 k02 x64
 (lw H65 b3 2 (pInt .i64) fun(x66:Int)=>
 rk [(.bool (decide (x66>0)))] H65 R)
 (rk [(.bool false)] H65 R))
 (k02 (x9==6)
 (newB H8 (.cells #[(.int .i64 9)] tq3) fun b67 H68=>
 k00 PP fq53 #[(pq b3),(.slice (some ⟨b67,0,none⟩) 1 1)] H68 pBlk fun(x69:Nat) H70=>
 newB H70 (.cells #[(.int .i64 10)] tq3) fun b71 H72=>
 k00 PP fq53 #[(pq x69),(.slice (some ⟨b71,0,none⟩) 1 1)] H72 pBlk fun(x73:Nat) H74=>
 newB H74 (.cells #[(.int .i64 5)] tq3) fun b75 H76=>
 k00 PP fq53 #[(pq x73),(.slice (some ⟨b75,0,none⟩) 1 1)] H76 pBlk fun(x77:Nat) H78=>
 k00 PP fq54 #[(pq x77)] H78 k04 fun(x79:Bool) H80=>
 k02 x79
 (k00 PP fq58 #[(pq b3)] H80 k04 fun(x81:Bool) H82=>
 rk [(.bool x81)] H82 R)
 (rk [(.bool false)] H80 R))
 (k02 (x9==7)
 (newB H8 (.cells #[(.int .i64 10)] tq3) fun b83 H84=>
 k00 PP fq53 #[(pq b3),(.slice (some ⟨b83,0,none⟩) 1 1)] H84 pBlk fun(x85:Nat) H86=>
 k00 PP fq54 #[(pq x85)] H86 k04 fun(x87:Bool) H88=>
 rk [(.bool x87)] H88 R)
 (k02 (x9==9)
 (k00 PP fq55 #[(pq b3),(.func (.func fq45) #[] #[])] H8 k04 fun(x89:Bool) H90=>
 k02 x89
 (k00 PP fq54 #[(pq b3)] H90 k04 fun(x91:Bool) H92=>
 rk [(.bool x91)] H92 R)
 (rk [(.bool false)] H90 R))
 (k02 (x9==19)
 (k00 PP fq55 #[(pq b3),(.func (.func fq45) #[] #[])] H8 k04 fun(x93:Bool) H94=>
 k02 x93
 (k00 PP fq54 #[(pq b3)] H94 k04 fun(x95:Bool) H96=>
 rk [(.bool x95)] H96 R)
 (rk [(.bool false)] H94 R))
 (k02 (x9==10)
 (newB H8 (.cells #[(.int .i64 9)] tq3) fun b97 H98=>
 k00 PP fq53 #[(pq b3),(.slice (some ⟨b97,0,none⟩) 1 1)] H98 pBlk fun(x99:Nat) H100=>
 k00 PP fq54 #[(pq x99)] H100 k04 fun(x101:Bool) H102=>
 rk [(.bool x101)] H102 R)
 (k02 (x9==17)
 (k0e (Unit) (()) H8 fun _z103 H104 next105=>
 k00 PP fq55 #[(pq b3),(.func (.func fq45) #[] #[])] H104 k04 fun(x106:Bool) H107=>
 k02 x106
 (next105 (()) H107)
 (k00 PP fq54 #[(pq b3)] H107 k04 fun(x108:Bool) H109=>
 rk [(.bool x108)] H109 R))
 (k02 (x9==18)
 (newB H8 (.cells #[(.int .i64 19)] tq3) fun b110 H111=>
 k00 PP fq53 #[(pq b3),(.slice (some ⟨b110,0,none⟩) 1 1)] H111 pBlk fun(x112:Nat) H113=>
 k00 PP fq54 #[(pq x112)] H113 k04 fun(x114:Bool) H115=>
 rk [(.bool x114)] H115 R)
 (k02 (x9==21)
 (k00 PP fq55 #[(pq b3),(.func (.func fq44) #[] #[])] H8 k04 fun(x116:Bool) H117=>
 k02 x116
 (k00 PP fq54 #[(pq b3)] H117 k04 fun(x118:Bool) H119=>
 rk [(.bool x118)] H119 R)
 (rk [(.bool false)] H117 R))
 (k02 (x9==22)
 (k00 PP fq55 #[(pq b3),(.func (.func fq59) #[] #[])] H8 k04 fun(x120:Bool) H121=>
 k02 x120
 (k00 PP fq54 #[(pq b3)] H121 k04 fun(x122:Bool) H123=>
 rk [(.bool x122)] H123 R)
 (rk [(.bool false)] H121 R))
 ((IxOk (some ⟨d,dO,none⟩) i dN)∧
 k01 H8 false 1 ⟨d,(dO+i.toNat*6),none⟩ (pInt .i64) fun(x124:Int)=>
 k00 PP fq60 #[(pq b3),(.int .i64 x124),(.slice (some ⟨d,dO,none⟩) dN dC),(.int .i64 i)] H8 k04 fun(x125:Bool) H126=>
 rk [(.bool x125)] H126 R)))))))))))))))
theorem shaped.enter (d dO dN dC:Nat) (i:Int) (H:Heap) (R:RR) (h:shaped.W d dO dN dC i H R):Fn PP fq36 #[(.slice (some ⟨d,dO,none⟩) dN dC),(.int .i64 i)] H R:=
 fnE Tryz.func36 ⟨patL [(10,pSlc),(16,pNd),(18,(pInt .i64)),(23,pBlk),(24,k04),(29,(pInt .i64)),(35,(pInt .i64)),(38,k04),(41,k04),(45,pBlk),(47,pBlk),(49,k04),(52,k04),(59,pBlk),(61,k04),(64,k04),(69,k04),(72,k04),(75,k04),(78,k04),(83,k04),(91,pBlk),(92,k04),(97,(pInt .i64)),(104,pBlk),(106,pBlk),(108,pBlk),(109,k04),(112,k04),(118,pBlk),(119,k04),(124,k04),(127,k04),(133,pBlk),(134,k04),(138,k04),(140,k04),(145,pBlk),(146,k04),(150,k04),(153,k04),(158,k04),(161,k04),(168,(pInt .i64)),(171,k04)],k06 [(1,[])],k03 [],k03 [],k05 []⟩ (by unfold shaped.W;kernel_rfl) h
def shapedType.W (r:Nat) (kind:Int) (d dO dN dC:Nat) (i:Int) (H:Heap) (R:RR):Prop:=
 k0d (Unit) (fun J1=>
 k02 (kind==24)
 (k0d (Bool×Unit) (fun J4=>
 newB H (.cells #[(.int .i64 10)] tq3) fun b7 H8=>
 k00 PP fq53 #[(pq r),(.slice (some ⟨b7,0,none⟩) 1 1)] H8 pBlk fun(x9:Nat) H10=>
 newB H10 (.cells #[(.int .i64 25)] tq3) fun b11 H12=>
 k00 PP fq53 #[(pq x9),(.slice (some ⟨b11,0,none⟩) 1 1)] H12 pBlk fun(x13:Nat) H14=>
 k00 PP fq54 #[(pq x13)] H14 k04 fun(x15:Bool) H16=>
 k02 x15
 (lw H16 r 2 (pInt .i64) fun(x17:Int)=>
 J4 ((decide (x17>0)),()) H16)
 (J4 (false,()) H16)) fun y5 H6=>
 rk [(.bool y5.1)] H6 R)
 (k02 (kind==39)
 (k0d (Bool×Unit) (fun J18=>
 k00 PP fq55 #[(pq r),(.func (.func fq83) #[] #[])] H k04 fun(x21:Bool) H22=>
 k02 x21
 (k00 PP fq54 #[(pq r)] H22 k04 fun(x23:Bool) H24=>
 k02 x23
 (k00 PP fq19 #[(.slice (some ⟨d,dO,none⟩) dN dC),(.int .i64 (IntKind.i64.wrap (i+1))),(.int .i64 23)] H24 (pInt .i64) fun(x25:Int) H26=>
 J18 ((decide (x25<0)),()) H26)
 (J18 (false,()) H24))
 (J18 (false,()) H22)) fun y19 H20=>
 rk [(.bool y19.1)] H20 R)
 (k02 (kind==26)
 (newB H (.cells #[(.int .i64 23)] tq3) fun b27 H28=>
 k00 PP fq53 #[(pq r),(.slice (some ⟨b27,0,none⟩) 1 1)] H28 pBlk fun(x29:Nat) H30=>
 k00 PP fq58 #[(pq x29)] H30 k04 fun(x31:Bool) H32=>
 k02 (!x31)
 (rk [(.bool false)] H32 R)
 (J1 (()) H32))
 (k02 (kind==35)
 (newB H (.cells #[(.int .i64 23)] tq3) fun b33 H34=>
 k00 PP fq53 #[(pq r),(.slice (some ⟨b33,0,none⟩) 1 1)] H34 pBlk fun(x35:Nat) H36=>
 k00 PP fq58 #[(pq x35)] H36 k04 fun(x37:Bool) H38=>
 k02 (!x37)
 (rk [(.bool false)] H38 R)
 (J1 (()) H38))
 (k02 (kind==27)
 (newB H (.cells #[(.int .i64 23)] tq3) fun b39 H40=>
 k00 PP fq53 #[(pq r),(.slice (some ⟨b39,0,none⟩) 1 1)] H40 pBlk fun(x41:Nat) H42=>
 k00 PP fq58 #[(pq x41)] H42 k04 fun(x43:Bool) H44=>
 k02 (!x43)
 (rk [(.bool false)] H44 R)
 (J1 (()) H44))
 (k02 (kind==31)
 (newB H (.cells #[(.int .i64 23)] tq3) fun b45 H46=>
 k00 PP fq53 #[(pq r),(.slice (some ⟨b45,0,none⟩) 1 1)] H46 pBlk fun(x47:Nat) H48=>
 k00 PP fq58 #[(pq x47)] H48 k04 fun(x49:Bool) H50=>
 k02 (!x49)
 (rk [(.bool false)] H50 R)
 (J1 (()) H50))
 (k02 (kind==32)
 (newB H (.cells #[(.int .i64 23)] tq3) fun b51 H52=>
 k00 PP fq53 #[(pq r),(.slice (some ⟨b51,0,none⟩) 1 1)] H52 pBlk fun(x53:Nat) H54=>
 k00 PP fq58 #[(pq x53)] H54 k04 fun(x55:Bool) H56=>
 k02 (!x55)
 (rk [(.bool false)] H56 R)
 (J1 (()) H56))
 (k02 (kind==34)
 (newB H (.cells #[(.int .i64 23)] tq3) fun b57 H58=>
 k00 PP fq53 #[(pq r),(.slice (some ⟨b57,0,none⟩) 1 1)] H58 pBlk fun(x59:Nat) H60=>
 k00 PP fq58 #[(pq x59)] H60 k04 fun(x61:Bool) H62=>
 k02 (!x61)
 (rk [(.bool false)] H62 R)
 (J1 (()) H62))
 (k02 (kind==36)
 (newB H (.cells #[(.int .i64 23)] tq3) fun b63 H64=>
 k00 PP fq53 #[(pq r),(.slice (some ⟨b63,0,none⟩) 1 1)] H64 pBlk fun(x65:Nat) H66=>
 k00 PP fq58 #[(pq x65)] H66 k04 fun(x67:Bool) H68=>
 k02 (!x67)
 (rk [(.bool false)] H68 R)
 (J1 (()) H68))
 (k02 (kind==29)
 (newB H (.cells #[(.int .i64 23)] tq3) fun b69 H70=>
 k00 PP fq53 #[(pq r),(.slice (some ⟨b69,0,none⟩) 1 1)] H70 pBlk fun(x71:Nat) H72=>
 k00 PP fq58 #[(pq x71)] H72 k04 fun(x73:Bool) H74=>
 k02 (!x73)
 (rk [(.bool false)] H74 R)
 (J1 (()) H74))
 (k02 (kind==30)
 (newB H (.cells #[(.int .i64 23)] tq3) fun b75 H76=>
 k00 PP fq53 #[(pq r),(.slice (some ⟨b75,0,none⟩) 1 1)] H76 pBlk fun(x77:Nat) H78=>
 k00 PP fq58 #[(pq x77)] H78 k04 fun(x79:Bool) H80=>
 k02 (!x79)
 (rk [(.bool false)] H80 R)
 (J1 (()) H80))
 (k02 (kind==37)
 (newB H (.cells #[(.int .i64 23)] tq3) fun b81 H82=>
 k00 PP fq53 #[(pq r),(.slice (some ⟨b81,0,none⟩) 1 1)] H82 pBlk fun(x83:Nat) H84=>
 k00 PP fq58 #[(pq x83)] H84 k04 fun(x85:Bool) H86=>
 k02 (!x85)
 (rk [(.bool false)] H86 R)
 (J1 (()) H86))
 (J1 (()) H))))))))))))) fun _y2 H3=>
 k02 (kind==26)
 (k0d (Bool×Unit) (fun J87=>
 k00 PP fq57 #[(.slice (some ⟨d,dO,none⟩) dN dC),(.int .i64 i)] H3 k04 fun(x90:Bool) H91=>
 k02 x90
 (newB H91 (.cells #[(.int .i64 10)] tq3) fun b92 H93=>
 k00 PP fq53 #[(pq r),(.slice (some ⟨b92,0,none⟩) 1 1)] H93 pBlk fun(x94:Nat) H95=>
 k00 PP fq54 #[(pq x94)] H95 k04 fun(x96:Bool) H97=>
 J87 (x96,()) H97)
 (J87 (false,()) H91)) fun y88 H89=>
 rk [(.bool y88.1)] H89 R)
 (k02 (kind==35)
 (k0d (Bool×Unit) (fun J98=>
 k00 PP fq57 #[(.slice (some ⟨d,dO,none⟩) dN dC),(.int .i64 i)] H3 k04 fun(x101:Bool) H102=>
 k02 x101
 (newB H102 (.cells #[(.int .i64 10)] tq3) fun b103 H104=>
 k00 PP fq53 #[(pq r),(.slice (some ⟨b103,0,none⟩) 1 1)] H104 pBlk fun(x105:Nat) H106=>
 k00 PP fq54 #[(pq x105)] H106 k04 fun(x107:Bool) H108=>
 J98 (x107,()) H108)
 (J98 (false,()) H102)) fun y99 H100=>
 rk [(.bool y99.1)] H100 R)
 (k02 (kind==27)
 (k0d (Bool×Unit) (fun J109=>
 k00 PP fq84 #[(.slice (some ⟨d,dO,none⟩) dN dC),(.int .i64 i)] H3 k04 fun(x112:Bool) H113=>
 k02 x112
 (newB H113 (.cells #[(.int .i64 28)] tq3) fun b114 H115=>
 k00 PP fq53 #[(pq r),(.slice (some ⟨b114,0,none⟩) 1 1)] H115 pBlk fun(x116:Nat) H117=>
 newB H117 (.cells #[(.int .i64 10)] tq3) fun b118 H119=>
 k00 PP fq53 #[(pq x116),(.slice (some ⟨b118,0,none⟩) 1 1)] H119 pBlk fun(x120:Nat) H121=>
 newB H121 (.cells #[(.int .i64 29)] tq3) fun b122 H123=>
 k00 PP fq53 #[(pq x120),(.slice (some ⟨b122,0,none⟩) 1 1)] H123 pBlk fun(x124:Nat) H125=>
 k00 PP fq54 #[(pq x124)] H125 k04 fun(x126:Bool) H127=>
 k02 x126
 (lw H127 r 2 (pInt .i64) fun(x128:Int)=>
 J109 ((decide (x128>0)),()) H127)
 (J109 (false,()) H127))
 (J109 (false,()) H113)) fun y110 H111=>
 rk [(.bool y110.1)] H111 R)
 (k02 (kind==31)
 (k0d (Bool×Unit) (fun J129=>
 k00 PP fq84 #[(.slice (some ⟨d,dO,none⟩) dN dC),(.int .i64 i)] H3 k04 fun(x132:Bool) H133=>
 k02 x132
 (newB H133 (.cells #[(.int .i64 10)] tq3) fun b134 H135=>
 k00 PP fq53 #[(pq r),(.slice (some ⟨b134,0,none⟩) 1 1)] H135 pBlk fun(x136:Nat) H137=>
 newB H137 (.cells #[(.int .i64 29)] tq3) fun b138 H139=>
 k00 PP fq53 #[(pq x136),(.slice (some ⟨b138,0,none⟩) 1 1)] H139 pBlk fun(x140:Nat) H141=>
 k00 PP fq54 #[(pq x140)] H141 k04 fun(x142:Bool) H143=>
 k02 x142
 (lw H143 r 2 (pInt .i64) fun(x144:Int)=>
 J129 ((decide (x144>0)),()) H143)
 (J129 (false,()) H143))
 (J129 (false,()) H133)) fun y130 H131=>
 rk [(.bool y130.1)] H131 R)
 (k02 (kind==32)
 (k0d (Bool×Unit) (fun J145=>
 k00 PP fq57 #[(.slice (some ⟨d,dO,none⟩) dN dC),(.int .i64 i)] H3 k04 fun(x148:Bool) H149=>
 k02 x148
 (newB H149 (.cells #[(.int .i64 10)] tq3) fun b150 H151=>
 k00 PP fq53 #[(pq r),(.slice (some ⟨b150,0,none⟩) 1 1)] H151 pBlk fun(x152:Nat) H153=>
 newB H153 (.cells #[(.int .i64 33)] tq3) fun b154 H155=>
 k00 PP fq53 #[(pq x152),(.slice (some ⟨b154,0,none⟩) 1 1)] H155 pBlk fun(x156:Nat) H157=>
 k00 PP fq54 #[(pq x156)] H157 k04 fun(x158:Bool) H159=>
 k02 x158
 (lw H159 r 2 (pInt .i64) fun(x160:Int)=>
 J145 ((decide (x160>0)),()) H159)
 (J145 (false,()) H159))
 (J145 (false,()) H149)) fun y146 H147=>
 rk [(.bool y146.1)] H147 R)
 (k02 (kind==34)
 (k0d (Bool×Unit) (fun J161=>
 k00 PP fq84 #[(.slice (some ⟨d,dO,none⟩) dN dC),(.int .i64 i)] H3 k04 fun(x164:Bool) H165=>
 k02 x164
 (newB H165 (.cells #[(.int .i64 10)] tq3) fun b166 H167=>
 k00 PP fq53 #[(pq r),(.slice (some ⟨b166,0,none⟩) 1 1)] H167 pBlk fun(x168:Nat) H169=>
 newB H169 (.cells #[(.int .i64 35)] tq3) fun b170 H171=>
 k00 PP fq53 #[(pq x168),(.slice (some ⟨b170,0,none⟩) 1 1)] H171 pBlk fun(x172:Nat) H173=>
 k00 PP fq54 #[(pq x172)] H173 k04 fun(x174:Bool) H175=>
 k02 x174
 (lw H175 r 2 (pInt .i64) fun(x176:Int)=>
 J161 ((decide (x176>0)),()) H175)
 (J161 (false,()) H175))
 (J161 (false,()) H165)) fun y162 H163=>
 rk [(.bool y162.1)] H163 R)
 (k02 (kind==36)
 (k0d (Bool×Unit) (fun J177=>
 k00 PP fq84 #[(.slice (some ⟨d,dO,none⟩) dN dC),(.int .i64 i)] H3 k04 fun(x180:Bool) H181=>
 k02 x180
 (newB H181 (.cells #[(.int .i64 10)] tq3) fun b182 H183=>
 k00 PP fq53 #[(pq r),(.slice (some ⟨b182,0,none⟩) 1 1)] H183 pBlk fun(x184:Nat) H185=>
 newB H185 (.cells #[(.int .i64 30)] tq3) fun b186 H187=>
 k00 PP fq53 #[(pq x184),(.slice (some ⟨b186,0,none⟩) 1 1)] H187 pBlk fun(x188:Nat) H189=>
 k00 PP fq54 #[(pq x188)] H189 k04 fun(x190:Bool) H191=>
 k02 x190
 (lw H191 r 2 (pInt .i64) fun(x192:Int)=>
 J177 ((decide (x192>0)),()) H191)
 (J177 (false,()) H191))
 (J177 (false,()) H181)) fun y178 H179=>
 rk [(.bool y178.1)] H179 R)
 (k02 (kind==29)
 (newB H3 (.cells #[(.int .i64 30)] tq3) fun b193 H194=>
 k00 PP fq53 #[(pq r),(.slice (some ⟨b193,0,none⟩) 1 1)] H194 pBlk fun(_x195:Nat) H196=>
 k0d (Bool×Unit) (fun J197=>
 k00 PP fq57 #[(.slice (some ⟨d,dO,none⟩) dN dC),(.int .i64 i)] H196 k04 fun(x200:Bool) H201=>
 k02 x200
 (k00 PP fq55 #[(pq r),(.func (.func fq44) #[] #[])] H201 k04 fun(x202:Bool) H203=>
 k02 x202
 (newB H203 (.cells #[(.int .i64 10)] tq3) fun b204 H205=>
 k00 PP fq53 #[(pq r),(.slice (some ⟨b204,0,none⟩) 1 1)] H205 pBlk fun(x206:Nat) H207=>
 k00 PP fq54 #[(pq x206)] H207 k04 fun(x208:Bool) H209=>
 J197 (x208,()) H209)
 (J197 (false,()) H203))
 (J197 (false,()) H201)) fun y198 H199=>
 rk [(.bool y198.1)] H199 R)
 (k02 (kind==30)
 (k0d (Bool×Unit) (fun J210=>
 k00 PP fq57 #[(.slice (some ⟨d,dO,none⟩) dN dC),(.int .i64 i)] H3 k04 fun(x213:Bool) H214=>
 k02 (!x213)
 (J210 (true,()) H214)
 (k00 PP fq55 #[(pq r),(.func (.func fq44) #[] #[])] H214 k04 fun(x215:Bool) H216=>
 J210 ((!x215),()) H216)) fun y211 H212=>
 k02 y211.1
 (rk [(.bool false)] H212 R)
 (k00 PP fq55 #[(pq r),(.func (.func fq45) #[] #[])] H212 k04 fun(_x217:Bool) H218=>
 newB H218 (.cells #[(.int .i64 10)] tq3) fun b219 H220=>
 k00 PP fq53 #[(pq r),(.slice (some ⟨b219,0,none⟩) 1 1)] H220 pBlk fun(x221:Nat) H222=>
 k00 PP fq54 #[(pq x221)] H222 k04 fun(x223:Bool) H224=>
 rk [(.bool x223)] H224 R))
 (k02 (kind==37)
 (k0d (Bool×Unit) (fun J225=>
 newB H3 (.cells #[(.int .i64 30)] tq3) fun b228 H229=>
 k00 PP fq53 #[(pq r),(.slice (some ⟨b228,0,none⟩) 1 1)] H229 pBlk fun(x230:Nat) H231=>
 newB H231 (.cells #[(.int .i64 38)] tq3) fun b232 H233=>
 k00 PP fq53 #[(pq x230),(.slice (some ⟨b232,0,none⟩) 1 1)] H233 pBlk fun(x234:Nat) H235=>
 k00 PP fq54 #[(pq x234)] H235 k04 fun(x236:Bool) H237=>
 k02 x236
 (lw H237 r 2 (pInt .i64) fun(x238:Int)=>
 J225 ((decide (x238>0)),()) H237)
 (J225 (false,()) H237)) fun y226 H227=>
 rk [(.bool y226.1)] H227 R)
 (k00 PP fq54 #[(pq r)] H3 k04 fun(x239:Bool) H240=>
 rk [(.bool x239)] H240 R))))))))))
theorem shapedType.enter (r:Nat) (kind:Int) (d dO dN dC:Nat) (i:Int) (H:Heap) (R:RR) (h:shapedType.W r kind d dO dN dC i H R):Fn PP fq60 #[(pq r),(.int .i64 kind),(.slice (some ⟨d,dO,none⟩) dN dC),(.int .i64 i)] H R:=
 fnE Tryz.func60 ⟨patL [(14,pBlk),(16,pBlk),(17,k04),(22,(pInt .i64)),(28,k04),(31,k04),(37,(pInt .i64)),(53,pBlk),(54,k04),(62,k04),(66,pBlk),(67,k04),(73,k04),(77,pBlk),(79,pBlk),(81,pBlk),(82,k04),(88,(pInt .i64)),(95,k04),(99,pBlk),(101,pBlk),(102,k04),(108,(pInt .i64)),(115,k04),(119,pBlk),(121,pBlk),(122,k04),(128,(pInt .i64)),(135,k04),(139,pBlk),(141,pBlk),(142,k04),(148,(pInt .i64)),(155,k04),(159,pBlk),(161,pBlk),(162,k04),(168,(pInt .i64)),(175,pBlk),(178,k04),(181,k04),(186,pBlk),(187,k04),(193,k04),(197,k04),(201,k04),(204,pBlk),(205,k04),(210,pBlk),(212,pBlk),(213,k04),(218,(pInt .i64)),(222,k04)],k06 [],k03 [],k03 [(0,[])],k05 [(3,[Slot.bool 8],false),(5,[Slot.bool 8],false),(21,[Slot.bool 8],false),(23,[Slot.bool 8],false),(25,[Slot.bool 8],false),(27,[Slot.bool 8],false),(29,[Slot.bool 8],false),(31,[Slot.bool 8],false),(34,[Slot.bool 8],false),(36,[Slot.bool 199],false),(41,[Slot.bool 8],false)]⟩ (by unfold shapedType.W;kernel_rfl) h
def rightFrom.W (d dO dN dC:Nat) (H:Heap) (R:RR):Prop:=
 k02 (((dN:Nat):Int)==0)
 (rk [(.bool false)] H R)
 (k02 (decide (((dN:Nat):Int)>400))
 (rk [(.bool false)] H R)
 ((IxOk (some ⟨d,dO,none⟩) 0 dN)∧
 k01 H false 1 ⟨d,((dO+(0:Int).toNat*6)+5),none⟩ (pInt .i64) fun(x1:Int)=>
 k02 (x1 !=((dN:Nat):Int))
 (rk [(.bool false)] H R)
 (k00 PP fq34 #[(.slice (some ⟨d,dO,none⟩) dN dC),(.int .i64 0),(.int .i64 ((dN:Nat):Int)),(.int .i64 0)] H k04 fun(x2:Bool) H3=>
 k02 (!x2)
 (rk [(.bool false)] H3 R)
 (k0e (Int×Int×Unit) (0,0,()) H3 fun z4 H5 next6=>
 k02 (decide (z4.2.1<((dN:Nat):Int)))
 ((IxOk (some ⟨d,dO,none⟩) z4.2.1 dN)∧
 k01 H5 false 1 ⟨d,((dO+z4.2.1.toNat*6)+3),none⟩ pStr fun(x7:BA)=>
 (IxOk (some ⟨d,dO,none⟩) z4.2.1 dN)∧
 k01 H5 false 1 ⟨d,((dO+z4.2.1.toNat*6)+1),none⟩ pStr fun(x8:BA)=>
 (IxOk (some ⟨d,dO,none⟩) z4.2.1 dN)∧
 k01 H5 false 1 ⟨d,((dO+z4.2.1.toNat*6)+2),none⟩ pStr fun(x9:BA)=>
 k02 (decide ((IntKind.i64.wrap (z4.1+(if 4001<(IntKind.i64.wrap ((IntKind.i64.wrap (((x7.size:Nat):Int)+((x8.size:Nat):Int)))+((x9.size:Nat):Int))) then 4001 else(IntKind.i64.wrap ((IntKind.i64.wrap (((x7.size:Nat):Int)+((x8.size:Nat):Int)))+((x9.size:Nat):Int))))))>4000))
 (rk [(.bool false)] H5 R)
 ((IxOk (some ⟨d,dO,none⟩) z4.2.1 dN)∧
 k01 H5 true 6 ⟨d,(dO+z4.2.1.toNat*6),none⟩ pNd fun(x10:Int×BA×BA×BA×Int×Int)=>
 k00 PP fq35 #[(.agg #[(.int .i64 x10.1),(.string x10.2.1),(.string x10.2.2.1),(.string x10.2.2.2.1),(.int .i64 x10.2.2.2.2.1),(.int .i64 x10.2.2.2.2.2)])] H5 k04 fun(x11:Bool) H12=>
 k02 (!x11)
 (rk [(.bool false)] H12 R)
 (k00 PP fq36 #[(.slice (some ⟨d,dO,none⟩) dN dC),(.int .i64 z4.2.1)] H12 k04 fun(x13:Bool) H14=>
 k02 (!x13)
 (rk [(.bool false)] H14 R)
 (next6 ((IntKind.i64.wrap (z4.1+(if 4001<(IntKind.i64.wrap ((IntKind.i64.wrap (((x7.size:Nat):Int)+((x8.size:Nat):Int)))+((x9.size:Nat):Int))) then 4001 else(IntKind.i64.wrap ((IntKind.i64.wrap (((x7.size:Nat):Int)+((x8.size:Nat):Int)))+((x9.size:Nat):Int)))))),(IntKind.i64.wrap (z4.2.1+1)),()) H14))))
 (rk [(.bool true)] H5 R)))))
theorem rightFrom.enter (d dO dN dC:Nat) (H:Heap) (R:RR) (h:rightFrom.W d dO dN dC H R):Fn PP fq29 #[(.slice (some ⟨d,dO,none⟩) dN dC)] H R:=
 fnE Tryz.func29 ⟨patL [(17,(pInt .i64)),(26,k04),(40,pStr),(46,pStr),(53,pStr),(64,pNd),(65,k04),(71,k04)],k06 [(0,[Slot.int .i64 3,Slot.int .i64 4])],k03 [],k03 [],k05 []⟩ (by unfold rightFrom.W;kernel_rfl) h
def AnyDocument.W (d dO dN dC:Nat) (H:Heap) (R:RR):Prop:=
 k00 PP fq29 #[(.slice (some ⟨d,dO,none⟩) dN dC)] H k04 fun(x1:Bool) H2=>
 k02 x1
 ((IxOk (some ⟨d,dO,none⟩) 0 dN)∧
 k01 H2 false 1 ⟨d,(dO+(0:Int).toNat*6),none⟩ (pInt .i64) fun(x3:Int)=>
 rk [(.bool (x3==1))] H2 R)
 (rk [(.bool false)] H2 R)
theorem AnyDocument.enter (d dO dN dC:Nat) (H:Heap) (R:RR) (h:AnyDocument.W d dO dN dC H R):Fn PP fq16 #[(.slice (some ⟨d,dO,none⟩) dN dC)] H R:=
 fnE Tryz.func16 (hz [(4,k04),(9,(pInt .i64))]) (by unfold AnyDocument.W;kernel_rfl) h
def zzFits3.W (x xO xN _xC:Nat) (H:Heap) (R:RR):Prop:=
 k02 (decide (((xN:Nat):Int)>2147483647))
 (rk [(.bool false)] H R)
 (k0e (Int×Unit) (0,()) H fun z1 H2 next3=>
 k02 (decide (z1.1<((xN:Nat):Int)))
 ((IxOk (some ⟨x,xO,none⟩) z1.1 xN)∧
 k01 H2 true 6 ⟨x,(xO+z1.1.toNat*6),none⟩ pNd fun(x4:Int×BA×BA×BA×Int×Int)=>
 newB H2 (.cells #[(.int .i64 0),sE,sE,sE,(.int .i64 0),(.int .i64 0)] tq41) fun b5 H6=>
 k08 H6 ⟨b5,0,none⟩ [(.int .i64 x4.1),(.string x4.2.1),(.string x4.2.2.1),(.string x4.2.2.2.1),(.int .i64 x4.2.2.2.2.1),(.int .i64 x4.2.2.2.2.2)] fun H7=>
 k01 H7 true 6 ⟨b5,0,none⟩ pNd fun(x8:Int×BA×BA×BA×Int×Int)=>
 k00 PP fq28 #[(.agg #[(.int .i64 x8.1),(.string x8.2.1),(.string x8.2.2.1),(.string x8.2.2.2.1),(.int .i64 x8.2.2.2.2.1),(.int .i64 x8.2.2.2.2.2)])] H7 k04 fun(x9:Bool) H10=>
 k02 (!x9)
 (rk [(.bool false)] H10 R)
 (next3 ((IntKind.i64.wrap (z1.1+1)),()) H10))
 (rk [(.bool true)] H2 R))
theorem zzFits3.enter (x xO xN xC:Nat) (H:Heap) (R:RR) (h:zzFits3.W x xO xN xC H R):Fn PP fq15 #[(.slice (some ⟨x,xO,none⟩) xN xC)] H R:=
 fnE Tryz.func15 ⟨patL [(13,pNd),(14,pNd),(15,k04)],k06 [(0,[Slot.int .i64 10])],k03 [],k03 [],k05 []⟩ (by unfold zzFits3.W;kernel_rfl) h
def zzFits4.W (x:Nd) (H:Heap) (R:RR):Prop:=
 newB H (.cells #[(.int .i64 x.kind),(.string x.name),(.string x.alias),(.string x.text),(.int .i64 x.flag),(.int .i64 x.size)] tq41) fun b1 H2=>
 lw H2 b1 1 pStr fun(x3:BA)=>
 k02 (decide (((x3.size:Nat):Int)>2147483647))
 (rk [(.bool false)] H2 R)
 (lw H2 b1 2 pStr fun(x4:BA)=>
 k02 (decide (((x4.size:Nat):Int)>2147483647))
 (rk [(.bool false)] H2 R)
 (lw H2 b1 3 pStr fun(x5:BA)=>
 k02 (decide (((x5.size:Nat):Int)>2147483647))
 (rk [(.bool false)] H2 R)
 (rk [(.bool true)] H2 R)))
theorem zzFits4.enter (x:Nd) (H:Heap) (R:RR) (h:zzFits4.W x H R):Fn PP fq28 #[(.agg #[(.int .i64 x.kind),(.string x.name),(.string x.alias),(.string x.text),(.int .i64 x.flag),(.int .i64 x.size)])] H R:=
 fnE Tryz.func28 (hz [(4,pStr),(8,pStr),(12,pStr)]) (by unfold zzFits4.W;kernel_rfl) h
def k7B.W (w:Nat) (i:Int) (H:Heap) (R:RR):Prop:=
 newB H (.cells #[(pq w)] tq46) fun b1 H2=>
 newB H2 (.cells #[(.int .i64 i)] tq3) fun b3 H4=>
 lw H4 b1 0 pBlk fun(x5:Nat)=>
 lw H4 x5 1 pSlc fun(x6:Sl)=>
 newB H4 (.cells #[(.int .i64 0)] tq3) fun b7 H8=>
 k08 H8 ⟨b7,0,none⟩ [(.int .i64 ((x6.2.1:Nat):Int))] fun H9=>
 lw H9 b1 0 pBlk fun(x10:Nat)=>
 lw H9 x10 0 pSlc fun(x11:Sl)=>
 lw H9 b3 0 (pInt .i64) fun(x12:Int)=>
 (IxOk x11.1 x12 x11.2.1)∧
 k01 H9 true 6 ⟨(k0c x11.1),(k0b x11.1+x12.toNat*6),none⟩ pNd fun(x13:Int×BA×BA×BA×Int×Int)=>
 newB H9 (.cells #[(.int .i64 0),sE,sE,sE,(.int .i64 0),(.int .i64 0)] tq41) fun b14 H15=>
 k07 H15 true 6 ⟨(k0c x11.1),(k0b x11.1+x12.toNat*6),none⟩=some (.agg #[(.int .i64 x13.1),(.string x13.2.1),(.string x13.2.2.1),(.string x13.2.2.2.1),(.int .i64 x13.2.2.2.2.1),(.int .i64 x13.2.2.2.2.2)])∧
 lc H15 b3 0 (.int .i64 x12)∧
 lc H15 x10 0 (.slice x11.1 x11.2.1 x11.2.2)∧
 lc H15 b1 0 (pq x10)∧
 k08 H15 ⟨b14,0,none⟩ [(.int .i64 x13.1),(.string x13.2.1),(.string x13.2.2.1),(.string x13.2.2.2.1),(.int .i64 x13.2.2.2.2.1),(.int .i64 x13.2.2.2.2.2)] fun H16=>
 lw H16 b14 0 (pInt .i64) fun(x17:Int)=>
 k0d (Unit) (fun J18=>
 k02 (x17==1)
 (lw H16 b1 0 pBlk fun(x21:Nat)=>
 lw H16 x21 0 pSlc fun(x22:Sl)=>
 lw H16 b3 0 (pInt .i64) fun(x23:Int)=>
 k00 PP fq26 #[(.slice x22.1 x22.2.1 x22.2.2),(.int .i64 x23)] H16 pSlc fun(x24:Sl) H25=>
 k0e (Int×Unit) (0,()) H25 fun z26 H27 next28=>
 k02 (decide (z26.1<((x24.2.1:Nat):Int)))
 (lw H27 b1 0 pBlk fun(x29:Nat)=>
 (IxOk x24.1 z26.1 x24.2.1)∧
 k01 H27 false 1 ⟨(k0c x24.1),(k0b x24.1+z26.1.toNat*1),none⟩ (pInt .i64) fun(x30:Int)=>
 k00 PP fq31 #[(pq x29),(.int .i64 x30)] H27 pUn fun(_:Unit) H32=>
 next28 ((IntKind.i64.wrap (z26.1+1)),()) H32)
 (J18 (()) H27))
 (k0d (Unit) (fun J33=>
 k02 (x17==2)
 (lw H16 b14 4 (pInt .i64) fun(x36:Int)=>
 k0d (Unit) (fun J37=>
 k02 (x36==0)
 (lw H16 b1 0 pBlk fun(x40:Nat)=>
 lw H16 b14 3 pStr fun(x41:BA)=>
 newB H16 (.cells #[(.string x41)] tq9) fun b42 H43=>
 k00 PP fq40 #[(pq x40),(.slice (some ⟨b42,0,none⟩) 1 1)] H43 pUn fun(_:Unit) H45=>
 lw H45 b14 1 pStr fun(x46:BA)=>
 k0d (Unit) (fun J47=>
 k02 (!(x46.toList==(bs []).toList))
 (lw H45 b1 0 pBlk fun(x50:Nat)=>
 lw H45 b14 1 pStr fun(x51:BA)=>
 newB H45 (.cells #[(.string x51)] tq9) fun b52 H53=>
 k00 PP fq40 #[(pq x50),(.slice (some ⟨b52,0,none⟩) 1 1)] H53 pUn fun(_:Unit) H55=>
 J47 (()) H55)
 (J47 (()) H45)) fun _y48 H49=>
 J37 (()) H49)
 (J37 (()) H16)) fun _y38 H39=>
 lw H39 b1 0 pBlk fun(x56:Nat)=>
 lw H39 b3 0 (pInt .i64) fun(x57:Int)=>
 newB H39 (.cells #[(.int .i64 4)] tq3) fun b58 H59=>
 k00 PP fq41 #[(pq x56),(.int .i64 x57),(.string (bs [40])),(.string (bs [41])),sE,(.slice (some ⟨b58,0,none⟩) 1 1)] H59 pUn fun(_:Unit) H61=>
 lw H61 b1 0 pBlk fun(x62:Nat)=>
 lw H61 b3 0 (pInt .i64) fun(x63:Int)=>
 k00 PP fq42 #[(pq x62),(.int .i64 x63)] H61 pUn fun(_:Unit) H65=>
 lw H65 b1 0 pBlk fun(x66:Nat)=>
 lw H65 b3 0 (pInt .i64) fun(x67:Int)=>
 newB H65 (.cells #[(.int .i64 5)] tq3) fun b68 H69=>
 k00 PP fq41 #[(pq x66),(.int .i64 x67),sE,sE,sE,(.slice (some ⟨b68,0,none⟩) 1 1)] H69 pUn fun(_:Unit) H71=>
 J33 (()) H71)
 (k0d (Unit) (fun J72=>
 k02 (x17==3)
 (lw H16 b1 0 pBlk fun(x75:Nat)=>
 lw H16 b14 1 pStr fun(x76:BA)=>
 lw H16 b14 3 pStr fun(x77:BA)=>
 newB H16 (.cells #[(.string (bs [102,114,97,103,109,101,110,116])),(.string x76),(.string (bs [111,110])),(.string x77)] tq9) fun b78 H79=>
 k00 PP fq40 #[(pq x75),(.slice (some ⟨b78,0,none⟩) 4 4)] H79 pUn fun(_:Unit) H81=>
 lw H81 b1 0 pBlk fun(x82:Nat)=>
 lw H81 b3 0 (pInt .i64) fun(x83:Int)=>
 k00 PP fq42 #[(pq x82),(.int .i64 x83)] H81 pUn fun(_:Unit) H85=>
 lw H85 b1 0 pBlk fun(x86:Nat)=>
 lw H85 b3 0 (pInt .i64) fun(x87:Int)=>
 newB H85 (.cells #[(.int .i64 5)] tq3) fun b88 H89=>
 k00 PP fq41 #[(pq x86),(.int .i64 x87),sE,sE,sE,(.slice (some ⟨b88,0,none⟩) 1 1)] H89 pUn fun(_:Unit) H91=>
 J72 (()) H91)
 (k0d (Unit) (fun J92=>
 k02 (x17==4)
 (lw H16 b1 0 pBlk fun(x95:Nat)=>
 lw H16 b14 1 pStr fun(x96:BA)=>
 newB H16 (.cells #[(.string (bs [36])),(.string x96),(.string (bs [58]))] tq9) fun b97 H98=>
 k00 PP fq40 #[(pq x95),(.slice (some ⟨b97,0,none⟩) 3 3)] H98 pUn fun(_:Unit) H100=>
 lw H100 b1 0 pBlk fun(x101:Nat)=>
 lw H100 b3 0 (pInt .i64) fun(x102:Int)=>
 k00 PP fq43 #[(pq x101),(.int .i64 x102),sE,(.func (.func fq44) #[] #[])] H100 pUn fun(_:Unit) H104=>
 lw H104 b1 0 pBlk fun(x105:Nat)=>
 lw H104 b3 0 (pInt .i64) fun(x106:Int)=>
 k00 PP fq43 #[(pq x105),(.int .i64 x106),(.string (bs [61])),(.func (.func fq45) #[] #[])] H104 pUn fun(_:Unit) H108=>
 J92 (()) H108)
 (k0d (Unit) (fun J109=>
 k02 (x17==5)
 (lw H16 b1 0 pBlk fun(x112:Nat)=>
 lw H16 b3 0 (pInt .i64) fun(x113:Int)=>
 newB H16 (.cells #[(.int .i64 6),(.int .i64 7),(.int .i64 8)] tq3) fun b114 H115=>
 k00 PP fq41 #[(pq x112),(.int .i64 x113),(.string (bs [123])),(.string (bs [125])),sE,(.slice (some ⟨b114,0,none⟩) 3 3)] H115 pUn fun(_:Unit) H117=>
 J109 (()) H117)
 (k0d (Unit) (fun J118=>
 k02 (x17==6)
 (lw H16 b14 2 pStr fun(x121:BA)=>
 k0d (Unit) (fun J122=>
 k02 (!(x121.toList==(bs []).toList))
 (lw H16 b1 0 pBlk fun(x125:Nat)=>
 lw H16 b14 2 pStr fun(x126:BA)=>
 newB H16 (.cells #[(.string x126),(.string (bs [58]))] tq9) fun b127 H128=>
 k00 PP fq40 #[(pq x125),(.slice (some ⟨b127,0,none⟩) 2 2)] H128 pUn fun(_:Unit) H130=>
 J122 (()) H130)
 (J122 (()) H16)) fun _y123 H124=>
 lw H124 b1 0 pBlk fun(x131:Nat)=>
 lw H124 b14 1 pStr fun(x132:BA)=>
 newB H124 (.cells #[(.string x132)] tq9) fun b133 H134=>
 k00 PP fq40 #[(pq x131),(.slice (some ⟨b133,0,none⟩) 1 1)] H134 pUn fun(_:Unit) H136=>
 lw H136 b1 0 pBlk fun(x137:Nat)=>
 lw H136 b3 0 (pInt .i64) fun(x138:Int)=>
 newB H136 (.cells #[(.int .i64 9)] tq3) fun b139 H140=>
 k00 PP fq41 #[(pq x137),(.int .i64 x138),(.string (bs [40])),(.string (bs [41])),sE,(.slice (some ⟨b139,0,none⟩) 1 1)] H140 pUn fun(_:Unit) H142=>
 lw H142 b1 0 pBlk fun(x143:Nat)=>
 lw H142 b3 0 (pInt .i64) fun(x144:Int)=>
 k00 PP fq42 #[(pq x143),(.int .i64 x144)] H142 pUn fun(_:Unit) H146=>
 lw H146 b1 0 pBlk fun(x147:Nat)=>
 lw H146 b3 0 (pInt .i64) fun(x148:Int)=>
 newB H146 (.cells #[(.int .i64 5)] tq3) fun b149 H150=>
 k00 PP fq41 #[(pq x147),(.int .i64 x148),sE,sE,sE,(.slice (some ⟨b149,0,none⟩) 1 1)] H150 pUn fun(_:Unit) H152=>
 J118 (()) H152)
 (k0d (Unit) (fun J153=>
 k02 (x17==7)
 (lw H16 b1 0 pBlk fun(x156:Nat)=>
 lw H16 b14 1 pStr fun(x157:BA)=>
 newB H16 (.cells #[(.string (bs [46,46,46])),(.string x157)] tq9) fun b158 H159=>
 k00 PP fq40 #[(pq x156),(.slice (some ⟨b158,0,none⟩) 2 2)] H159 pUn fun(_:Unit) H161=>
 lw H161 b1 0 pBlk fun(x162:Nat)=>
 lw H161 b3 0 (pInt .i64) fun(x163:Int)=>
 k00 PP fq42 #[(pq x162),(.int .i64 x163)] H161 pUn fun(_:Unit) H165=>
 J153 (()) H165)
 (k0d (Unit) (fun J166=>
 k02 (x17==8)
 (lw H16 b1 0 pBlk fun(x169:Nat)=>
 newB H16 (.cells #[(.string (bs [46,46,46]))] tq9) fun b170 H171=>
 k00 PP fq40 #[(pq x169),(.slice (some ⟨b170,0,none⟩) 1 1)] H171 pUn fun(_:Unit) H173=>
 lw H173 b14 3 pStr fun(x174:BA)=>
 k0d (Unit) (fun J175=>
 k02 (!(x174.toList==(bs []).toList))
 (lw H173 b1 0 pBlk fun(x178:Nat)=>
 lw H173 b14 3 pStr fun(x179:BA)=>
 newB H173 (.cells #[(.string (bs [111,110])),(.string x179)] tq9) fun b180 H181=>
 k00 PP fq40 #[(pq x178),(.slice (some ⟨b180,0,none⟩) 2 2)] H181 pUn fun(_:Unit) H183=>
 J175 (()) H183)
 (J175 (()) H173)) fun _y176 H177=>
 lw H177 b1 0 pBlk fun(x184:Nat)=>
 lw H177 b3 0 (pInt .i64) fun(x185:Int)=>
 k00 PP fq42 #[(pq x184),(.int .i64 x185)] H177 pUn fun(_:Unit) H187=>
 lw H187 b1 0 pBlk fun(x188:Nat)=>
 lw H187 b3 0 (pInt .i64) fun(x189:Int)=>
 newB H187 (.cells #[(.int .i64 5)] tq3) fun b190 H191=>
 k00 PP fq41 #[(pq x188),(.int .i64 x189),sE,sE,sE,(.slice (some ⟨b190,0,none⟩) 1 1)] H191 pUn fun(_:Unit) H193=>
 J166 (()) H193)
 (k0d (Bool×Unit) (fun J194=>
 k02 (x17==9)
 (J194 (true,()) H16)
 (J194 ((x17==19),()) H16)) fun y195 H196=>
 k0d (Bool×Unit) (fun J197=>
 k02 y195.1
 (lw H196 b1 0 pBlk fun(x200:Nat)=>
 lw H196 b14 1 pStr fun(x201:BA)=>
 newB H196 (.cells #[(.string x201),(.string (bs [58]))] tq9) fun b202 H203=>
 k00 PP fq40 #[(pq x200),(.slice (some ⟨b202,0,none⟩) 2 2)] H203 pUn fun(_:Unit) H205=>
 lw H205 b1 0 pBlk fun(x206:Nat)=>
 lw H205 b3 0 (pInt .i64) fun(x207:Int)=>
 k00 PP fq43 #[(pq x206),(.int .i64 x207),sE,(.func (.func fq45) #[] #[])] H205 pUn fun(_:Unit) H209=>
 J197 (true,()) H209)
 (k0d (Unit) (fun J210=>
 k02 (x17==10)
 (lw H196 b1 0 pBlk fun(x213:Nat)=>
 lw H196 b14 1 pStr fun(x214:BA)=>
 newB H196 (.cells #[(.string (bs [64])),(.string x214)] tq9) fun b215 H216=>
 k00 PP fq40 #[(pq x213),(.slice (some ⟨b215,0,none⟩) 2 2)] H216 pUn fun(_:Unit) H218=>
 lw H218 b1 0 pBlk fun(x219:Nat)=>
 lw H218 b3 0 (pInt .i64) fun(x220:Int)=>
 newB H218 (.cells #[(.int .i64 9)] tq3) fun b221 H222=>
 k00 PP fq41 #[(pq x219),(.int .i64 x220),(.string (bs [40])),(.string (bs [41])),sE,(.slice (some ⟨b221,0,none⟩) 1 1)] H222 pUn fun(_:Unit) H224=>
 J210 (()) H224)
 (lw H196 b1 0 pBlk fun(x225:Nat)=>
 lw H196 b3 0 (pInt .i64) fun(x226:Int)=>
 k00 PP fq46 #[(pq x225),(.int .i64 x226)] H196 pUn fun(_:Unit) H228=>
 J210 (()) H228)) fun _y211 H212=>
 J197 (false,()) H212)) fun _y198 H199=>
 J166 (()) H199)) fun _y167 H168=>
 J153 (()) H168)) fun _y154 H155=>
 J118 (()) H155)) fun _y119 H120=>
 J109 (()) H120)) fun _y110 H111=>
 J92 (()) H111)) fun _y93 H94=>
 J72 (()) H94)) fun _y73 H74=>
 J33 (()) H74)) fun _y34 H35=>
 J18 (()) H35)) fun _y19 H20=>
 FnC PP fq39 #[(pq b7),(pq b1),(pq b3)] H20 fun _ H229=>
 rk [] H229 R
theorem k7B.enter (w:Nat) (i:Int) (H:Heap) (R:RR) (h:k7B.W w i H R):Fn PP fq31 #[(pq w),(.int .i64 i)] H R:=
 kgq mixed Tryz.func31 ⟨patL [(8,pBlk),(11,pSlc),(14,pBlk),(17,pSlc),(18,(pInt .i64)),(20,pNd),(22,(pInt .i64)),(23,pBlk),(24,(pInt .i64)),(25,pUn),(28,pBlk),(31,pSlc),(32,(pInt .i64)),(33,pSlc),(40,pBlk),(44,(pInt .i64)),(45,pUn),(49,(pInt .i64)),(51,pBlk),(53,pStr),(55,pUn),(57,pStr),(59,pBlk),(61,pStr),(63,pUn),(64,pBlk),(65,(pInt .i64)),(67,pUn),(68,pBlk),(69,(pInt .i64)),(70,pUn),(71,pBlk),(72,(pInt .i64)),(74,pUn),(77,pBlk),(79,pStr),(81,pStr),(83,pUn),(84,pBlk),(85,(pInt .i64)),(86,pUn),(87,pBlk),(88,(pInt .i64)),(90,pUn),(93,pBlk),(95,pStr),(97,pUn),(98,pBlk),(99,(pInt .i64)),(100,pUn),(101,pBlk),(102,(pInt .i64)),(103,pUn),(106,pBlk),(107,(pInt .i64)),(109,pUn),(113,pStr),(115,pBlk),(117,pStr),(119,pUn),(120,pBlk),(122,pStr),(124,pUn),(125,pBlk),(126,(pInt .i64)),(128,pUn),(129,pBlk),(130,(pInt .i64)),(131,pUn),(132,pBlk),(133,(pInt .i64)),(135,pUn),(138,pBlk),(140,pStr),(142,pUn),(143,pBlk),(144,(pInt .i64)),(145,pUn),(148,pBlk),(150,pUn),(152,pStr),(154,pBlk),(156,pStr),(158,pUn),(159,pBlk),(160,(pInt .i64)),(161,pUn),(162,pBlk),(163,(pInt .i64)),(165,pUn),(169,pBlk),(171,pStr),(173,pUn),(174,pBlk),(175,(pInt .i64)),(176,pUn),(179,pBlk),(181,pStr),(183,pUn),(184,pBlk),(185,(pInt .i64)),(187,pUn)],k06 [(1,[Slot.int .i64 7])],k03 [(26,[]),(46,[]),(50,[]),(58,[]),(75,[]),(91,[]),(104,[]),(110,[]),(114,[]),(136,[]),(146,[]),(153,[]),(166,[Slot.bool 166]),(177,[])],k03 [],k05 []⟩ _ H R (Eq.mp (by unfold k7B.W;kernel_rfl) h)
def k3T.W (fr:Nat) (wb:Nat) (ib:Nat) (H:Heap) (R:RR):Prop:=
 lw H wb 0 pBlk fun(x1:Nat)=>
 lw H x1 2 pMap fun(x2:Nat)=>
 lw H ib 0 (pInt .i64) fun(_x3:Int)=>
 lw H fr 0 (pInt .i64) fun(_x4:Int)=>
 lw H wb 0 pBlk fun(x5:Nat)=>
 lw H x5 1 pSlc fun(_x6:Sl)=>
 (IntKind.i64=IntKind.i64)∧
 ka4 H x2 .i64 fun H7=>
 rk [] H7 R
theorem k3T.enterC (fr:Nat) (wb:Nat) (ib:Nat) (H:Heap) (R:RR) (h:k3T.W fr wb ib H R):FnC PP fq39 #[(pq fr),(pq wb),(pq ib)] H R:=
 kgp mixed Tryz.func39 (hz [(3,pBlk),(6,pMap),(7,(pInt .i64)),(8,(pInt .i64)),(9,pBlk),(12,pSlc)]) _ H R (Eq.mp (by unfold k3T.W;kernel_rfl) h)
def wPut.W (w:Nat) (l lO lN _lC:Nat) (H:Heap) (R:RR):Prop:=
 lw H w 1 pSlc fun(x1:Sl)=>
 appK H tq9 1 16 x1.1 x1.2.1 x1.2.2 (some ⟨l,lO,none⟩) lN fun a2 c3 H4=>
 k08 H4 ⟨w,1,none⟩ [(.slice a2 (x1.2.1+lN) c3)] fun H5=>
 rk [] H5 R
theorem wPut.enter (w:Nat) (l lO lN lC:Nat) (H:Heap) (R:RR) (h:wPut.W w l lO lN lC H R):Fn PP fq40 #[(pq w),(.slice (some ⟨l,lO,none⟩) lN lC)] H R:=
 fnE Tryz.func40 (hz [(8,pSlc)]) (by unfold wPut.W;kernel_rfl) h
def k7C.W (w:Nat) (i:Int) (H:Heap) (R:RR):Prop:=
 lw H w 0 pSlc fun(x1:Sl)=>
 (IxOk x1.1 i x1.2.1)∧
 k01 H true 6 ⟨(k0c x1.1),(k0b x1.1+i.toNat*6),none⟩ pNd fun(x2:Int×BA×BA×BA×Int×Int)=>
 newB H (.cells #[(.int .i64 0),sE,sE,sE,(.int .i64 0),(.int .i64 0)] tq41) fun b3 H4=>
 k08 H4 ⟨b3,0,none⟩ [(.int .i64 x2.1),(.string x2.2.1),(.string x2.2.2.1),(.string x2.2.2.2.1),(.int .i64 x2.2.2.2.2.1),(.int .i64 x2.2.2.2.2.2)] fun H5=>
 lw H5 b3 0 (pInt .i64) fun(x6:Int)=>
 k02 (x6==11)
 (lw H5 b3 1 pStr fun(x7:BA)=>
 newB H5 (.cells #[(.string (bs [36])),(.string x7)] tq9) fun b8 H9=>
 k00 PP fq40 #[(pq w),(.slice (some ⟨b8,0,none⟩) 2 2)] H9 pUn fun(_:Unit) H11=>
 rk [] H11 R)
 (k02 (x6==12)
 (lw H5 b3 3 pStr fun(x12:BA)=>
 newB H5 (.cells #[(.string x12)] tq9) fun b13 H14=>
 k00 PP fq40 #[(pq w),(.slice (some ⟨b13,0,none⟩) 1 1)] H14 pUn fun(_:Unit) H16=>
 rk [] H16 R)
 (k02 (x6==13)
 (lw H5 b3 3 pStr fun(x17:BA)=>
 newB H5 (.cells #[(.string x17)] tq9) fun b18 H19=>
 k00 PP fq40 #[(pq w),(.slice (some ⟨b18,0,none⟩) 1 1)] H19 pUn fun(_:Unit) H21=>
 rk [] H21 R)
 (k02 (x6==14)
 (lw H5 b3 4 (pInt .i64) fun(x22:Int)=>
 k02 (x22==1)
 (lw H5 b3 3 pStr fun(x23:BA)=>
 k00 PP fq75 #[(.string x23)] H5 pStr fun(x24:BA) H25=>
 newB H25 (.cells #[(.string x24)] tq9) fun b26 H27=>
 k00 PP fq40 #[(pq w),(.slice (some ⟨b26,0,none⟩) 1 1)] H27 pUn fun(_:Unit) H29=>
 rk [] H29 R)
 (lw H5 b3 3 pStr fun(x30:BA)=>
 k00 PP fq76 #[(.string x30)] H5 pStr fun(x31:BA) H32=>
 newB H32 (.cells #[(.string x31)] tq9) fun b33 H34=>
 k00 PP fq40 #[(pq w),(.slice (some ⟨b33,0,none⟩) 1 1)] H34 pUn fun(_:Unit) H36=>
 rk [] H36 R))
 (k02 (x6==23)
 (lw H5 b3 4 (pInt .i64) fun(x37:Int)=>
 k02 (x37==1)
 (lw H5 b3 3 pStr fun(x38:BA)=>
 k00 PP fq75 #[(.string x38)] H5 pStr fun(x39:BA) H40=>
 newB H40 (.cells #[(.string x39)] tq9) fun b41 H42=>
 k00 PP fq40 #[(pq w),(.slice (some ⟨b41,0,none⟩) 1 1)] H42 pUn fun(_:Unit) H44=>
 rk [] H44 R)
 (lw H5 b3 3 pStr fun(x45:BA)=>
 k00 PP fq76 #[(.string x45)] H5 pStr fun(x46:BA) H47=>
 newB H47 (.cells #[(.string x46)] tq9) fun b48 H49=>
 k00 PP fq40 #[(pq w),(.slice (some ⟨b48,0,none⟩) 1 1)] H49 pUn fun(_:Unit) H51=>
 rk [] H51 R))
 (k02 (x6==15)
 (newB H5 (.cells #[(.string (bs [102,97,108,115,101])),(.string (bs [116,114,117,101]))] tq9) fun b52 H53=>
 lw H53 b3 4 (pInt .i64) fun(x54:Int)=>
 (IxOk (some ⟨b52,0,none⟩) x54 2)∧
 k01 H53 false 1 ⟨b52,(0+x54.toNat*1),none⟩ pStr fun(x55:BA)=>
 newB H53 (.cells #[(.string x55)] tq9) fun b56 H57=>
 k00 PP fq40 #[(pq w),(.slice (some ⟨b56,0,none⟩) 1 1)] H57 pUn fun(_:Unit) H59=>
 rk [] H59 R)
 (k02 (x6==17)
 (newB H5 (.cells #[(.string (bs [91])),(.string (bs [93]))] tq9) fun b60 H61=>
 lw H61 b3 0 (pInt .i64) fun(x62:Int)=>
 k02 (x62==18)
 (newB H61 (.cells #[(.string (bs [123])),(.string (bs [125]))] tq9) fun b63 H64=>
 (IxOk (some ⟨b63,0,none⟩) 0 2)∧
 k01 H64 false 1 ⟨b63,(0+(0:Int).toNat*1),none⟩ pStr fun(x65:BA)=>
 newB H64 (.cells #[(.string x65)] tq9) fun b66 H67=>
 k00 PP fq40 #[(pq w),(.slice (some ⟨b66,0,none⟩) 1 1)] H67 pUn fun(_:Unit) H69=>
 lw H69 w 0 pSlc fun(x70:Sl)=>
 k00 PP fq26 #[(.slice x70.1 x70.2.1 x70.2.2),(.int .i64 i)] H69 pSlc fun(x71:Sl) H72=>
 k0e (Int×Unit) (0,()) H72 fun z73 H74 next75=>
 k02 (decide (z73.1<((x71.2.1:Nat):Int)))
 ((IxOk x71.1 z73.1 x71.2.1)∧
 k01 H74 false 1 ⟨(k0c x71.1),(k0b x71.1+z73.1.toNat*1),none⟩ (pInt .i64) fun(x76:Int)=>
 k00 PP fq31 #[(pq w),(.int .i64 x76)] H74 pUn fun(_:Unit) H78=>
 next75 ((IntKind.i64.wrap (z73.1+1)),()) H78)
 ((IxOk (some ⟨b63,0,none⟩) 1 2)∧
 k01 H74 false 1 ⟨b63,(0+(1:Int).toNat*1),none⟩ pStr fun(x79:BA)=>
 newB H74 (.cells #[(.string x79)] tq9) fun b80 H81=>
 k00 PP fq40 #[(pq w),(.slice (some ⟨b80,0,none⟩) 1 1)] H81 pUn fun(_:Unit) H83=>
 rk [] H83 R))
 ((IxOk (some ⟨b60,0,none⟩) 0 2)∧
 k01 H61 false 1 ⟨b60,(0+(0:Int).toNat*1),none⟩ pStr fun(x84:BA)=>
 newB H61 (.cells #[(.string x84)] tq9) fun b85 H86=>
 k00 PP fq40 #[(pq w),(.slice (some ⟨b85,0,none⟩) 1 1)] H86 pUn fun(_:Unit) H88=>
 lw H88 w 0 pSlc fun(x89:Sl)=>
 k00 PP fq26 #[(.slice x89.1 x89.2.1 x89.2.2),(.int .i64 i)] H88 pSlc fun(x90:Sl) H91=>
 k0e (Int×Unit) (0,()) H91 fun z92 H93 next94=>
 k02 (decide (z92.1<((x90.2.1:Nat):Int)))
 ((IxOk x90.1 z92.1 x90.2.1)∧
 k01 H93 false 1 ⟨(k0c x90.1),(k0b x90.1+z92.1.toNat*1),none⟩ (pInt .i64) fun(x95:Int)=>
 k00 PP fq31 #[(pq w),(.int .i64 x95)] H93 pUn fun(_:Unit) H97=>
 next94 ((IntKind.i64.wrap (z92.1+1)),()) H97)
 ((IxOk (some ⟨b60,0,none⟩) 1 2)∧
 k01 H93 false 1 ⟨b60,(0+(1:Int).toNat*1),none⟩ pStr fun(x98:BA)=>
 newB H93 (.cells #[(.string x98)] tq9) fun b99 H100=>
 k00 PP fq40 #[(pq w),(.slice (some ⟨b99,0,none⟩) 1 1)] H100 pUn fun(_:Unit) H102=>
 rk [] H102 R)))
 (k02 (x6==18)
 (newB H5 (.cells #[(.string (bs [91])),(.string (bs [93]))] tq9) fun b103 H104=>
 lw H104 b3 0 (pInt .i64) fun(x105:Int)=>
 k02 (x105==18)
 (newB H104 (.cells #[(.string (bs [123])),(.string (bs [125]))] tq9) fun b106 H107=>
 (IxOk (some ⟨b106,0,none⟩) 0 2)∧
 k01 H107 false 1 ⟨b106,(0+(0:Int).toNat*1),none⟩ pStr fun(x108:BA)=>
 newB H107 (.cells #[(.string x108)] tq9) fun b109 H110=>
 k00 PP fq40 #[(pq w),(.slice (some ⟨b109,0,none⟩) 1 1)] H110 pUn fun(_:Unit) H112=>
 lw H112 w 0 pSlc fun(x113:Sl)=>
 k00 PP fq26 #[(.slice x113.1 x113.2.1 x113.2.2),(.int .i64 i)] H112 pSlc fun(x114:Sl) H115=>
 k0e (Int×Unit) (0,()) H115 fun z116 H117 next118=>
 k02 (decide (z116.1<((x114.2.1:Nat):Int)))
 ((IxOk x114.1 z116.1 x114.2.1)∧
 k01 H117 false 1 ⟨(k0c x114.1),(k0b x114.1+z116.1.toNat*1),none⟩ (pInt .i64) fun(x119:Int)=>
 k00 PP fq31 #[(pq w),(.int .i64 x119)] H117 pUn fun(_:Unit) H121=>
 next118 ((IntKind.i64.wrap (z116.1+1)),()) H121)
 ((IxOk (some ⟨b106,0,none⟩) 1 2)∧
 k01 H117 false 1 ⟨b106,(0+(1:Int).toNat*1),none⟩ pStr fun(x122:BA)=>
 newB H117 (.cells #[(.string x122)] tq9) fun b123 H124=>
 k00 PP fq40 #[(pq w),(.slice (some ⟨b123,0,none⟩) 1 1)] H124 pUn fun(_:Unit) H126=>
 rk [] H126 R))
 ((IxOk (some ⟨b103,0,none⟩) 0 2)∧
 k01 H104 false 1 ⟨b103,(0+(0:Int).toNat*1),none⟩ pStr fun(x127:BA)=>
 newB H104 (.cells #[(.string x127)] tq9) fun b128 H129=>
 k00 PP fq40 #[(pq w),(.slice (some ⟨b128,0,none⟩) 1 1)] H129 pUn fun(_:Unit) H131=>
 lw H131 w 0 pSlc fun(x132:Sl)=>
 k00 PP fq26 #[(.slice x132.1 x132.2.1 x132.2.2),(.int .i64 i)] H131 pSlc fun(x133:Sl) H134=>
 k0e (Int×Unit) (0,()) H134 fun z135 H136 next137=>
 k02 (decide (z135.1<((x133.2.1:Nat):Int)))
 ((IxOk x133.1 z135.1 x133.2.1)∧
 k01 H136 false 1 ⟨(k0c x133.1),(k0b x133.1+z135.1.toNat*1),none⟩ (pInt .i64) fun(x138:Int)=>
 k00 PP fq31 #[(pq w),(.int .i64 x138)] H136 pUn fun(_:Unit) H140=>
 next137 ((IntKind.i64.wrap (z135.1+1)),()) H140)
 ((IxOk (some ⟨b103,0,none⟩) 1 2)∧
 k01 H136 false 1 ⟨b103,(0+(1:Int).toNat*1),none⟩ pStr fun(x141:BA)=>
 newB H136 (.cells #[(.string x141)] tq9) fun b142 H143=>
 k00 PP fq40 #[(pq w),(.slice (some ⟨b142,0,none⟩) 1 1)] H143 pUn fun(_:Unit) H145=>
 rk [] H145 R)))
 (k02 (x6==21)
 (newB H5 (.cells #[(.string (bs [91]))] tq9) fun b146 H147=>
 k00 PP fq40 #[(pq w),(.slice (some ⟨b146,0,none⟩) 1 1)] H147 pUn fun(_:Unit) H149=>
 k00 PP fq31 #[(pq w),(.int .i64 (IntKind.i64.wrap (i+1)))] H149 pUn fun(_:Unit) H151=>
 newB H151 (.cells #[(.string (bs [93]))] tq9) fun b152 H153=>
 k00 PP fq40 #[(pq w),(.slice (some ⟨b152,0,none⟩) 1 1)] H153 pUn fun(_:Unit) H155=>
 rk [] H155 R)
 (k02 (x6==22)
 (k00 PP fq31 #[(pq w),(.int .i64 (IntKind.i64.wrap (i+1)))] H5 pUn fun(_:Unit) H157=>
 newB H157 (.cells #[(.string (bs [33]))] tq9) fun b158 H159=>
 k00 PP fq40 #[(pq w),(.slice (some ⟨b158,0,none⟩) 1 1)] H159 pUn fun(_:Unit) H161=>
 rk [] H161 R)
 (k02 (x6==16)
 (lw H5 b3 1 pStr fun(x162:BA)=>
 newB H5 (.cells #[(.string x162)] tq9) fun b163 H164=>
 k00 PP fq40 #[(pq w),(.slice (some ⟨b163,0,none⟩) 1 1)] H164 pUn fun(_:Unit) H166=>
 rk [] H166 R)
 (k02 (x6==20)
 (lw H5 b3 1 pStr fun(x167:BA)=>
 newB H5 (.cells #[(.string x167)] tq9) fun b168 H169=>
 k00 PP fq40 #[(pq w),(.slice (some ⟨b168,0,none⟩) 1 1)] H169 pUn fun(_:Unit) H171=>
 rk [] H171 R)
 (k02 (x6==28)
 (lw H5 b3 1 pStr fun(x172:BA)=>
 newB H5 (.cells #[(.string x172)] tq9) fun b173 H174=>
 k00 PP fq40 #[(pq w),(.slice (some ⟨b173,0,none⟩) 1 1)] H174 pUn fun(_:Unit) H176=>
 rk [] H176 R)
 (k02 (x6==33)
 (lw H5 b3 1 pStr fun(x177:BA)=>
 newB H5 (.cells #[(.string x177)] tq9) fun b178 H179=>
 k00 PP fq40 #[(pq w),(.slice (some ⟨b178,0,none⟩) 1 1)] H179 pUn fun(_:Unit) H181=>
 rk [] H181 R)
 (k02 (x6==38)
 (lw H5 b3 1 pStr fun(x182:BA)=>
 newB H5 (.cells #[(.string x182)] tq9) fun b183 H184=>
 k00 PP fq40 #[(pq w),(.slice (some ⟨b183,0,none⟩) 1 1)] H184 pUn fun(_:Unit) H186=>
 rk [] H186 R)
 (k00 PP fq77 #[(pq w),(.int .i64 i)] H5 pUn fun(_:Unit) H188=>
 rk [] H188 R)))))))))))))))
theorem k7C.enter (w:Nat) (i:Int) (H:Heap) (R:RR) (h:k7C.W w i H R):Fn PP fq46 #[(pq w),(.int .i64 i)] H R:=
 fnE Tryz.func46 ⟨patL [(11,pSlc),(14,pNd),(16,(pInt .i64)),(19,pUn),(24,pStr),(26,pUn),(32,pStr),(34,pUn),(39,(pInt .i64)),(43,pStr),(44,pStr),(46,pUn),(49,pStr),(50,pStr),(52,pUn),(58,(pInt .i64)),(60,pStr),(62,pUn),(68,(pInt .i64)),(74,pStr),(76,pUn),(80,pSlc),(82,pSlc),(93,(pInt .i64)),(94,pUn),(98,pStr),(100,pUn),(105,pUn),(109,pUn),(112,pUn),(118,pUn),(121,pUn),(130,pStr),(132,pUn)],k06 [(1,[Slot.int .i64 7])],k03 [],k03 [],k05 []⟩ (by unfold k7C.W;kernel_rfl) h
def k7y.W (w:Nat) (i:Int) (H:Heap) (R:RR):Prop:=
 lw H w 0 pSlc fun(x1:Sl)=>
 (IxOk x1.1 i x1.2.1)∧
 k01 H true 6 ⟨(k0c x1.1),(k0b x1.1+i.toNat*6),none⟩ pNd fun(x2:Int×BA×BA×BA×Int×Int)=>
 newB H (.cells #[(.int .i64 0),sE,sE,sE,(.int .i64 0),(.int .i64 0)] tq41) fun b3 H4=>
 k08 H4 ⟨b3,0,none⟩ [(.int .i64 x2.1),(.string x2.2.1),(.string x2.2.2.1),(.string x2.2.2.2.1),(.int .i64 x2.2.2.2.2.1),(.int .i64 x2.2.2.2.2.2)] fun H5=>
 k00 PP fq131 #[(pq w),(.int .i64 i)] H5 pUn fun(_:Unit) H7=>
 lw H7 b3 0 (pInt .i64) fun(x8:Int)=>
 k02 (x8==24)
 (newB H7 (.cells #[(.string (bs [115,99,104,101,109,97]))] tq9) fun b9 H10=>
 k00 PP fq40 #[(pq w),(.slice (some ⟨b9,0,none⟩) 1 1)] H10 pUn fun(_:Unit) H12=>
 k00 PP fq42 #[(pq w),(.int .i64 i)] H12 pUn fun(_:Unit) H14=>
 newB H14 (.cells #[(.int .i64 25)] tq3) fun b15 H16=>
 k00 PP fq41 #[(pq w),(.int .i64 i),(.string (bs [123])),(.string (bs [125])),sE,(.slice (some ⟨b15,0,none⟩) 1 1)] H16 pUn fun(_:Unit) H18=>
 rk [] H18 R)
 (k02 (x8==25)
 (lw H7 b3 3 pStr fun(x19:BA)=>
 lw H7 b3 1 pStr fun(x20:BA)=>
 newB H7 (.cells #[(.string x19),(.string (bs [58])),(.string x20)] tq9) fun b21 H22=>
 k00 PP fq40 #[(pq w),(.slice (some ⟨b21,0,none⟩) 3 3)] H22 pUn fun(_:Unit) H24=>
 rk [] H24 R)
 (k02 (x8==26)
 (lw H7 b3 1 pStr fun(x25:BA)=>
 newB H7 (.cells #[(.string (bs [115,99,97,108,97,114])),(.string x25)] tq9) fun b26 H27=>
 k00 PP fq40 #[(pq w),(.slice (some ⟨b26,0,none⟩) 2 2)] H27 pUn fun(_:Unit) H29=>
 k00 PP fq42 #[(pq w),(.int .i64 i)] H29 pUn fun(_:Unit) H31=>
 rk [] H31 R)
 (k02 (x8==27)
 (lw H7 b3 1 pStr fun(x32:BA)=>
 newB H7 (.cells #[(.string (bs [116,121,112,101])),(.string x32)] tq9) fun b33 H34=>
 k00 PP fq40 #[(pq w),(.slice (some ⟨b33,0,none⟩) 2 2)] H34 pUn fun(_:Unit) H36=>
 newB H36 (.cells #[(.int .i64 28)] tq3) fun b37 H38=>
 k00 PP fq41 #[(pq w),(.int .i64 i),(.string (bs [105,109,112,108,101,109,101,110,116,115])),sE,(.string (bs [38])),(.slice (some ⟨b37,0,none⟩) 1 1)] H38 pUn fun(_:Unit) H40=>
 k00 PP fq42 #[(pq w),(.int .i64 i)] H40 pUn fun(_:Unit) H42=>
 newB H42 (.cells #[(.int .i64 29)] tq3) fun b43 H44=>
 k00 PP fq41 #[(pq w),(.int .i64 i),(.string (bs [123])),(.string (bs [125])),sE,(.slice (some ⟨b43,0,none⟩) 1 1)] H44 pUn fun(_:Unit) H46=>
 rk [] H46 R)
 (k02 (x8==31)
 (lw H7 b3 1 pStr fun(x47:BA)=>
 newB H7 (.cells #[(.string (bs [105,110,116,101,114,102,97,99,101])),(.string x47)] tq9) fun b48 H49=>
 k00 PP fq40 #[(pq w),(.slice (some ⟨b48,0,none⟩) 2 2)] H49 pUn fun(_:Unit) H51=>
 k00 PP fq42 #[(pq w),(.int .i64 i)] H51 pUn fun(_:Unit) H53=>
 newB H53 (.cells #[(.int .i64 29)] tq3) fun b54 H55=>
 k00 PP fq41 #[(pq w),(.int .i64 i),(.string (bs [123])),(.string (bs [125])),sE,(.slice (some ⟨b54,0,none⟩) 1 1)] H55 pUn fun(_:Unit) H57=>
 rk [] H57 R)
 (k02 (x8==29)
 (lw H7 b3 1 pStr fun(x58:BA)=>
 newB H7 (.cells #[(.string x58)] tq9) fun b59 H60=>
 k00 PP fq40 #[(pq w),(.slice (some ⟨b59,0,none⟩) 1 1)] H60 pUn fun(_:Unit) H62=>
 newB H62 (.cells #[(.int .i64 30)] tq3) fun b63 H64=>
 k00 PP fq41 #[(pq w),(.int .i64 i),(.string (bs [40])),(.string (bs [41])),sE,(.slice (some ⟨b63,0,none⟩) 1 1)] H64 pUn fun(_:Unit) H66=>
 k00 PP fq43 #[(pq w),(.int .i64 i),(.string (bs [58])),(.func (.func fq44) #[] #[])] H66 pUn fun(_:Unit) H68=>
 k00 PP fq42 #[(pq w),(.int .i64 i)] H68 pUn fun(_:Unit) H70=>
 rk [] H70 R)
 (k02 (x8==30)
 (lw H7 b3 1 pStr fun(x71:BA)=>
 newB H7 (.cells #[(.string x71)] tq9) fun b72 H73=>
 k00 PP fq40 #[(pq w),(.slice (some ⟨b72,0,none⟩) 1 1)] H73 pUn fun(_:Unit) H75=>
 k00 PP fq43 #[(pq w),(.int .i64 i),(.string (bs [58])),(.func (.func fq44) #[] #[])] H75 pUn fun(_:Unit) H77=>
 k00 PP fq43 #[(pq w),(.int .i64 i),(.string (bs [61])),(.func (.func fq45) #[] #[])] H77 pUn fun(_:Unit) H79=>
 k00 PP fq42 #[(pq w),(.int .i64 i)] H79 pUn fun(_:Unit) H81=>
 rk [] H81 R)
 (k02 (x8==32)
 (lw H7 b3 1 pStr fun(x82:BA)=>
 newB H7 (.cells #[(.string (bs [117,110,105,111,110])),(.string x82)] tq9) fun b83 H84=>
 k00 PP fq40 #[(pq w),(.slice (some ⟨b83,0,none⟩) 2 2)] H84 pUn fun(_:Unit) H86=>
 k00 PP fq42 #[(pq w),(.int .i64 i)] H86 pUn fun(_:Unit) H88=>
 newB H88 (.cells #[(.int .i64 33)] tq3) fun b89 H90=>
 k00 PP fq41 #[(pq w),(.int .i64 i),(.string (bs [61])),sE,(.string (bs [124])),(.slice (some ⟨b89,0,none⟩) 1 1)] H90 pUn fun(_:Unit) H92=>
 rk [] H92 R)
 (k02 (x8==34)
 (lw H7 b3 1 pStr fun(x93:BA)=>
 newB H7 (.cells #[(.string (bs [101,110,117,109])),(.string x93)] tq9) fun b94 H95=>
 k00 PP fq40 #[(pq w),(.slice (some ⟨b94,0,none⟩) 2 2)] H95 pUn fun(_:Unit) H97=>
 k00 PP fq42 #[(pq w),(.int .i64 i)] H97 pUn fun(_:Unit) H99=>
 newB H99 (.cells #[(.int .i64 35)] tq3) fun b100 H101=>
 k00 PP fq41 #[(pq w),(.int .i64 i),(.string (bs [123])),(.string (bs [125])),sE,(.slice (some ⟨b100,0,none⟩) 1 1)] H101 pUn fun(_:Unit) H103=>
 rk [] H103 R)
 (k02 (x8==35)
 (lw H7 b3 1 pStr fun(x104:BA)=>
 newB H7 (.cells #[(.string x104)] tq9) fun b105 H106=>
 k00 PP fq40 #[(pq w),(.slice (some ⟨b105,0,none⟩) 1 1)] H106 pUn fun(_:Unit) H108=>
 k00 PP fq42 #[(pq w),(.int .i64 i)] H108 pUn fun(_:Unit) H110=>
 rk [] H110 R)
 (k02 (x8==36)
 (lw H7 b3 1 pStr fun(x111:BA)=>
 newB H7 (.cells #[(.string (bs [105,110,112,117,116])),(.string x111)] tq9) fun b112 H113=>
 k00 PP fq40 #[(pq w),(.slice (some ⟨b112,0,none⟩) 2 2)] H113 pUn fun(_:Unit) H115=>
 k00 PP fq42 #[(pq w),(.int .i64 i)] H115 pUn fun(_:Unit) H117=>
 newB H117 (.cells #[(.int .i64 30)] tq3) fun b118 H119=>
 k00 PP fq41 #[(pq w),(.int .i64 i),(.string (bs [123])),(.string (bs [125])),sE,(.slice (some ⟨b118,0,none⟩) 1 1)] H119 pUn fun(_:Unit) H121=>
 rk [] H121 R)
 (k02 (x8==37)
 (lw H7 b3 1 pStr fun(x122:BA)=>
 newB H7 (.cells #[(.string (bs [100,105,114,101,99,116,105,118,101])),(.string (bs [64])),(.string x122)] tq9) fun b123 H124=>
 k00 PP fq40 #[(pq w),(.slice (some ⟨b123,0,none⟩) 3 3)] H124 pUn fun(_:Unit) H126=>
 newB H126 (.cells #[(.int .i64 30)] tq3) fun b127 H128=>
 k00 PP fq41 #[(pq w),(.int .i64 i),(.string (bs [40])),(.string (bs [41])),sE,(.slice (some ⟨b127,0,none⟩) 1 1)] H128 pUn fun(_:Unit) H130=>
 newB H130 (.cells #[(.int .i64 38)] tq3) fun b131 H132=>
 k00 PP fq41 #[(pq w),(.int .i64 i),(.string (bs [111,110])),sE,(.string (bs [124])),(.slice (some ⟨b131,0,none⟩) 1 1)] H132 pUn fun(_:Unit) H134=>
 rk [] H134 R)
 (k02 (x8==39)
 (newB H7 (.cells #[(.string (bs [101,120,116,101,110,100]))] tq9) fun b135 H136=>
 k00 PP fq40 #[(pq w),(.slice (some ⟨b135,0,none⟩) 1 1)] H136 pUn fun(_:Unit) H138=>
 k00 PP fq31 #[(pq w),(.int .i64 (IntKind.i64.wrap (i+1)))] H138 pUn fun(_:Unit) H140=>
 rk [] H140 R)
 (rk [] H7 R)))))))))))))
theorem k7y.enter (w:Nat) (i:Int) (H:Heap) (R:RR) (h:k7y.W w i H R):Fn PP fq77 #[(pq w),(.int .i64 i)] H R:=
 fnE Tryz.func77 (hz [(8,pSlc),(11,pNd),(14,pUn),(16,(pInt .i64)),(21,pUn),(24,pUn),(28,pUn),(33,pStr),(35,pStr),(37,pUn),(42,pStr),(44,pUn),(47,pUn),(52,pStr),(54,pUn),(58,pUn),(61,pUn),(65,pUn),(70,pStr),(72,pUn),(75,pUn),(79,pUn),(84,pStr),(86,pUn),(90,pUn),(93,pUn),(96,pUn),(101,pStr),(103,pUn),(106,pUn),(109,pUn),(112,pUn),(117,pStr),(119,pUn),(122,pUn),(126,pUn),(131,pStr),(133,pUn),(136,pUn),(140,pUn),(145,pStr),(147,pUn),(150,pUn),(155,pStr),(157,pUn),(160,pUn),(164,pUn),(169,pStr),(171,pUn),(175,pUn),(179,pUn),(184,pUn),(188,pUn)]) (by unfold k7y.W;kernel_rfl) h
def k7x.W (w:Nat) (i:Int) (H:Heap) (R:RR):Prop:=
 newB H (.cells #[(.int .i64 23)] tq3) fun b1 H2=>
 k00 PP fq41 #[(pq w),(.int .i64 i),sE,sE,sE,(.slice (some ⟨b1,0,none⟩) 1 1)] H2 pUn fun(_:Unit) H4=>
 rk [] H4 R
theorem k7x.enter (w:Nat) (i:Int) (H:Heap) (R:RR) (h:k7x.W w i H R):Fn PP fq131 #[(pq w),(.int .i64 i)] H R:=
 fnE Tryz.func131 (hz [(7,pUn)]) (by unfold k7x.W;kernel_rfl) h
def k7z.W (w:Nat) (i:Int) (H:Heap) (R:RR):Prop:=
 newB H (.cells #[(.int .i64 10)] tq3) fun b1 H2=>
 k00 PP fq41 #[(pq w),(.int .i64 i),sE,sE,sE,(.slice (some ⟨b1,0,none⟩) 1 1)] H2 pUn fun(_:Unit) H4=>
 rk [] H4 R
theorem k7z.enter (w:Nat) (i:Int) (H:Heap) (R:RR) (h:k7z.W w i H R):Fn PP fq42 #[(pq w),(.int .i64 i)] H R:=
 fnE Tryz.func42 (hz [(7,pUn)]) (by unfold k7z.W;kernel_rfl) h
def k7A.W (w:Nat) (i:Int) (k0m:BA) (end_:BA) (between:BA) (kinds kindsO kindsN _kindsC:Nat) (H:Heap) (R:RR):Prop:=
 lw H w 0 pSlc fun(x1:Sl)=>
 k00 PP fq26 #[(.slice x1.1 x1.2.1 x1.2.2),(.int .i64 i)] H pSlc fun(x2:Sl) H3=>
 k0e (Int×Int×Unit) (0,0,()) H3 fun z4 H5 next6=>
 k02 (decide (z4.2.1<((x2.2.1:Nat):Int)))
 (k0e (Int×Int×Unit) (z4.1,0,()) H5 fun z7 H8 next9=>
 k02 (decide (z7.2.1<((kindsN:Nat):Int)))
 (lw H8 w 0 pSlc fun(x10:Sl)=>
 (IxOk x2.1 z4.2.1 x2.2.1)∧
 k01 H8 false 1 ⟨(k0c x2.1),(k0b x2.1+z4.2.1.toNat*1),none⟩ (pInt .i64) fun(x11:Int)=>
 (IxOk x10.1 x11 x10.2.1)∧
 k01 H8 false 1 ⟨(k0c x10.1),(k0b x10.1+x11.toNat*6),none⟩ (pInt .i64) fun(x12:Int)=>
 (IxOk (some ⟨kinds,kindsO,none⟩) z7.2.1 kindsN)∧
 k01 H8 false 1 ⟨kinds,(kindsO+z7.2.1.toNat*1),none⟩ (pInt .i64) fun(x13:Int)=>
 k02 (x12 !=x13)
 (next9 (z7.1,(IntKind.i64.wrap (z7.2.1+1)),()) H8)
 (k0j (Bool×Unit) H8 (fun J14=>
 k02 (z7.1==0)
 (J14 ((!(k0m.toList==(bs []).toList)),()) H8)
 (J14 (false,()) H8)) fun y15=>
 k0d (Unit) (fun J16=>
 k02 y15.1
 (newB H8 (.cells #[(.string k0m)] tq9) fun b19 H20=>
 k00 PP fq40 #[(pq w),(.slice (some ⟨b19,0,none⟩) 1 1)] H20 pUn fun(_:Unit) H22=>
 J16 (()) H22)
 (J16 (()) H8)) fun _y17 H18=>
 k0j (Bool×Unit) H18 (fun J23=>
 k02 (decide (z7.1>0))
 (J23 ((!(between.toList==(bs []).toList)),()) H18)
 (J23 (false,()) H18)) fun y24=>
 k0d (Unit) (fun J25=>
 k02 y24.1
 (newB H18 (.cells #[(.string between)] tq9) fun b28 H29=>
 k00 PP fq40 #[(pq w),(.slice (some ⟨b28,0,none⟩) 1 1)] H29 pUn fun(_:Unit) H31=>
 J25 (()) H31)
 (J25 (()) H18)) fun _y26 H27=>
 (IxOk x2.1 z4.2.1 x2.2.1)∧
 k01 H27 false 1 ⟨(k0c x2.1),(k0b x2.1+z4.2.1.toNat*1),none⟩ (pInt .i64) fun(x32:Int)=>
 k00 PP fq31 #[(pq w),(.int .i64 x32)] H27 pUn fun(_:Unit) H34=>
 next9 ((IntKind.i64.wrap (z7.1+1)),(IntKind.i64.wrap (z7.2.1+1)),()) H34))
 (next6 (z7.1,(IntKind.i64.wrap (z4.2.1+1)),()) H8))
 (k0j (Bool×Unit) H5 (fun J35=>
 k02 (decide (z4.1>0))
 (J35 ((!(end_.toList==(bs []).toList)),()) H5)
 (J35 (false,()) H5)) fun y36=>
 k0d (Unit) (fun J37=>
 k02 y36.1
 (newB H5 (.cells #[(.string end_)] tq9) fun b40 H41=>
 k00 PP fq40 #[(pq w),(.slice (some ⟨b40,0,none⟩) 1 1)] H41 pUn fun(_:Unit) H43=>
 J37 (()) H43)
 (J37 (()) H5)) fun _y38 H39=>
 rk [] H39 R)
theorem k7A.enter (w:Nat) (i:Int) (k0m:BA) (end_:BA) (between:BA) (kinds kindsO kindsN kindsC:Nat) (H:Heap) (R:RR) (h:k7A.W w i k0m end_ between kinds kindsO kindsN kindsC H R):Fn PP fq41 #[(pq w),(.int .i64 i),(.string k0m),(.string end_),(.string between),(.slice (some ⟨kinds,kindsO,none⟩) kindsN kindsC)] H R:=
 fnE Tryz.func41 ⟨patL [(19,pSlc),(21,pSlc),(37,pSlc),(41,(pInt .i64)),(44,(pInt .i64)),(48,(pInt .i64)),(59,pUn),(69,pUn),(76,(pInt .i64)),(77,pUn),(87,pUn)],k06 [(0,[Slot.int .i64 13,Slot.int .i64 14]),(2,[Slot.int .i64 13,Slot.int .i64 15])],k03 [(55,[]),(65,[]),(83,[])],k03 [],k05 [(9,[Slot.bool 55],true),(11,[Slot.bool 65],true),(15,[Slot.bool 83],true)]⟩ (by unfold k7A.W;kernel_rfl) h
def k8L.W (w:Nat) (i:Int) (sign_:BA) (H:Heap) (R:RR):Prop:=
 lw H w 0 pSlc fun(x1:Sl)=>
 k00 PP fq26 #[(.slice x1.1 x1.2.1 x1.2.2),(.int .i64 i)] H pSlc fun(x2:Sl) H3=>
 k0e (Int×Unit) (0,()) H3 fun z4 H5 next6=>
 k02 (decide (z4.1<((x2.2.1:Nat):Int)))
 (lw H5 w 0 pSlc fun(x7:Sl)=>
 (IxOk x2.1 z4.1 x2.2.1)∧
 k01 H5 false 1 ⟨(k0c x2.1),(k0b x2.1+z4.1.toNat*1),none⟩ (pInt .i64) fun(x8:Int)=>
 (IxOk x7.1 x8 x7.2.1)∧
 k01 H5 true 6 ⟨(k0c x7.1),(k0b x7.1+x8.toNat*6),none⟩ pNd fun(x9:Int×BA×BA×BA×Int×Int)=>
 k00 PP fq44 #[(.agg #[(.int .i64 x9.1),(.string x9.2.1),(.string x9.2.2.1),(.string x9.2.2.2.1),(.int .i64 x9.2.2.2.2.1),(.int .i64 x9.2.2.2.2.2)])] H5 k04 fun(x10:Bool) H11=>
 k02 x10
 (k02 (!(sign_.toList==(bs []).toList))
 (newB H11 (.cells #[(.string sign_)] tq9) fun b12 H13=>
 k00 PP fq40 #[(pq w),(.slice (some ⟨b12,0,none⟩) 1 1)] H13 pUn fun(_:Unit) H15=>
 (IxOk x2.1 z4.1 x2.2.1)∧
 k01 H15 false 1 ⟨(k0c x2.1),(k0b x2.1+z4.1.toNat*1),none⟩ (pInt .i64) fun(x16:Int)=>
 k00 PP fq31 #[(pq w),(.int .i64 x16)] H15 pUn fun(_:Unit) H18=>
 rk [] H18 R)
 ((IxOk x2.1 z4.1 x2.2.1)∧
 k01 H11 false 1 ⟨(k0c x2.1),(k0b x2.1+z4.1.toNat*1),none⟩ (pInt .i64) fun(x19:Int)=>
 k00 PP fq31 #[(pq w),(.int .i64 x19)] H11 pUn fun(_:Unit) H21=>
 rk [] H21 R))
 (next6 ((IntKind.i64.wrap (z4.1+1)),()) H11))
 (rk [] H5 R)
theorem k8L.enter (w:Nat) (i:Int) (sign_:BA) (H:Heap) (R:RR) (h:k8L.W w i sign_ H R):Fn PP fq43 #[(pq w),(.int .i64 i),(.string sign_),(.func (.func fq44) #[] #[])] H R:=
 fnE Tryz.func43 ⟨patL [(13,pSlc),(15,pSlc),(26,pSlc),(30,(pInt .i64)),(32,pNd),(33,k04),(39,pUn),(44,(pInt .i64)),(45,pUn)],k06 [(0,[Slot.int .i64 9])],k03 [],k03 [],k05 []⟩ (by unfold k8L.W;kernel_rfl) h
def k8M.W (w:Nat) (i:Int) (sign_:BA) (H:Heap) (R:RR):Prop:=
 lw H w 0 pSlc fun(x1:Sl)=>
 k00 PP fq26 #[(.slice x1.1 x1.2.1 x1.2.2),(.int .i64 i)] H pSlc fun(x2:Sl) H3=>
 k0e (Int×Unit) (0,()) H3 fun z4 H5 next6=>
 k02 (decide (z4.1<((x2.2.1:Nat):Int)))
 (lw H5 w 0 pSlc fun(x7:Sl)=>
 (IxOk x2.1 z4.1 x2.2.1)∧
 k01 H5 false 1 ⟨(k0c x2.1),(k0b x2.1+z4.1.toNat*1),none⟩ (pInt .i64) fun(x8:Int)=>
 (IxOk x7.1 x8 x7.2.1)∧
 k01 H5 true 6 ⟨(k0c x7.1),(k0b x7.1+x8.toNat*6),none⟩ pNd fun(x9:Int×BA×BA×BA×Int×Int)=>
 k00 PP fq45 #[(.agg #[(.int .i64 x9.1),(.string x9.2.1),(.string x9.2.2.1),(.string x9.2.2.2.1),(.int .i64 x9.2.2.2.2.1),(.int .i64 x9.2.2.2.2.2)])] H5 k04 fun(x10:Bool) H11=>
 k02 x10
 (k02 (!(sign_.toList==(bs []).toList))
 (newB H11 (.cells #[(.string sign_)] tq9) fun b12 H13=>
 k00 PP fq40 #[(pq w),(.slice (some ⟨b12,0,none⟩) 1 1)] H13 pUn fun(_:Unit) H15=>
 (IxOk x2.1 z4.1 x2.2.1)∧
 k01 H15 false 1 ⟨(k0c x2.1),(k0b x2.1+z4.1.toNat*1),none⟩ (pInt .i64) fun(x16:Int)=>
 k00 PP fq31 #[(pq w),(.int .i64 x16)] H15 pUn fun(_:Unit) H18=>
 rk [] H18 R)
 ((IxOk x2.1 z4.1 x2.2.1)∧
 k01 H11 false 1 ⟨(k0c x2.1),(k0b x2.1+z4.1.toNat*1),none⟩ (pInt .i64) fun(x19:Int)=>
 k00 PP fq31 #[(pq w),(.int .i64 x19)] H11 pUn fun(_:Unit) H21=>
 rk [] H21 R))
 (next6 ((IntKind.i64.wrap (z4.1+1)),()) H11))
 (rk [] H5 R)
theorem k8M.enter (w:Nat) (i:Int) (sign_:BA) (H:Heap) (R:RR) (h:k8M.W w i sign_ H R):Fn PP fq43 #[(pq w),(.int .i64 i),(.string sign_),(.func (.func fq45) #[] #[])] H R:=
 fnE Tryz.func43 ⟨patL [(13,pSlc),(15,pSlc),(26,pSlc),(30,(pInt .i64)),(32,pNd),(33,k04),(39,pUn),(44,(pInt .i64)),(45,pUn)],k06 [(0,[Slot.int .i64 9])],k03 [],k03 [],k05 []⟩ (by unfold k8M.W;kernel_rfl) h
def TokenTexts.W (d dO dN dC:Nat) (i:Int) (H:Heap) (R:RR):Prop:=
 newB H (.map #[] 0) fun b1 H2=>
 newB H2 (.cells #[(.slice (some ⟨d,dO,none⟩) dN dC),(.slice none 0 0),(.map (some b1))] tq49) fun b3 H4=>
 k00 PP fq31 #[(pq b3),(.int .i64 i)] H4 pUn fun(_:Unit) H6=>
 lw H6 b3 1 pSlc fun(x7:Sl)=>
 rk [(.slice x7.1 x7.2.1 x7.2.2)] H6 R
theorem TokenTexts.enter (d dO dN dC:Nat) (i:Int) (H:Heap) (R:RR) (h:TokenTexts.W d dO dN dC i H R):Fn PP fq21 #[(.slice (some ⟨d,dO,none⟩) dN dC),(.int .i64 i)] H R:=
 fnE Tryz.func21 (hz [(12,pUn),(16,pSlc)]) (by unfold TokenTexts.W;kernel_rfl) h
def Gaps.W (l lO lN _lC:Nat) (byA:OA) (byAN _byAC:Nat) (H:Heap) (R:RR):Prop:=
 k0e (BA×Int×Unit) ((bs []),0,()) H fun z1 H2 next3=>
 k02 (decide (z1.2.1<((lN:Nat):Int)))
 (k0d (BA×Unit) (fun J4=>
 k02 (decide (((byAN:Nat):Int)>0))
 (newB H2 (.cells #[sE,(.string (bs [32])),(.string (bs [10])),(.string (bs [44])),(.string (bs [32,44,32])),(.string (bs [9])),(.string (bs [13,10])),(.string (bs [13])),(.string (bs [35,32,97,10])),(.string (bs [35,13])),(.string (bs [44,44,10,32,32]))] tq9) fun b7 H8=>
 ((((byAN:Nat):Int):Int)≠0)∧
 (IxOk byA (Int.tmod z1.2.1 ((byAN:Nat):Int)) byAN)∧
 k01 H8 false 1 ⟨(k0c byA),(k0b byA+(Int.tmod z1.2.1 ((byAN:Nat):Int)).toNat*1),none⟩ (pInt .u8) fun(x9:Int)=>
 ((11:Int)≠0)∧
 (IxOk (some ⟨b7,0,none⟩) (Int.tmod (IntKind.i64.wrap x9) 11) 11)∧
 k01 H8 false 1 ⟨b7,(0+(Int.tmod (IntKind.i64.wrap x9) 11).toNat*1),none⟩ pStr fun(x10:BA)=>
 J4 (x10,()) H8)
 (J4 ((bs [32]),()) H2)) fun y5 H6=>
 k0d (Bool×Unit) (fun J11=>
 k02 (y5.1.toList==(bs []).toList)
 (k02 (decide (z1.2.1>0))
 ((IxOk (some ⟨l,lO,none⟩) (IntKind.i64.wrap (z1.2.1 -1)) lN)∧
 k01 H6 false 1 ⟨l,(lO+(IntKind.i64.wrap (z1.2.1 -1)).toNat*1),none⟩ pStr fun(x14:BA)=>
 k00 PP fq32 #[(.string x14)] H6 k04 fun(x15:Bool) H16=>
 k02 x15
 ((IxOk (some ⟨l,lO,none⟩) z1.2.1 lN)∧
 k01 H16 false 1 ⟨l,(lO+z1.2.1.toNat*1),none⟩ pStr fun(x17:BA)=>
 k00 PP fq32 #[(.string x17)] H16 k04 fun(x18:Bool) H19=>
 k02 x18
 (J11 (true,()) H19)
 ((IxOk (some ⟨l,lO,none⟩) (IntKind.i64.wrap (z1.2.1 -1)) lN)∧
 k01 H19 false 1 ⟨l,(lO+(IntKind.i64.wrap (z1.2.1 -1)).toNat*1),none⟩ pStr fun(x20:BA)=>
 ((0:Int)≤0∧0<((x20.size:Nat):Int))∧
 k02 ((bt x20 0)==34)
 ((IxOk (some ⟨l,lO,none⟩) z1.2.1 lN)∧
 k01 H19 false 1 ⟨l,(lO+z1.2.1.toNat*1),none⟩ pStr fun(x21:BA)=>
 ((0:Int)≤0∧0<((x21.size:Nat):Int))∧
 J11 (((bt x21 0)==34),()) H19)
 (J11 (false,()) H19)))
 ((IxOk (some ⟨l,lO,none⟩) (IntKind.i64.wrap (z1.2.1 -1)) lN)∧
 k01 H16 false 1 ⟨l,(lO+(IntKind.i64.wrap (z1.2.1 -1)).toNat*1),none⟩ pStr fun(x22:BA)=>
 ((0:Int)≤0∧0<((x22.size:Nat):Int))∧
 k02 ((bt x22 0)==34)
 ((IxOk (some ⟨l,lO,none⟩) z1.2.1 lN)∧
 k01 H16 false 1 ⟨l,(lO+z1.2.1.toNat*1),none⟩ pStr fun(x23:BA)=>
 ((0:Int)≤0∧0<((x23.size:Nat):Int))∧
 J11 (((bt x23 0)==34),()) H16)
 (J11 (false,()) H16)))
 (J11 (false,()) H6))
 (J11 (false,()) H6)) fun y12 H13=>
 k0d (BA×Unit) (fun J24=>
 k02 y12.1
 (J24 ((bs [32]),()) H13)
 (J24 (y5.1,()) H13)) fun y25 H26=>
 k0j (Bool×Unit) H26 (fun J27=>
 k02 (decide (z1.2.1>0))
 (J27 (true,()) H26)
 (J27 ((decide (((byAN:Nat):Int)>0)),()) H26)) fun y28=>
 k0d (BA×Unit) (fun J29=>
 k02 y28.1
 ((((z1.1.size+y25.1.size:Nat):Int)≤9223372036854775807)∧
 J29 ((z1.1++y25.1),()) H26)
 (J29 (z1.1,()) H26)) fun y30 H31=>
 (IxOk (some ⟨l,lO,none⟩) z1.2.1 lN)∧
 k01 H31 false 1 ⟨l,(lO+z1.2.1.toNat*1),none⟩ pStr fun(x32:BA)=>
 (((y30.1.size+x32.size:Nat):Int)≤9223372036854775807)∧
 next3 ((y30.1++x32),(IntKind.i64.wrap (z1.2.1+1)),()) H31)
 (rk [(.string z1.1)] H2 R)
theorem Gaps.enter (l lO lN lC:Nat) (byA:OA) (byAN byAC:Nat) (H:Heap) (R:RR) (h:Gaps.W l lO lN lC byA byAN byAC H R):Fn PP fq23 #[(.slice (some ⟨l,lO,none⟩) lN lC),(.slice byA byAN byAC)] H R:=
 fnE Tryz.func23 ⟨patL [(24,(pInt .u8)),(28,pStr),(40,pStr),(41,k04),(46,pStr),(47,k04),(54,pStr),(61,pStr),(81,pStr)],k06 [(0,[Slot.str 5,Slot.int .i64 6])],k03 [(16,[Slot.str 7]),(66,[Slot.str 7]),(73,[Slot.str 5])],k03 [],k05 [(8,[Slot.bool 66],false),(10,[Slot.bool 73],true)]⟩ (by unfold Gaps.W;kernel_rfl) h
def clinging.W (s:BA) (H:Heap) (R:RR):Prop:=
 ((0:Int)≤0∧0<((s.size:Nat):Int))∧
 k00 PP fq47 #[(.int .u8 (bt s 0))] H k04 fun(x1:Bool) H2=>
 k02 x1
 (rk [(.bool true)] H2 R)
 (((0:Int)≤0∧0<((s.size:Nat):Int))∧
 k00 PP fq48 #[(.int .u8 (bt s 0))] H2 k04 fun(x3:Bool) H4=>
 k02 x3
 (rk [(.bool true)] H4 R)
 (((0:Int)≤0∧0<((s.size:Nat):Int))∧
 k02 ((bt s 0)==45)
 (rk [(.bool true)] H4 R)
 (((0:Int)≤0∧0<((s.size:Nat):Int))∧
 rk [(.bool ((bt s 0)==46))] H4 R)))
theorem clinging.enter (s:BA) (H:Heap) (R:RR) (h:clinging.W s H R):Fn PP fq32 #[(.string s)] H R:=
 fnE Tryz.func32 (hz [(5,k04),(9,k04)]) (by unfold clinging.W;kernel_rfl) h
def Quote.W (s:BA) (H:Heap) (R:RR):Prop:=
 k0e (BA×Int×Unit) ((bs [34]),0,()) H fun z1 H2 next3=>
 k02 (decide (z1.2.1<((s.size:Nat):Int)))
 (k00 PP fq79 #[(.string s),(.int .i64 z1.2.1)] H2 pII fun(x4:Int×Int) H5=>
 k02 (x4.2==0)
 ((((z1.1.size+(bs [34]).size:Nat):Int)≤9223372036854775807)∧
 rk [(.string (z1.1++(bs [34])))] H5 R)
 (k0j (Bool×Unit) H5 (fun J6=>
 k02 (x4.1==34)
 (J6 (true,()) H5)
 (J6 ((x4.1==92),()) H5)) fun y7=>
 k0d (BA×Unit) (fun J8=>
 k02 y7.1
 ((((0:Int)≤(IntKind.i64.wrap (z1.2.1+1))∧(IntKind.i64.wrap (z1.2.1+1))≤((s.size:Nat):Int))∧((0:Int)≤z1.2.1∧z1.2.1≤(((IntKind.i64.wrap (z1.2.1+1)).toNat:Nat):Int)))∧
 ((((bs [92]).size+(s.extract z1.2.1.toNat (IntKind.i64.wrap (z1.2.1+1)).toNat).size:Nat):Int)≤9223372036854775807)∧
 (((z1.1.size+((bs [92])++(s.extract z1.2.1.toNat (IntKind.i64.wrap (z1.2.1+1)).toNat)).size:Nat):Int)≤9223372036854775807)∧
 J8 ((z1.1++((bs [92])++(s.extract z1.2.1.toNat (IntKind.i64.wrap (z1.2.1+1)).toNat))),()) H5)
 (k0j (Bool×Unit) H5 (fun J11=>
 k02 (decide (x4.1<32))
 (J11 (true,()) H5)
 (k02 (x4.1==127)
 (J11 (true,()) H5)
 (J11 ((x4.1==65279),()) H5))) fun y12=>
 k0d (BA×Unit) (fun J13=>
 k02 y12.1
 ((((0:Int)≤(IntKind.i64.wrap (((x4.1:Int).fdiv (2^(min (12:Int).toNat 64)))+1))∧(IntKind.i64.wrap (((x4.1:Int).fdiv (2^(min (12:Int).toNat 64)))+1))≤(((bs [48,49,50,51,52,53,54,55,56,57,97,98,99,100,101,102]).size:Nat):Int))∧((0:Int)≤((x4.1:Int).fdiv (2^(min (12:Int).toNat 64)))∧((x4.1:Int).fdiv (2^(min (12:Int).toNat 64)))≤(((IntKind.i64.wrap (((x4.1:Int).fdiv (2^(min (12:Int).toNat 64)))+1)).toNat:Nat):Int)))∧
 ((((bs [92,117]).size+((bs [48,49,50,51,52,53,54,55,56,57,97,98,99,100,101,102]).extract ((x4.1:Int).fdiv (2^(min (12:Int).toNat 64))).toNat (IntKind.i64.wrap (((x4.1:Int).fdiv (2^(min (12:Int).toNat 64)))+1)).toNat).size:Nat):Int)≤9223372036854775807)∧
 (((0:Int)≤(IntKind.i64.wrap ((IntKind.i64.wrap ((BitVec.ofInt 64 ((x4.1:Int).fdiv (2^(min (8:Int).toNat 64)))&&&BitVec.ofInt 64 15).toNat:Int))+1))∧(IntKind.i64.wrap ((IntKind.i64.wrap ((BitVec.ofInt 64 ((x4.1:Int).fdiv (2^(min (8:Int).toNat 64)))&&&BitVec.ofInt 64 15).toNat:Int))+1))≤(((bs [48,49,50,51,52,53,54,55,56,57,97,98,99,100,101,102]).size:Nat):Int))∧((0:Int)≤(IntKind.i64.wrap ((BitVec.ofInt 64 ((x4.1:Int).fdiv (2^(min (8:Int).toNat 64)))&&&BitVec.ofInt 64 15).toNat:Int))∧(IntKind.i64.wrap ((BitVec.ofInt 64 ((x4.1:Int).fdiv (2^(min (8:Int).toNat 64)))&&&BitVec.ofInt 64 15).toNat:Int))≤(((IntKind.i64.wrap ((IntKind.i64.wrap ((BitVec.ofInt 64 ((x4.1:Int).fdiv (2^(min (8:Int).toNat 64)))&&&BitVec.ofInt 64 15).toNat:Int))+1)).toNat:Nat):Int)))∧
 (((((bs [92,117])++((bs [48,49,50,51,52,53,54,55,56,57,97,98,99,100,101,102]).extract ((x4.1:Int).fdiv (2^(min (12:Int).toNat 64))).toNat (IntKind.i64.wrap (((x4.1:Int).fdiv (2^(min (12:Int).toNat 64)))+1)).toNat)).size+((bs [48,49,50,51,52,53,54,55,56,57,97,98,99,100,101,102]).extract (IntKind.i64.wrap ((BitVec.ofInt 64 ((x4.1:Int).fdiv (2^(min (8:Int).toNat 64)))&&&BitVec.ofInt 64 15).toNat:Int)).toNat (IntKind.i64.wrap ((IntKind.i64.wrap ((BitVec.ofInt 64 ((x4.1:Int).fdiv (2^(min (8:Int).toNat 64)))&&&BitVec.ofInt 64 15).toNat:Int))+1)).toNat).size:Nat):Int)≤9223372036854775807)∧
 (((0:Int)≤(IntKind.i64.wrap ((IntKind.i64.wrap ((BitVec.ofInt 64 ((x4.1:Int).fdiv (2^(min (4:Int).toNat 64)))&&&BitVec.ofInt 64 15).toNat:Int))+1))∧(IntKind.i64.wrap ((IntKind.i64.wrap ((BitVec.ofInt 64 ((x4.1:Int).fdiv (2^(min (4:Int).toNat 64)))&&&BitVec.ofInt 64 15).toNat:Int))+1))≤(((bs [48,49,50,51,52,53,54,55,56,57,97,98,99,100,101,102]).size:Nat):Int))∧((0:Int)≤(IntKind.i64.wrap ((BitVec.ofInt 64 ((x4.1:Int).fdiv (2^(min (4:Int).toNat 64)))&&&BitVec.ofInt 64 15).toNat:Int))∧(IntKind.i64.wrap ((BitVec.ofInt 64 ((x4.1:Int).fdiv (2^(min (4:Int).toNat 64)))&&&BitVec.ofInt 64 15).toNat:Int))≤(((IntKind.i64.wrap ((IntKind.i64.wrap ((BitVec.ofInt 64 ((x4.1:Int).fdiv (2^(min (4:Int).toNat 64)))&&&BitVec.ofInt 64 15).toNat:Int))+1)).toNat:Nat):Int)))∧
 ((((((bs [92,117])++((bs [48,49,50,51,52,53,54,55,56,57,97,98,99,100,101,102]).extract ((x4.1:Int).fdiv (2^(min (12:Int).toNat 64))).toNat (IntKind.i64.wrap (((x4.1:Int).fdiv (2^(min (12:Int).toNat 64)))+1)).toNat))++((bs [48,49,50,51,52,53,54,55,56,57,97,98,99,100,101,102]).extract (IntKind.i64.wrap ((BitVec.ofInt 64 ((x4.1:Int).fdiv (2^(min (8:Int).toNat 64)))&&&BitVec.ofInt 64 15).toNat:Int)).toNat (IntKind.i64.wrap ((IntKind.i64.wrap ((BitVec.ofInt 64 ((x4.1:Int).fdiv (2^(min (8:Int).toNat 64)))&&&BitVec.ofInt 64 15).toNat:Int))+1)).toNat)).size+((bs [48,49,50,51,52,53,54,55,56,57,97,98,99,100,101,102]).extract (IntKind.i64.wrap ((BitVec.ofInt 64 ((x4.1:Int).fdiv (2^(min (4:Int).toNat 64)))&&&BitVec.ofInt 64 15).toNat:Int)).toNat (IntKind.i64.wrap ((IntKind.i64.wrap ((BitVec.ofInt 64 ((x4.1:Int).fdiv (2^(min (4:Int).toNat 64)))&&&BitVec.ofInt 64 15).toNat:Int))+1)).toNat).size:Nat):Int)≤9223372036854775807)∧
 (((0:Int)≤(IntKind.i64.wrap ((IntKind.i64.wrap ((BitVec.ofInt 64 x4.1&&&BitVec.ofInt 64 15).toNat:Int))+1))∧(IntKind.i64.wrap ((IntKind.i64.wrap ((BitVec.ofInt 64 x4.1&&&BitVec.ofInt 64 15).toNat:Int))+1))≤(((bs [48,49,50,51,52,53,54,55,56,57,97,98,99,100,101,102]).size:Nat):Int))∧((0:Int)≤(IntKind.i64.wrap ((BitVec.ofInt 64 x4.1&&&BitVec.ofInt 64 15).toNat:Int))∧(IntKind.i64.wrap ((BitVec.ofInt 64 x4.1&&&BitVec.ofInt 64 15).toNat:Int))≤(((IntKind.i64.wrap ((IntKind.i64.wrap ((BitVec.ofInt 64 x4.1&&&BitVec.ofInt 64 15).toNat:Int))+1)).toNat:Nat):Int)))∧
 (((((((bs [92,117])++((bs [48,49,50,51,52,53,54,55,56,57,97,98,99,100,101,102]).extract ((x4.1:Int).fdiv (2^(min (12:Int).toNat 64))).toNat (IntKind.i64.wrap (((x4.1:Int).fdiv (2^(min (12:Int).toNat 64)))+1)).toNat))++((bs [48,49,50,51,52,53,54,55,56,57,97,98,99,100,101,102]).extract (IntKind.i64.wrap ((BitVec.ofInt 64 ((x4.1:Int).fdiv (2^(min (8:Int).toNat 64)))&&&BitVec.ofInt 64 15).toNat:Int)).toNat (IntKind.i64.wrap ((IntKind.i64.wrap ((BitVec.ofInt 64 ((x4.1:Int).fdiv (2^(min (8:Int).toNat 64)))&&&BitVec.ofInt 64 15).toNat:Int))+1)).toNat))++((bs [48,49,50,51,52,53,54,55,56,57,97,98,99,100,101,102]).extract (IntKind.i64.wrap ((BitVec.ofInt 64 ((x4.1:Int).fdiv (2^(min (4:Int).toNat 64)))&&&BitVec.ofInt 64 15).toNat:Int)).toNat (IntKind.i64.wrap ((IntKind.i64.wrap ((BitVec.ofInt 64 ((x4.1:Int).fdiv (2^(min (4:Int).toNat 64)))&&&BitVec.ofInt 64 15).toNat:Int))+1)).toNat)).size+((bs [48,49,50,51,52,53,54,55,56,57,97,98,99,100,101,102]).extract (IntKind.i64.wrap ((BitVec.ofInt 64 x4.1&&&BitVec.ofInt 64 15).toNat:Int)).toNat (IntKind.i64.wrap ((IntKind.i64.wrap ((BitVec.ofInt 64 x4.1&&&BitVec.ofInt 64 15).toNat:Int))+1)).toNat).size:Nat):Int)≤9223372036854775807)∧
 (((z1.1.size+(((((bs [92,117])++((bs [48,49,50,51,52,53,54,55,56,57,97,98,99,100,101,102]).extract ((x4.1:Int).fdiv (2^(min (12:Int).toNat 64))).toNat (IntKind.i64.wrap (((x4.1:Int).fdiv (2^(min (12:Int).toNat 64)))+1)).toNat))++((bs [48,49,50,51,52,53,54,55,56,57,97,98,99,100,101,102]).extract (IntKind.i64.wrap ((BitVec.ofInt 64 ((x4.1:Int).fdiv (2^(min (8:Int).toNat 64)))&&&BitVec.ofInt 64 15).toNat:Int)).toNat (IntKind.i64.wrap ((IntKind.i64.wrap ((BitVec.ofInt 64 ((x4.1:Int).fdiv (2^(min (8:Int).toNat 64)))&&&BitVec.ofInt 64 15).toNat:Int))+1)).toNat))++((bs [48,49,50,51,52,53,54,55,56,57,97,98,99,100,101,102]).extract (IntKind.i64.wrap ((BitVec.ofInt 64 ((x4.1:Int).fdiv (2^(min (4:Int).toNat 64)))&&&BitVec.ofInt 64 15).toNat:Int)).toNat (IntKind.i64.wrap ((IntKind.i64.wrap ((BitVec.ofInt 64 ((x4.1:Int).fdiv (2^(min (4:Int).toNat 64)))&&&BitVec.ofInt 64 15).toNat:Int))+1)).toNat))++((bs [48,49,50,51,52,53,54,55,56,57,97,98,99,100,101,102]).extract (IntKind.i64.wrap ((BitVec.ofInt 64 x4.1&&&BitVec.ofInt 64 15).toNat:Int)).toNat (IntKind.i64.wrap ((IntKind.i64.wrap ((BitVec.ofInt 64 x4.1&&&BitVec.ofInt 64 15).toNat:Int))+1)).toNat)).size:Nat):Int)≤9223372036854775807)∧
 J13 ((z1.1++(((((bs [92,117])++((bs [48,49,50,51,52,53,54,55,56,57,97,98,99,100,101,102]).extract ((x4.1:Int).fdiv (2^(min (12:Int).toNat 64))).toNat (IntKind.i64.wrap (((x4.1:Int).fdiv (2^(min (12:Int).toNat 64)))+1)).toNat))++((bs [48,49,50,51,52,53,54,55,56,57,97,98,99,100,101,102]).extract (IntKind.i64.wrap ((BitVec.ofInt 64 ((x4.1:Int).fdiv (2^(min (8:Int).toNat 64)))&&&BitVec.ofInt 64 15).toNat:Int)).toNat (IntKind.i64.wrap ((IntKind.i64.wrap ((BitVec.ofInt 64 ((x4.1:Int).fdiv (2^(min (8:Int).toNat 64)))&&&BitVec.ofInt 64 15).toNat:Int))+1)).toNat))++((bs [48,49,50,51,52,53,54,55,56,57,97,98,99,100,101,102]).extract (IntKind.i64.wrap ((BitVec.ofInt 64 ((x4.1:Int).fdiv (2^(min (4:Int).toNat 64)))&&&BitVec.ofInt 64 15).toNat:Int)).toNat (IntKind.i64.wrap ((IntKind.i64.wrap ((BitVec.ofInt 64 ((x4.1:Int).fdiv (2^(min (4:Int).toNat 64)))&&&BitVec.ofInt 64 15).toNat:Int))+1)).toNat))++((bs [48,49,50,51,52,53,54,55,56,57,97,98,99,100,101,102]).extract (IntKind.i64.wrap ((BitVec.ofInt 64 x4.1&&&BitVec.ofInt 64 15).toNat:Int)).toNat (IntKind.i64.wrap ((IntKind.i64.wrap ((BitVec.ofInt 64 x4.1&&&BitVec.ofInt 64 15).toNat:Int))+1)).toNat))),()) H5)
 ((((0:Int)≤(IntKind.i64.wrap (z1.2.1+x4.2))∧(IntKind.i64.wrap (z1.2.1+x4.2))≤((s.size:Nat):Int))∧((0:Int)≤z1.2.1∧z1.2.1≤(((IntKind.i64.wrap (z1.2.1+x4.2)).toNat:Nat):Int)))∧
 (((z1.1.size+(s.extract z1.2.1.toNat (IntKind.i64.wrap (z1.2.1+x4.2)).toNat).size:Nat):Int)≤9223372036854775807)∧
 J13 ((z1.1++(s.extract z1.2.1.toNat (IntKind.i64.wrap (z1.2.1+x4.2)).toNat)),()) H5)) fun y14 H15=>
 J8 (y14.1,()) H15)) fun y9 H10=>
 next3 (y9.1,(IntKind.i64.wrap (z1.2.1+x4.2)),()) H10))
 ((((z1.1.size+(bs [34]).size:Nat):Int)≤9223372036854775807)∧
 rk [(.string (z1.1++(bs [34])))] H2 R)
theorem Quote.enter (s:BA) (H:Heap) (R:RR) (h:Quote.W s H R):Fn PP fq76 #[(.string s)] H R:=
 fnE Tryz.func76 ⟨patL [(14,pII)],k06 [(0,[Slot.str 3,Slot.int .i64 4])],k03 [(30,[Slot.str 3]),(45,[Slot.str 3])],k03 [],k05 [(8,[Slot.bool 30],true),(10,[Slot.bool 45],true)]⟩ (by unfold Quote.W;kernel_rfl) h
def Block.W (s:BA) (H:Heap) (R:RR):Prop:=
 k0e (BA×Int×Unit) ((bs [34,34,34,10]),0,()) H fun z1 H2 next3=>
 k02 (decide (z1.2.1<((s.size:Nat):Int)))
 (k00 PP fq80 #[(.string s),(.int .i64 z1.2.1),(.string (bs [34,34,34]))] H2 k04 fun(x4:Bool) H5=>
 k02 x4
 ((((z1.1.size+(bs [92,34,34,34]).size:Nat):Int)≤9223372036854775807)∧
 next3 ((z1.1++(bs [92,34,34,34])),(IntKind.i64.wrap (z1.2.1+3)),()) H5)
 ((((0:Int)≤(IntKind.i64.wrap (z1.2.1+1))∧(IntKind.i64.wrap (z1.2.1+1))≤((s.size:Nat):Int))∧((0:Int)≤z1.2.1∧z1.2.1≤(((IntKind.i64.wrap (z1.2.1+1)).toNat:Nat):Int)))∧
 (((z1.1.size+(s.extract z1.2.1.toNat (IntKind.i64.wrap (z1.2.1+1)).toNat).size:Nat):Int)≤9223372036854775807)∧
 next3 ((z1.1++(s.extract z1.2.1.toNat (IntKind.i64.wrap (z1.2.1+1)).toNat)),(IntKind.i64.wrap (z1.2.1+1)),()) H5))
 ((((z1.1.size+(bs [10,34,34,34]).size:Nat):Int)≤9223372036854775807)∧
 rk [(.string (z1.1++(bs [10,34,34,34])))] H2 R)
theorem Block.enter (s:BA) (H:Heap) (R:RR) (h:Block.W s H R):Fn PP fq75 #[(.string s)] H R:=
 fnE Tryz.func75 ⟨patL [(11,k04)],k06 [(0,[Slot.str 3,Slot.int .i64 4])],k03 [],k03 [],k05 []⟩ (by unfold Block.W;kernel_rfl) h
end Go.Vx
