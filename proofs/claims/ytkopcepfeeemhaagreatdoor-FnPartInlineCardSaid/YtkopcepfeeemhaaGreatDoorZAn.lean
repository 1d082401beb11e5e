/- A part of the proof of what the last text of this claim says: QD2, QD3, QD4, QD5, QD6, QA5. Conditions: none. -/
import Derived.Shelf.Spec.DecodeRune
import Derived.Shelf.Bytes.WriteAny
import Derived.Shelf.Bytes.String
import Derived.Shelf.Wr.WriteRune
import Derived.Lib.RuneBytes
import Derived.Lib.Join
import Derived.Shelf.Strings.OnBuilder
import Derived.Test.YtkopcepfeeemhaaGreatDoorZAl
import Derived.Test.YtkopcepfeeemhaaGreatDoorZAm
set_option maxRecDepth 10000
namespace Go.Vx
open Go Go.Proofs Go.RowKit
theorem below_ext {w w':World} (h:Below w.heap.size w w'):Ext [] w.heap w'.heap:=
 ⟨h.size,fun k o hk _=>by rw[h.block k (lt_of_get hk),hk]⟩
theorem below_from {A:Heap} {w w':World} (h:Below A.size w w') (he:Ext [] A w.heap):Ext [] A w'.heap:=
 ⟨by have:=he.size;have:=h.size;omega,fun k o hk _=>by rw[h.block k (lt_of_get hk)];exact he.get _ _ hk (by simp)⟩
theorem decodeRune_ok {lim:Nat} {H:Heap} (hT:TabsAt lim H) (s:ByteArray) (b off cap:Nat) (hp: ∀j,j<s.size→cellAt H ⟨b,off+j,none⟩=some (.int .u8 ((s.get! j).toNat:Nat))):
 Fn PP fq240 #[.slice (some ⟨b,off,none⟩) s.size cap] H fun v H'=>v= .tuple #[.int .i32 ((Lib.decodeGo s).1:Nat),.int .i64 ((Lib.decodeGo s).2:Nat)]∧Ext [] H H':=by
 intro w hw
 subst hw
 refine(Any7.utf8_DecodeRune lay7_32 s b off cap w (hT.tabs w rfl) hp).mono ?_
 rintro e w' ⟨rfl,hB⟩
 exact⟨_,rfl,⟨hB.os,hB.tape,hB.output⟩,rfl,below_ext hB⟩
def BufAt (B b:Nat) (l:List UInt8) (H:Heap):Prop:= ∀w:World,w.heap=H→Lib.IsBuffer tq375 tq5 B b (Lib.byteCells l) w
theorem bufAt_of {B b:Nat} {l:List UInt8} {w:World} (h:Lib.IsBuffer tq375 tq5 B b (Lib.byteCells l) w):BufAt B b l w.heap:=by
 intro w' hw
 unfold Lib.IsBuffer World.ownsRow at*
 rw[hw]
 exact h
theorem byteCells_one (l:List UInt8): ∀v∈Lib.byteCells l,v.oneCell'=true:=by
 intro v hv
 simp only[Lib.byteCells,List.mem_map] at hv
 obtain⟨b,_,rfl⟩:=hv
 rfl
theorem BufAt.new {H H':Heap} (h:H'[H.size]?=some (.cells #[.slice none 0 0,.int .i64 0,.int .i8 0] tq375)):BufAt H.size H.size [] H':=by
 intro w hw
 subst hw
 exact⟨Nat.le_refl _,.slice none 0 0,0,h,World.ownsRow_nil _ _ _ _,by simp[Value.ownBlock]⟩
theorem BufAt.ext {B b:Nat} {l:List UInt8} {H H':Heap} (h:BufAt B b l H) (he:Ext [] H H'):BufAt B b l H':=by
 intro w hw
 subst hw
 obtain⟨h1,v,lr,h2,h3,h4⟩:=h {w with heap:=H} rfl
 refine⟨h1,v,lr,he.get _ _ h2 (by simp),?_,h4⟩
 unfold World.ownsRow at h3⊢
 refine⟨h3.1,h3.2.imp id ?_⟩
 rintro⟨g,c,cur,rfl,hg,hh,hr⟩
 exact⟨g,c,cur,rfl,hg,he.get _ _ hh (by simp),hr⟩
theorem list_of_extract (s:ByteArray) (a b:Nat):(s.extract a b).data.toList=(s.data.toList.drop a).take (b -a):=by
 rw[ByteArray.data_extract,Array.toList_extract]
theorem ba_ext {a b:ByteArray} (h:a.data.toList=b.data.toList):a=b:=by
 apply ByteArray.ext
 exact Array.toList_inj.1 h
theorem toList_append (a b:ByteArray):(a++b).data.toList=a.data.toList++b.data.toList:=by
 rw[ByteArray.data_append,Array.toList_append]
theorem bt_list {s:ByteArray} {k:Nat} {x:UInt8} (h:s.data.toList[k]?=some x):bt s (k:Nat)=(x.toNat:Int):=by
 have e:((k:Nat):Int).toNat=k:=by omega
 unfold bt
 rw[e,←Array.getElem?_toList,h]
 rfl
theorem list_bt {s:ByteArray} {k:Nat} (h:k<s.size): ∃x:UInt8,s.data.toList[k]?=some x∧bt s (k:Nat)=(x.toNat:Int):=by
 have h':k<s.data.toList.length:=by rw[Array.length_toList];exact h
 exact⟨_,List.getElem?_eq_getElem h',bt_list (List.getElem?_eq_getElem h')⟩
theorem bufWrite_ok {A H:Heap} {E:Src} {b:Nat} {l:List UInt8} (he:Ext [] A H) (hb:BufAt A.size b l H) (h:SrcAt E A) (c n cap:Nat) (hn:c+n≤E.text.size) (hl:l.length≤1000000000):
 Fn PP fq242 #[.pointer (some ⟨b,0,none⟩),.slice (some ⟨E.body,c,none⟩) n cap] H fun v H'=>v= .tuple #[.int .i64 n,.nilIface]∧Ext [] A H'∧BufAt A.size b (l++(E.text.data.toList.drop c).take n) H':=by
 intro w hw
 subst hw
 have hB:=hb w rfl
 have h2:=h.ext he
 obtain⟨cs,fr,hbd,hsz,hat⟩:=h.body
 have hlt:E.body<A.size:=lt_of_get hbd
 have hlen:((E.text.data.toList.drop c).take n).length=n:=by
  have:E.text.data.size=E.text.size:=rfl
  rw[List.length_take,List.length_drop,Array.length_toList];omega
 have hsm:=h.small
 refine(Any.Buffer_Write_any lay180 A.size b (Lib.byteCells l) (Lib.byteCells ((E.text.data.toList.drop c).take n)) ⟨E.body,c,none⟩ n cap w hB he.size (byteCells_one l) ?_ ?_ ?_ (byteCells_one _) ?_).mono ?_
 ·rw[Lib.byteCells_length];exact hlen
 ·have:=hB.1
  show E.body≠b
  omega
 ·intro j v hj
  have hj1:=(List.getElem?_eq_some_iff.1 hj).1
  rw[Lib.byteCells_length,hlen] at hj1
  have hbd2:=he.get _ _ hbd (by simp)
  rw[addr_add]
  show cellAt w.heap _=_
  simp only[cellAt,hbd2,Option.isSome_none,if_false,Bool.false_eq_true]
  have h3:=hat (c+j) (by omega)
  rw[h3,←hj]
  simp only[Lib.byteCells,List.getElem?_map]
  rw[List.getElem?_take,if_pos hj1,List.getElem?_drop]
  obtain⟨x,hx,hxb⟩:=list_bt (s:=E.text) (k:=c+j) (by omega)
  rw[hx,hxb]
  rfl
 ·rw[Lib.byteCells_length];omega
 ·rintro e w' ⟨rfl,h1,h2,h3⟩
  refine⟨_,rfl,⟨h2.os,h2.tape,h2.output⟩,rfl,below_from h2 he,bufAt_of ?_⟩
  rw[Lib.byteCells_append]
  exact h1
theorem bufRune_ok {A H:Heap} {b:Nat} {l:List UInt8} (he:Ext [] A H) (hb:BufAt A.size b l H) (r:Int) (h0:0≤r∧r≤1114111) (hl:l.length≤1000000000):
 Fn PP fq245 #[.pointer (some ⟨b,0,none⟩),.int .i32 r] H fun v H'=> ∃n:Int,v= .tuple #[.int .i64 n,.nilIface]∧Ext [] A H'∧BufAt A.size b (l++Lib.encodeRune r) H':=by
 intro w hw
 subst hw
 refine(Any.Buffer_WriteRune_k layWr5 A.size b (Lib.byteCells l) r (by omega) (by omega) w (hb w rfl) he.size (byteCells_one l) (by rw[Lib.byteCells_length];omega)).mono ?_
 rintro e w' ⟨rfl,h1,h2,h3⟩
 refine⟨_,rfl,⟨h2.os,h2.tape,h2.output⟩,_,rfl,below_from h2 he,bufAt_of ?_⟩
 rw[Lib.byteCells_append,Lib.byteCells_encodeRune]
 exact h1
theorem bufString_ok {A H:Heap} {b:Nat} {l:List UInt8} (hb:BufAt A.size b l H):
 Fn PP fq244 #[.pointer (some ⟨b,0,none⟩)] H fun v H'=>v= .string ⟨l.toArray⟩∧H=H':=by
 intro w hw
 subst hw
 refine(Any.Buffer_String lay182 A.size b l w (hb w rfl)).mono ?_
 rintro e w' ⟨rfl,n,rfl⟩
 exact⟨_,rfl,⟨rfl,rfl,rfl⟩,rfl,rfl⟩
def runeG (T:ByteArray) (q:Nat):Int×Int:=if q<T.size then(if bt T q<128 then(bt T q,1) else(((Utf8.decode T q).1:Nat),((Utf8.decode T q).2:Nat))) else(-1,65533)
theorem runeG_asc {T:ByteArray} {q:Nat} (h:q<T.size) (ha:bt T q<128):runeG T q=(bt T q,1):=by unfold runeG;rw[if_pos h,if_pos ha]
theorem runeG_hi {T:ByteArray} {q:Nat} (h:q<T.size) (ha:128≤bt T q):128≤(runeG T q).1:=by
 unfold runeG;rw[if_pos h,if_neg (by omega)]
 have:=decode_hi ha
 dsimp only;omega
theorem runeG_end {T:ByteArray} {q:Nat} (h:T.size≤q):runeG T q=(-1,65533):=by unfold runeG;rw[if_neg (by omega)]
theorem runeG_is {T:ByteArray} {q:Nat} {c:Int} (hc:0≤c∧c<128) (h:(runeG T q).1=c):q<T.size∧bt T q=c:=by
 by_cases h1:q<T.size
 ·by_cases h2:bt T q<128
  ·rw[runeG_asc h1 h2] at h;exact⟨h1,h⟩
  ·have:=runeG_hi h1 (by omega);omega
 ·rw[runeG_end (by omega)] at h;dsimp only at h;omega
theorem runeG_pt {T:ByteArray} {q:Nat} {c:Int} {n:Nat} (h:PtB (bt T (q:Nat)) (bt T ((q+1:Nat):Int)) (bt T ((q+2:Nat):Int)) (bt T ((q+3:Nat):Int)) c n) (hq:q+n≤T.size):runeG T q=(c,(n:Int)):=by
 have hd:=decode_pt h hq
 have h1:q<T.size:=by
  rcases h with⟨rfl,_⟩|⟨rfl,_⟩|⟨rfl,_⟩|⟨rfl,_⟩<;>omega
 have hc:0≤c:=by
  have:=bt_range T q
  rcases h with⟨_,h,_⟩|⟨_,h⟩|⟨_,h⟩|⟨_,h⟩<;>omega
 unfold runeG
 rw[if_pos h1]
 split
 ·rename_i h2
  rcases h with⟨rfl,h,_⟩|⟨rfl,h,_⟩|⟨rfl,h,_⟩|⟨rfl,h,_⟩
  ·rw[h];rfl
  ·omega
  ·omega
  ·omega
 ·rw[hd]
  simp only[Prod.mk.injEq,and_true]
  omega
theorem runeAt_gen {E:Src} {H:Heap} (h:SrcAt E H) (q:Nat):Fn PP fq227 #[E.sl,.int .i64 q] H fun v H'=>v= .tuple #[.int .i32 (runeG E.text q).1,.int .i64 (runeG E.text q).2]∧Ext [] H H':=by
 by_cases hi:q<E.text.size
 ·by_cases ha:bt E.text q<128
  ·refine(runeAt_ok h q hi ha).mono ?_
   rintro _ _ ⟨rfl,rfl⟩
   rw[runeG_asc hi ha]
   exact⟨rfl,Ext.refl _ _⟩
  ·have hle:=h.le
   have hsm:=h.small
   refine runeAt.enter _ _ _ _ _ H _ ?_
   unfold runeAt.W
   refine fkI (fun hge=>?_) (fun hlt=>?_)
   ·exfalso;simp at hge;omega
   refine⟨ix_some (by omega) (by omega),_,h.byte hi,fkI (fun hb=>?_) (fun _=>?_)⟩
   ·exfalso;simp at hb;omega
   rw[slcO_lt (by omega)]
   have es:(E.text.extract q E.text.size).size=E.text.size -((q:Nat):Int).toNat:=by rw[ByteArray.size_extract];omega
   rw[←es]
   obtain⟨cs,fr,hbd,hsz,hat⟩:=h.body
   refine⟨⟨by omega,by omega⟩,(decodeRune_ok h.tabs (E.text.extract q E.text.size) E.body q _ (fun j hj=>?_)).mono ?_⟩
   ·have hj':j<E.text.size -q:=by rw[es] at hj;omega
    simp only[cellAt,hbd,Option.isSome_none,if_false,Bool.false_eq_true]
    rw[hat (q+j) (by omega),←bn_bt,←bn_extract _ _ _ (by omega)]
    rfl
   ·rintro _ H2 ⟨rfl,x2⟩
    refine⟨((((Lib.decodeGo (E.text.extract q E.text.size)).1:Nat):Int),(((Lib.decodeGo (E.text.extract q E.text.size)).2:Nat):Int)),rfl,rkI ⟨?_,x2⟩⟩
    have hg:Lib.decodeGo (E.text.extract q E.text.size)=Utf8.decode E.text q:=by
     unfold Lib.decodeGo
     rw[if_neg (by rw[es];omega),decode_extract _ _ (by omega)]
    have hr:runeG E.text q=((((Utf8.decode E.text q).1:Nat):Int),(((Utf8.decode E.text q).2:Nat):Int)):=by
     unfold runeG;rw[if_pos hi,if_neg ha]
    rw[hg,hr]
    rfl
 ·refine(runeAt_end q (by omega)).mono ?_
  rintro _ _ ⟨rfl,rfl⟩
  rw[runeG_end (by omega)]
  exact⟨rfl,Ext.refl _ _⟩
def c2h (a:Int):Int:=if 48≤a∧a≤57 then a -48 else if 65≤a∧a≤70 then a -55 else if 97≤a∧a≤102 then a -87 else -1
theorem char2hex_ok (a:Int) (ha:0≤a∧a<256) (H:Heap):Fn PP fq261 #[.int .i32 a] H fun v H'=>v= .int .i64 (c2h a)∧H=H':=by
 refine char2hex.enter _ H _ ?_
 unfold char2hex.W
 have e0:IntKind.i64.wrap a=a:=i64w (by omega)
 rw[e0]
 repeat' refine fkI (fun h=>?_) (fun h=>?_)
 all_goals
  refine rkI ⟨?_,rfl⟩
  simp only[decide_eq_true_eq,decide_eq_false_iff_not] at*
  unfold c2h
  first
   |(rw[if_pos (by omega),i64w (by omega)];rfl)
   |(rw[if_neg (by omega),if_pos (by omega),i64w (by omega)];rfl)
   |(rw[if_neg (by omega),if_neg (by omega),if_pos (by omega),i64w (by omega)];rfl)
   |(rw[if_neg (by omega),if_neg (by omega),if_neg (by omega)];rfl)
def uniV (x1 x3 x5 x7:Int):Int:=(IntKind.i32.wrap (IntKind.i64.wrap ((BitVec.ofInt 64 (IntKind.i64.wrap ((BitVec.ofInt 64 (IntKind.i64.wrap ((BitVec.ofInt 64 (IntKind.i64.wrap (x1*2^(min (12:Int).toNat 64)))|||BitVec.ofInt 64 (IntKind.i64.wrap (x3*2^(min (8:Int).toNat 64)))).toNat:Int))|||BitVec.ofInt 64 (IntKind.i64.wrap (x5*2^(min (4:Int).toNat 64)))).toNat:Int))|||BitVec.ofInt 64 x7).toNat:Int)))
def escL:List (Int×UInt8×UInt8×UInt8×UInt8):=
 ((List.range 32).map fun(k:Nat)=>((k:Int),48,48,(if k<16 then 48 else 49),(if k% 16<10 then(48+k% 16).toUInt8 else(87+k% 16).toUInt8)))++[(127,48,48,55,102),(65279,102,101,102,102)]
theorem esc_mem {c:Int} (h0:0≤c) (h:escaped c=true): ∃d,(c,d)∈escL:=by
 simp only[escaped,Bool.or_eq_true,decide_eq_true_eq,beq_iff_eq] at h
 rcases h with h|rfl|rfl
 ·obtain⟨k,rfl⟩: ∃k:Nat,c=k:=⟨c.toNat,by omega⟩
  refine⟨_,List.mem_append_left _ (List.mem_map.2 ⟨k,List.mem_range.2 (by omega),rfl⟩)⟩
 ·exact⟨_,List.mem_append_right _ (List.mem_cons_self ..)⟩
 ·exact⟨_,List.mem_append_right _ (List.mem_cons_of_mem _ (List.mem_cons_self ..))⟩
theorem esc_text: ∀x∈escL,(escM x.1).data.toList=[92,117,x.2.1,x.2.2.1,x.2.2.2.1,x.2.2.2.2]:=by
 intro x hx
 have h:(escL.all fun x=>decide ((escM x.1).data.toList=[92,117,x.2.1,x.2.2.1,x.2.2.2.1,x.2.2.2.2]))=true:=by decide+kernel
 have:=List.all_eq_true.1 h x hx
 exact of_decide_eq_true this
theorem esc_val: ∀x∈escL,uniV (c2h (x.2.1.toNat:Int)) (c2h (x.2.2.1.toNat:Int)) (c2h (x.2.2.2.1.toNat:Int)) (c2h (x.2.2.2.2.toNat:Int))=x.1∧0≤x.1:=by
 intro x hx
 have h:(escL.all fun x=>decide (uniV (c2h (x.2.1.toNat:Int)) (c2h (x.2.2.1.toNat:Int)) (c2h (x.2.2.2.1.toNat:Int)) (c2h (x.2.2.2.2.toNat:Int))=x.1∧0≤x.1))=true:=by decide+kernel
 have:=List.all_eq_true.1 h x hx
 exact of_decide_eq_true this
theorem uniCharCode_ok (a b c d:Int) (ha:0≤a∧a<256) (hb:0≤b∧b<256) (hc:0≤c∧c<256) (hd:0≤d∧d<256) (H:Heap):
 Fn PP fq246 #[.int .i32 a,.int .i32 b,.int .i32 c,.int .i32 d] H fun v H'=>v= .int .i32 (uniV (c2h a) (c2h b) (c2h c) (c2h d))∧H=H':=by
 refine uniCharCode.enter _ _ _ _ H _ ?_
 unfold uniCharCode.W
 refine(char2hex_ok a ha H).mono ?_
 rintro _ _ ⟨rfl,rfl⟩
 refine⟨_,rfl,(char2hex_ok b hb H).mono ?_⟩
 rintro _ _ ⟨rfl,rfl⟩
 refine⟨_,rfl,(char2hex_ok c hc H).mono ?_⟩
 rintro _ _ ⟨rfl,rfl⟩
 refine⟨_,rfl,(char2hex_ok d hd H).mono ?_⟩
 rintro _ _ ⟨rfl,rfl⟩
 exact⟨_,rfl,rkI ⟨rfl,rfl⟩⟩
theorem Sfx.drop {t r:ByteArray} {i:Nat} (h:Sfx t i r):t.data.toList.drop i=r.data.toList:=by
 obtain⟨pre,rfl,rfl⟩:=h
 rw[ByteArray.data_append,Array.toList_append,List.drop_left']
 rw[Array.length_toList];rfl
theorem take_one {s:ByteArray} {k:Nat} {c:Int} (h:k<s.size) (hc:bt s (k:Nat)=c) (hlt:c<128):s.data.toList.take (k+1)=s.data.toList.take k++Lib.encodeRune c:=by
 obtain⟨x,hx,hb⟩:=list_bt h
 have h0:0≤c:=by rw[←hc,hb];omega
 rw[List.take_add_one,hx]
 have:Lib.encodeRune c=[x]:=by
  unfold Lib.encodeRune
  rw[Lib.encodeRuneZ_one h0 (by omega)]
  have e:c.toNat=x.toNat:=by omega
  simp[e]
 rw[this];rfl
theorem take_bom {s:ByteArray} {k:Nat} (h:k+3≤s.size) (h0:bt s (k:Nat)=239) (h1:bt s ((k+1:Nat):Int)=187) (h2:bt s ((k+2:Nat):Int)=191):
 s.data.toList.take (k+3)=s.data.toList.take k++Lib.encodeRune 65279:=by
 obtain⟨x,hx,hb⟩:=list_bt (s:=s) (k:=k) (by omega)
 obtain⟨y,hy,hb1⟩:=list_bt (s:=s) (k:=k+1) (by omega)
 obtain⟨z,hz,hb2⟩:=list_bt (s:=s) (k:=k+2) (by omega)
 have e:Lib.encodeRune 65279=[239,187,191]:=by decide
 have ex:x=239:=UInt8.toNat_inj.1 (by show x.toNat=239;omega)
 have ey:y=187:=UInt8.toNat_inj.1 (by show y.toNat=187;omega)
 have ez:z=191:=UInt8.toNat_inj.1 (by show z.toNat=191;omega)
 rw[show k+3=k+2+1 from rfl,List.take_add_one,hz,show k+2=k+1+1 from rfl,List.take_add_one,hy,List.take_add_one,hx,e,ex,ey,ez]
 simp
def StrInv (E:Src) (s rest:ByteArray) (i:Nat) (A:Heap) (q0:Nat) (y1 y3:Int) (H:Heap):Prop:=
 ∃(k q cs:Nat) (l:List UInt8),y1=(q:Int)∧y3=(cs:Int)∧q0≤q∧Pts s (fun _ c=>c≠0∧c≤65535) k∧k≤s.size∧Sfx E.text q (quoteGo s k++rest)∧i+1≤cs∧cs≤q∧BufAt A.size A.size l H∧
  l++(E.text.data.toList.drop cs).take (q -cs)=s.data.toList.take k∧Ext [] A H
theorem wrapB {q:Nat} (h:q<4294967296):IntKind.i64.wrap (((q+1:Nat):Int) -1)=(q:Int):=by rw[i64w (by omega)];omega
theorem PtB.congr {b0 b1 b2 b3 a0 a1 a2 a3 c:Int} {n:Nat} (h:PtB b0 b1 b2 b3 c n) (h0:a0=b0) (h1:1<n→a1=b1) (h2:2<n→a2=b2) (h3:3<n→a3=b3):PtB a0 a1 a2 a3 c n:=by
 subst h0
 rcases h with⟨rfl,hr⟩|⟨rfl,hr⟩|⟨rfl,hr⟩|⟨rfl,hr⟩
 ·exact .inl ⟨rfl,hr⟩
 ·rw[h1 (by omega)];exact .inr (.inl ⟨rfl,hr⟩)
 ·rw[h1 (by omega),h2 (by omega)];exact .inr (.inr (.inl ⟨rfl,hr⟩))
 ·rw[h1 (by omega),h2 (by omega),h3 (by omega)];exact .inr (.inr (.inr ⟨rfl,hr⟩))
theorem take_drop_add (L:List UInt8) (cs q n:Nat) (h:cs≤q):(L.drop cs).take (q+n -cs)=(L.drop cs).take (q -cs)++(L.drop q).take n:=by
 have e1:q+n -cs=(q -cs)+n:=by omega
 rw[e1,List.take_add,List.drop_drop]
 congr 3;omega
theorem readString_ok {E:Src} {H:Heap} (h:SrcAt E H) (i:Nat) (s rest:ByteArray) (hsf:Sfx E.text i (quoteM s++rest)) (ht:TextP s) (hss:s.size≤1000000):
 Fn PP fq231 #[.pointer (some ⟨E.src,0,none⟩),.int .i64 i] H fun r H'=>
  r= .tuple #[.agg #[.int .i64 18,.int .i64 i,.int .i64 ((i+(quoteM s).size:Nat):Int),.string s],.nilIface]∧Ext [] H H':=by
 have hsm:=h.small
 have hz:=hsf.size
 rw[ByteArray.size_append] at hz
 have hq0:Sfx E.text (i+1) (quoteGo s 0++rest):=by
  have e:quoteM s++rest=bs [34]++(quoteGo s 0++rest):=by unfold quoteM;rw[ByteArray.append_assoc]
  rw[e] at hsf;exact hsf.next
 refine readString.enter _ _ H _ ?_
 unfold readString.W
 refine nbI fun H1 e1 hb1 x1 s1=>?_
 have h1:=h.ext x1
 obtain⟨nm,fr,hsrc⟩:=h1.src
 refine⟨(E.body,0,E.text.size,E.cap),lcO hsrc rfl,?_⟩
 dsimp only
 refine nbI fun H2 e2 hb2 x2 s2=>?_
 have hle:=h.le
 have eq0:(quoteM s).size=1+(quoteGo s 0).size:=by
  unfold quoteM
  rw[ByteArray.size_append]
  rfl
 rw[wrap1 (k:=i) (by omega)]
 refine⟨fun z H'=>StrInv E s rest i H1 0 z.1 z.2.2.1 H',fun z _=>E.text.size -z.1.toNat,⟨0,i+1,i+1,[],rfl,rfl,Nat.zero_le _,ht,Nat.zero_le _,hq0,Nat.le_refl _,Nat.le_refl _,BufAt.new hb2,by simp,x2⟩,?_⟩
 rintro⟨_,rp,_,_⟩ H3 ⟨k,q,cs,l,hy1,hy3,_,hp,hks,hsq,hics,hcq,hbuf,hcont,x3⟩
 dsimp only at hy1 hy3⊢
 subst hy1;subst hy3
 have h3:=h1.ext x3
 have hlen:l.length≤1000000:=by
  have:=congrArg List.length hcont
  simp only[List.length_append,List.length_take,Array.length_toList] at this
  have e:s.data.size=s.size:=rfl
  omega
 refine(runeAt_gen h3 q).mono ?_
 rintro _ H4 ⟨rfl,x4⟩
 refine⟨runeG E.text q,rfl,?_⟩
 have y4:=x3.trans x4
 have hbuf4:=hbuf.ext x4
 have hqz:=hsq.size
 rw[ByteArray.size_append] at hqz
 have en:((q:Nat):Int).toNat -((cs:Nat):Int).toNat=q -cs:=by omega
 cases hp with
 |done=>
  have eq:quoteGo s s.size=bs [34]:=by unfold quoteGo;rw[dif_neg (by omega)]
  rw[eq] at hsq hqz
  have e1:(bs [34]).size=1:=rfl
  have hb:bt E.text q=34:=by rw[hsq.bt0];exact bt_bs_cons 34 [] rest
  have hr:runeG E.text q=(34,1):=by rw[runeG_asc (by omega) (by rw[hb];decide),hb]
  rw[hr]
  dsimp only
  refine⟨(false,()),fkI (fun _=>fkI (fun _=>fkI (fun _=>⟨rfl,rfl⟩) (fun hh=>absurd hh (by decide))) (fun hh=>absurd hh (by decide))) (fun hh=>by exfalso;simp at hh;omega),?_⟩
  refine fkI (fun hh=>absurd hh (by decide)) (fun _=>fkI (fun hh=>absurd hh (by decide)) (fun _=>?_))
  rw[slcO_lt (by omega),en]
  refine⟨⟨⟨by omega,by omega⟩,by omega,by omega⟩,(bufWrite_ok y4 hbuf4 h1 cs (q -cs) _ (by omega) (by omega)).mono ?_⟩
  rintro _ H5 ⟨rfl,x5,hbuf5⟩
  refine⟨((q -cs:Nat):Int),rfl,(bufString_ok hbuf5).mono ?_⟩
  rintro _ _ ⟨rfl,rfl⟩
  have hstr:(⟨(l++(E.text.data.toList.drop cs).take (q -cs)).toArray⟩:ByteArray)=s:=by
   rw[hcont]
   apply ba_ext
   have e:s.data.size=s.size:=rfl
   simp only
   rw[List.take_of_length_le (by rw[Array.length_toList];omega)]
  rw[hstr]
  refine⟨s,rfl,?_⟩
  rw[wrap1 (k:=q) (by omega)]
  refine(makeToken_ok _ _ _ _ _).mono ?_
  rintro _ H6 ⟨rfl,x6⟩
  refine⟨(18,(i:Int),((q+1:Nat):Int),s),rfl,?_⟩
  dsimp only
  have y6:=x5.trans x6
  have hb6:=y6.get _ _ hb1 (by simp)
  refine swI hb6 (by simp) rfl rfl fun H7 e7 hb7 x7 s7=>?_
  have hb7':H7[H.size]?=some (.cells #[.int .i64 18,.int .i64 i,.int .i64 ((q+1:Nat):Int),.string s] tq85):=hb7
  rw[lcO hb7' rfl]
  have eq2:q+1=i+(quoteM s).size:=by omega
  rw[←eq2]
  refine rkI ⟨rfl,?_⟩
  rw[e7]
  exact(x1.trans y6).setNew (Nat.le_refl _) _
 |step _ c n hk hpt hn0 hcr hp'=>
  obtain⟨hPt,hkn⟩:=point_bytes hpt hn0 hk
  have hc0:0≤c:=by have:=pointM_nonneg s k;rw[hpt] at this;exact this
  have eqg:quoteGo s k=quoteOne s k c n++quoteGo s (k+n):=by
   have e9:quoteGo s k=if _h:k<s.size then if _h2:(pointM s k).2=0 then bs [34] else quoteOne s k (pointM s k).1 (pointM s k).2++quoteGo s (k+(pointM s k).2) else bs [34]:=by
    conv=>lhs;unfold quoteGo
   rw[e9,dif_pos hk,dif_neg (by rw[hpt];exact hn0),hpt]
  rw[eqg,ByteArray.append_assoc] at hsq
  have hqz2:=hsq.size
  rw[ByteArray.size_append] at hqz2
  have hnx:=hsq.next
  have fin: ∀(y:Int×Int×Int×Unit) (H':Heap),q<E.text.size→StrInv E s rest i H1 (q+1) y.1 y.2.2.1 H'→(StrInv E s rest i H1 0 y.1 y.2.2.1 H'∧E.text.size -y.1.toNat<E.text.size -((q:Nat):Int).toNat):=by
   rintro y H' hq ⟨k',q',cs',l',g1,g2,g3,hr⟩
   refine⟨⟨k',q',cs',l',g1,g2,Nat.zero_le _,hr⟩,?_⟩
   omega
  have hinv: ∀(q':Nat) (H':Heap),Sfx E.text q' (quoteGo s (k+n)++rest)→q+1≤q'→Ext [] H1 H'→BufAt H1.size H1.size (s.data.toList.take (k+n)) H'→StrInv E s rest i H1 (q+1) ((q':Nat):Int) ((q':Nat):Int) H':=
   fun q' H' g1 g2 g3 g4=>⟨k+n,q',q',_,rfl,rfl,g2,hp',hkn,g1,by omega,Nat.le_refl _,g4,by simp,g3⟩
  by_cases hA:(c==34||c==92)=true
  ·have hA':c=34∨c=92:=by simpa using hA
   have hn1:n=1:=by
    rcases hPt with⟨h,_⟩|⟨_,h⟩|⟨_,h⟩|⟨_,h⟩<;>omega
   subst hn1
   have hbk:bt s (k:Nat)=c:=by
    rcases hPt with⟨_,h,_⟩|⟨h,_⟩|⟨h,_⟩|⟨h,_⟩
    ·exact h.symm
    ·omega
    ·omega
    ·omega
   have hqo:quoteOne s k c 1=bs [92]++s.extract k (k+1):=by unfold quoteOne;rw[if_pos hA]
   have es:(s.extract k (k+1)).size=1:=by rw[ByteArray.size_extract];omega
   have eq2:(quoteOne s k c 1).size=2:=by rw[hqo,ByteArray.size_append,es];rfl
   have hb0:bt E.text q=92:=by rw[hsq.bt0,hqo,ByteArray.append_assoc];exact bt_bs_cons 92 [] _
   have hb1':bt E.text ((q+1:Nat):Int)=c:=by
    rw[hsq.bt 1,bt_left _ _ _ (by omega),hqo]
    have e1:(bs [92]).size=1:=rfl
    have:=bt_right (bs [92]) (s.extract k (k+1)) 0
    rw[e1] at this
    rw[show((1:Nat):Int)=((1+0:Nat):Int) from rfl,this]
    obtain⟨x,hx,hxb⟩:=list_bt hk
    have h9:(s.extract k (k+1)).data.toList[0]?=some x:=by
     rw[list_of_extract,show k+1 -k=1 by omega,List.getElem?_take,if_pos (by omega),List.getElem?_drop]
     exact hx
    rw[bt_list h9,←hxb,hbk]
   have hr:runeG E.text q=(92,1):=by rw[runeG_asc (by omega) (by rw[hb0];decide),hb0]
   have hr2:runeG E.text (q+1)=(c,1):=by rw[runeG_asc (by omega) (by rw[hb1'];omega),hb1']
   rw[hr]
   dsimp only
   refine⟨(true,()),fkI (fun _=>fkI (fun _=>fkI (fun _=>⟨rfl,rfl⟩) (fun hh=>absurd hh (by decide))) (fun hh=>absurd hh (by decide))) (fun hh=>by exfalso;simp at hh;omega),?_⟩
   refine fkI (fun _=>?_) (fun hh=>absurd hh (by decide))
   refine⟨(false,()),fkI (fun hh=>absurd hh (by decide)) (fun _=>⟨rfl,rfl⟩),fkI (fun hh=>absurd hh (by decide)) (fun _=>?_)⟩
   refine⟨fun y H'=>StrInv E s rest i H1 (q+1) y.1 y.2.2.1 H',?_,fun y H' hy=>fin y H' (by omega) hy⟩
   refine fkI (fun _=>?_) (fun hh=>absurd hh (by decide))
   rw[wrap1 (k:=q) (by omega),wrapB (by omega),slcO_lt (by omega),en]
   refine⟨⟨⟨by omega,by omega⟩,by omega,by omega⟩,(bufWrite_ok y4 hbuf4 h1 cs (q -cs) _ (by omega) (by omega)).mono ?_⟩
   rintro _ H5 ⟨rfl,x5,hbuf5⟩
   rw[hcont] at hbuf5
   refine⟨_,rfl,(runeAt_gen (h1.ext x5) (q+1)).mono ?_⟩
   rintro _ H6 ⟨rfl,x6⟩
   refine⟨runeG E.text (q+1),rfl,?_⟩
   have y6:=x5.trans x6
   have hbuf6:=hbuf5.ext x6
   have hl6:(s.data.toList.take k).length≤1000000000:=by rw[List.length_take,Array.length_toList];have e:s.data.size=s.size:=rfl;omega
   rw[hr2]
   dsimp only
   refine⟨fun y H'=>y.1=((q+1:Nat):Int)∧Ext [] H1 H'∧BufAt H1.size H1.size (s.data.toList.take (k+1)) H',?_,?_⟩
   ·rw[take_one hk hbk (by omega)]
    rcases hA' with rfl|rfl
    ·refine fkI (fun _=>?_) (fun hh=>absurd hh (by decide))
     refine(bufRune_ok y6 hbuf6 34 (by decide) hl6).mono ?_
     rintro _ H7 ⟨m,rfl,x7,hb7⟩
     exact⟨m,rfl,rfl,x7,hb7⟩
    ·repeat refine fkI (fun hh=>absurd hh (by decide)) (fun _=>?_)
     refine fkI (fun _=>?_) (fun hh=>absurd hh (by decide))
     refine(bufRune_ok y6 hbuf6 92 (by decide) hl6).mono ?_
     rintro _ H7 ⟨m,rfl,x7,hb7⟩
     exact⟨m,rfl,rfl,x7,hb7⟩
   ·rintro⟨_,rp2,_⟩ H7 ⟨rfl,x7,hb7⟩
    dsimp only
    rw[wrap1 (k:=q+1) (by omega)]
    rw[eq2] at hnx
    exact hinv (q+2) H7 hnx (by omega) x7 hb7
  ·by_cases hB:escaped c=true
   ·obtain⟨d,hd⟩:=esc_mem hc0 hB
    have htx:=esc_text _ hd
    have hvl:=(esc_val _ hd).1
    dsimp only at htx hvl
    have hqo:quoteOne s k c n=escM c:=by unfold quoteOne;rw[if_neg hA,if_pos hB]
    have eq6:(escM c).size=6:=by
     have:=congrArg List.length htx
     rw[Array.length_toList] at this
     exact this
    rw[hqo] at hsq hnx hqz2
    rw[eq6] at hnx
    have hby: ∀(j:Nat) (x:UInt8),(escM c).data.toList[j]?=some x→bt E.text ((q+j:Nat):Int)=(x.toNat:Int):=by
     intro j x hx
     have hj:j<(escM c).size:=by
      have:=(List.getElem?_eq_some_iff.1 hx).1
      rw[Array.length_toList] at this;exact this
     rw[hsq.bt j,bt_left _ _ _ hj]
     exact bt_list hx
    have hb0:bt E.text q=92:=hby 0 92 (by rw[htx];rfl)
    have hb1':bt E.text ((q+1:Nat):Int)=117:=hby 1 117 (by rw[htx];rfl)
    have hb2':=hby 2 d.1 (by rw[htx];rfl)
    have hb3':=hby 3 d.2.1 (by rw[htx];rfl)
    have hb4':=hby 4 d.2.2.1 (by rw[htx];rfl)
    have hb5':=hby 5 d.2.2.2 (by rw[htx];rfl)
    have hr:runeG E.text q=(92,1):=by rw[runeG_asc (by omega) (by rw[hb0];decide),hb0]
    have hr2:runeG E.text (q+1)=(117,1):=by rw[runeG_asc (by omega) (by rw[hb1'];decide),hb1']
    rw[hr]
    dsimp only
    refine⟨(true,()),fkI (fun _=>fkI (fun _=>fkI (fun _=>⟨rfl,rfl⟩) (fun hh=>absurd hh (by decide))) (fun hh=>absurd hh (by decide))) (fun hh=>by exfalso;simp at hh;omega),?_⟩
    refine fkI (fun _=>?_) (fun hh=>absurd hh (by decide))
    refine⟨(false,()),fkI (fun hh=>absurd hh (by decide)) (fun _=>⟨rfl,rfl⟩),fkI (fun hh=>absurd hh (by decide)) (fun _=>?_)⟩
    refine⟨fun y H'=>StrInv E s rest i H1 (q+1) y.1 y.2.2.1 H',?_,fun y H' hy=>fin y H' (by omega) hy⟩
    refine fkI (fun _=>?_) (fun hh=>absurd hh (by decide))
    rw[wrap1 (k:=q) (by omega),wrapB (by omega),slcO_lt (by omega),en]
    refine⟨⟨⟨by omega,by omega⟩,by omega,by omega⟩,(bufWrite_ok y4 hbuf4 h1 cs (q -cs) _ (by omega) (by omega)).mono ?_⟩
    rintro _ H5 ⟨rfl,x5,hbuf5⟩
    rw[hcont] at hbuf5
    refine⟨_,rfl,(runeAt_gen (h1.ext x5) (q+1)).mono ?_⟩
    rintro _ H6 ⟨rfl,x6⟩
    refine⟨runeG E.text (q+1),rfl,?_⟩
    have y6:=x5.trans x6
    have h6:=h1.ext y6
    have hbuf6:=hbuf5.ext x6
    have hl6:(s.data.toList.take k).length≤1000000000:=by rw[List.length_take,Array.length_toList];have e:s.data.size=s.size:=rfl;omega
    rw[hr2]
    dsimp only
    have w1:IntKind.i64.wrap (((q+1:Nat):Int)+1)=((q+2:Nat):Int):=by rw[i64w (by omega)];omega
    have w2:IntKind.i64.wrap (((q+1:Nat):Int)+2)=((q+3:Nat):Int):=by rw[i64w (by omega)];omega
    have w3:IntKind.i64.wrap (((q+1:Nat):Int)+3)=((q+4:Nat):Int):=by rw[i64w (by omega)];omega
    have w4:IntKind.i64.wrap (((q+1:Nat):Int)+4)=((q+5:Nat):Int):=by rw[i64w (by omega)];omega
    rw[w1,w2,w3,w4]
    refine⟨fun y H'=>y.1=((q+5:Nat):Int)∧Ext [] H1 H'∧BufAt H1.size H1.size (s.data.toList.take (k+n)) H',?_,?_⟩
    ·repeat refine fkI (fun hh=>absurd hh (by decide)) (fun _=>?_)
     refine fkI (fun _=>?_) (fun hh=>absurd hh (by decide))
     refine fkI (fun hh=>by exfalso;simp at hh;omega) (fun _=>?_)
     refine⟨ix_some (by omega) (by omega),_,h6.byte (i:=q+2) (by omega),ix_some (by omega) (by omega),_,h6.byte (i:=q+3) (by omega),ix_some (by omega) (by omega),_,h6.byte (i:=q+4) (by omega),ix_some (by omega) (by omega),_,h6.byte (i:=q+5) (by omega),?_⟩
     dsimp only
     rw[bt_i32,bt_i32,bt_i32,bt_i32]
     have r1:=bt_range E.text ((q+2:Nat):Int)
     have r2:=bt_range E.text ((q+3:Nat):Int)
     have r3:=bt_range E.text ((q+4:Nat):Int)
     have r4:=bt_range E.text ((q+5:Nat):Int)
     refine(uniCharCode_ok _ _ _ _ (by omega) (by omega) (by omega) (by omega) H6).mono ?_
     rintro _ _ ⟨rfl,rfl⟩
     rw[hb2',hb3',hb4',hb5',hvl]
     refine⟨c,rfl,fkI (fun hh=>by exfalso;simp at hh;omega) (fun _=>?_)⟩
     refine(bufRune_ok y6 hbuf6 c (by omega) hl6).mono ?_
     rintro _ H7 ⟨m,rfl,x7,hb7⟩
     refine⟨m,rfl,rfl,x7,?_⟩
     have hcc:c<128∨c=65279:=by
      simp only[escaped,Bool.or_eq_true,decide_eq_true_eq,beq_iff_eq] at hB;omega
     have htk:s.data.toList.take (k+n)=s.data.toList.take k++Lib.encodeRune c:=by
      rcases hcc with hcc|rfl
      ·rcases hPt with⟨rfl,h9,_⟩|⟨rfl,h9⟩|⟨rfl,h9⟩|⟨rfl,h9⟩
       ·exact take_one hk h9.symm hcc
       ·omega
       ·omega
       ·omega
      ·rcases hPt with⟨rfl,h9,_⟩|⟨rfl,h9⟩|⟨rfl,h9⟩|⟨rfl,h9⟩
       ·omega
       ·omega
       ·exact take_bom hkn (by omega) (by omega) (by omega)
       ·omega
     rw[htk];exact hb7
    ·rintro⟨_,rp2,_⟩ H7 ⟨rfl,x7,hb7⟩
     dsimp only
     rw[wrap1 (k:=q+5) (by omega)]
     exact hinv (q+6) H7 hnx (by omega) x7 hb7
   ·have hB':escaped c=false:=by simpa using hB
    have hA':(c==34||c==92)=false:=by simpa using hA
    simp only[escaped,Bool.or_eq_false_iff,decide_eq_false_iff_not,beq_eq_false_iff_ne] at hB'
    simp only[Bool.or_eq_false_iff,beq_eq_false_iff_ne] at hA'
    have hqo:quoteOne s k c n=s.extract k (k+n):=by unfold quoteOne;rw[if_neg hA,if_neg hB]
    rw[hqo] at hsq hnx hqz2
    have es:(s.extract k (k+n)).size=n:=by rw[ByteArray.size_extract];omega
    rw[es] at hnx hqz2
    have hby: ∀j,j<n→bt E.text ((q+j:Nat):Int)=bt s ((k+j:Nat):Int):=by
     intro j hj
     rw[hsq.bt j,bt_left _ _ _ (by omega)]
     obtain⟨x,hx,hxb⟩:=list_bt (s:=s) (k:=k+j) (by omega)
     have h9:(s.extract k (k+n)).data.toList[j]?=some x:=by
      rw[list_of_extract,List.getElem?_take,if_pos (by omega),List.getElem?_drop]
      exact hx
     rw[bt_list h9,←hxb]
    have hPT:PtB (bt E.text (q:Nat)) (bt E.text ((q+1:Nat):Int)) (bt E.text ((q+2:Nat):Int)) (bt E.text ((q+3:Nat):Int)) c n:=
     hPt.congr (hby 0 (by omega)) (hby 1) (hby 2) (hby 3)
    have hr:runeG E.text q=(c,(n:Int)):=runeG_pt hPT (by omega)
    rw[hr]
    dsimp only
    refine⟨(true,()),fkI (fun _=>fkI (fun _=>fkI (fun _=>⟨?_,rfl⟩) (fun hh=>by exfalso;simp at hh;omega)) (fun hh=>by exfalso;simp at hh;omega)) (fun hh=>by exfalso;simp at hh;omega),?_⟩
    ·have:(c !=34)=true:=by simp;omega
     rw[this]
    refine fkI (fun _=>?_) (fun hh=>absurd hh (by decide))
    refine⟨(false,()),fkI (fun hh=>by exfalso;simp at hh;omega) (fun _=>⟨rfl,rfl⟩),fkI (fun hh=>absurd hh (by decide)) (fun _=>?_)⟩
    refine⟨fun y H'=>StrInv E s rest i H1 (q+1) y.1 y.2.2.1 H',?_,fun y H' hy=>fin y H' (by omega) hy⟩
    refine fkI (fun hh=>by exfalso;simp at hh;omega) (fun _=>?_)
    have hn4:n≤4:=by rcases hPt with⟨h,_⟩|⟨h,_⟩|⟨h,_⟩|⟨h,_⟩<;>omega
    rw[wrapN (k:=q) (by omega) n (by omega)]
    refine⟨k+n,q+n,cs,l,rfl,rfl,by omega,hp',hkn,hnx,hics,by omega,hbuf4,?_,y4⟩
    rw[take_drop_add _ _ _ _ hcq,←List.append_assoc,hcont,List.take_add]
    congr 1
    rw[hsq.drop,toList_append,list_of_extract]
    have e1:k+n -k=n:=by omega
    rw[e1,List.take_append_of_le_length,List.take_take,Nat.min_self]
    rw[List.length_take,List.length_drop,Array.length_toList]
    have e:s.data.size=s.size:=rfl
    omega
theorem zzLines_ok (s:ByteArray) (H:Heap) (hs:s.size<4294967200):
 Fn PP fq255 #[.string s] H fun v H'=> ∃g n c,v= .slice (some ⟨g,0,none⟩) n c∧Fresh H H' tq9 1 (some ⟨g,0,none⟩) n c ((linesM s).map .string):=by
 refine zzLines.enter s H _ ?_
 unfold zzLines.W
 refine⟨fun z H'=> ∃(fr i:Nat) (ss:List ByteArray),z.2.1=fr∧z.2.2.1=i∧fr≤i∧i≤s.size∧z.1.2.1≤i∧Fresh H H' tq9 1 z.1.1 z.1.2.1 z.1.2.2 (ss.map .string)∧linesM s=ss++linesGo s fr i,
  fun z _=>s.size -z.2.2.1.toNat,⟨0,0,[],rfl,rfl,Nat.le_refl _,Nat.zero_le _,Nat.le_refl _,Fresh.nil H tq9 1,rfl⟩,?_⟩
 rintro⟨⟨a,n,c⟩,_,_,_⟩ H2 ⟨fr,i,ss,hfr,hi,hfi,his,hni,hf,hss⟩
 dsimp only at hfr hi hf hni⊢
 subst hfr hi
 refine fkI (fun hlt=>?_) (fun hge=>?_)
 ·have hlt':i<s.size:=by simp at hlt;exact hlt
  unfold linesGo at hss
  rw[if_pos hlt'] at hss
  refine⟨((bt s i !=10&&bt s i !=13),()),⟨by omega,fkI (fun h1=>⟨by omega,?_,rfl⟩) (fun h1=>⟨?_,rfl⟩)⟩,?_⟩
  ·rw[h1,Bool.and_true]
  ·rw[h1,Bool.and_false]
  refine fkI (fun h1=>?_) (fun h1=>?_)
  ·dsimp only at h1
   rw[if_pos h1] at hss
   rw[wrap1 (by omega)]
   exact⟨⟨fr,i+1,ss,rfl,rfl,by omega,by omega,by omega,hf,hss⟩,by omega⟩
  ·dsimp only at h1
   rw[if_neg (by rw[h1];simp)] at hss
   refine⟨by omega,nbI fun H4 e4 hb4 ext4 hs4=>?_⟩
   refine(hf.grow ext4).append hb4 rfl (by simp[Value.oneCell']) (by omega) (by omega) ?_
   intro a' c' H7 hf7 _ _
   rw[wrap1 (k:=i) (by omega)]
   refine⟨((bt s i==13&&(decide (i+1<s.size)&&bt s (i+1:Nat)==10)),()),⟨by omega,?_⟩,?_⟩
   ·refine fkI (fun h2=>fkI (fun h3=>?_) (fun h3=>?_)) (fun h2=>?_)
    ·have h3':i+1<s.size:=by simp at h3;omega
     refine⟨by omega,?_,rfl⟩
     simp only[h2,h3',decide_true,Bool.true_and]
    ·have h3': ¬i+1<s.size:=by simp at h3;omega
     refine⟨?_,rfl⟩
     simp only[h2,h3',decide_false,Bool.true_and,Bool.false_and]
    ·refine⟨?_,rfl⟩
     simp only[h2,Bool.false_and]
   ·have hcell:ss.map Value.string++ #[Value.string (s.extract (fr:Int).toNat (i:Int).toNat)].toList=(ss++[s.extract fr i]).map .string:=by simp
    rw[hcell] at hf7
    refine⟨fun y H'=>H7=H'∧y.1=(if(bt s i==13&&(decide (i+1<s.size)&&bt s (i+1:Nat)==10))=true then((i+1:Nat):Int) else(i:Int)),?_,?_⟩
    ·refine fkI (fun h2=>⟨rfl,?_⟩) (fun h2=>⟨rfl,?_⟩)
     ·dsimp only at h2;rw[if_pos h2]
     ·dsimp only at h2;rw[if_neg (by rw[h2];simp)]
    ·rintro⟨y,_⟩ _ ⟨rfl,hy⟩
     dsimp only at hy⊢
     by_cases h2:(bt s i==13&&(decide (i+1<s.size)&&bt s (i+1:Nat)==10))=true
     ·rw[if_pos h2] at hy hss
      subst hy
      have hl:i+1<s.size:=by simp at h2;omega
      rw[wrap1 (by omega)]
      exact⟨⟨i+2,i+2,ss++[s.extract fr i],rfl,rfl,by omega,by omega,by omega,hf7,by rw[hss];simp⟩,by omega⟩
     ·rw[if_neg h2] at hy hss
      subst hy
      rw[wrap1 (by omega)]
      exact⟨⟨i+1,i+1,ss++[s.extract fr i],rfl,rfl,by omega,by omega,by omega,hf7,by rw[hss];simp⟩,by omega⟩
 ·have hge': ¬i<s.size:=by simp at hge;omega
  unfold linesGo at hss
  rw[if_neg hge'] at hss
  refine⟨by omega,nbI fun H4 e4 hb4 ext4 hs4=>?_⟩
  refine(hf.grow ext4).append hb4 rfl (by simp[Value.oneCell']) (by omega) (by omega) ?_
  intro a' c' H7 hf7 _ _
  have hcell:ss.map Value.string++ #[Value.string (s.extract (fr:Int).toNat s.size)].toList=(linesM s).map .string:=by rw[hss];simp
  rw[hcell] at hf7
  cases a' with
  |none=>
   rcases hf7.own.2 with⟨_,h,_⟩|⟨g,cur,h,_⟩
   ·omega
   ·cases h
  |some ad=>
   rcases hf7.own.2 with⟨h,_⟩|⟨g,cur,h,_⟩
   ·cases h
   ·cases h
    exact rkI ⟨g,n+1,c',rfl,hf7⟩
theorem leadWs_ok (s:ByteArray) (H:Heap) (hs:s.size<4294967200):Fn PP fq256 #[.string s] H fun v H'=>v= .int .i64 (leadM s)∧Ext [] H H':=by
 refine leadWs.enter s H _ ?_
 unfold leadWs.W
 refine nbI fun H1 e1 hb1 x1 s1=>?_
 refine⟨fun z H'=> ∃k:Nat,z.1=k∧k≤s.size∧leadM s=leadGo s k∧H'[H.size]?=some (.stringIter s k)∧Ext [] H H',fun z _=>s.size -z.1.toNat,⟨0,rfl,Nat.zero_le _,rfl,hb1,x1⟩,?_⟩
 rintro⟨_,_⟩ H2 ⟨k,hk,hks,hl,hb,x2⟩
 dsimp only at hk⊢
 subst hk
 refine⟨s,k,hb,fun hlt=>?_,fun hge=>rkI ⟨?_,x2⟩⟩
 ·have hx:Ext [] H (H2.setIfInBounds H.size (.stringIter s (k+(Utf8.decode s k).2))):=x2.setNew (Nat.le_refl _) _
  have hg:(H2.setIfInBounds H.size (.stringIter s (k+(Utf8.decode s k).2)))[H.size]?=some (.stringIter s (k+(Utf8.decode s k).2)):=get_setIf _ _ _ _ hb
  generalize H2.setIfInBounds H.size (.stringIter s (k+(Utf8.decode s k).2))=H3 at hx hg
  have hdec:bt s (k:Nat)<128→Utf8.decode s k=((bt s (k:Nat)).toNat,1):=fun h=>decode_pt (.inl ⟨rfl,rfl,h⟩) (by omega)
  have hr:=bt_range s k
  have hw:((((Utf8.decode s k).1:Nat):Int)==32||(((Utf8.decode s k).1:Nat):Int)==9)=whiteB (bt s (k:Nat)):=by
   by_cases h:bt s (k:Nat)<128
   ·rw[hdec h]
    have e:(((bt s (k:Nat)).toNat:Nat):Int)=bt s (k:Nat):=by omega
    dsimp only
    rw[e];rfl
   ·have:=decode_hi (T:=s) (q:=k) (by omega)
    unfold whiteB
    have n1:((((Utf8.decode s k).1:Nat):Int)==32)=false:=by simp;omega
    have n2:((((Utf8.decode s k).1:Nat):Int)==9)=false:=by simp;omega
    have n3:(bt s (k:Nat)==32)=false:=by simp;omega
    have n4:(bt s (k:Nat)==9)=false:=by simp;omega
    rw[n1,n2,n3,n4]
  refine joinPK_or ?_
  rw[hw]
  unfold leadGo at hl
  refine fkI (fun h=>?_) (fun h=>?_)
  ·dsimp only at h
   rw[if_pos ⟨hlt,h⟩] at hl
   rw[wrap1 (by omega)]
   have h128:bt s (k:Nat)<128:=by
    simp only[whiteB,Bool.or_eq_true,beq_iff_eq] at h;omega
   rw[hdec h128] at hg
   exact⟨⟨k+1,rfl,hlt,hl,hg,hx⟩,by omega⟩
  ·dsimp only at h
   rw[if_neg (by rw[h];simp)] at hl
   exact rkI ⟨by rw[hl];rfl,hx⟩
 ·unfold leadGo at hl
  rw[if_neg (by omega)] at hl
  rw[hl];rfl
theorem lineIsBlank_ok (s:ByteArray) (H:Heap) (hs:s.size<4294967200):Fn PP fq257 #[.string s] H fun v H'=>v= .bool (blankM s)∧Ext [] H H':=by
 refine lineIsBlank.enter s H _ ?_
 unfold lineIsBlank.W
 refine(leadWs_ok s H hs).mono ?_
 rintro _ H1 ⟨rfl,x1⟩
 refine⟨_,rfl,rkI ⟨?_,x1⟩⟩
 show Value.bool _=Value.bool _
 congr 1
theorem commonGo_zero: ∀l:List ByteArray,commonGo l 0=0
 |[]=>rfl
 |e::r=>by
  simp only[commonGo]
  have h1:decide ((0:Int)<0)=false:=by decide
  have h2:decide ((leadM e:Int)<0)=false:=decide_eq_false (by omega)
  rw[h1,h2]
  simp only[Bool.or_self,Bool.and_false,Bool.false_eq_true,if_false]
  exact commonGo_zero r
theorem commonGo_le: ∀(l:List ByteArray) (out:Int),-1≤out→(∀e∈l,(leadM e:Int)<e.size→commonGo l out≤leadM e)∧(0≤out→commonGo l out≤out)∧ -1≤commonGo l out
 |[],out,h=>⟨fun e he=>by simp at he,fun _=>by simp[commonGo],by simpa [commonGo] using h⟩
 |x::r,out,h=>by
  simp only[commonGo]
  have ih1:=commonGo_le r (leadM x:Int) (by omega)
  have ih2:=commonGo_le r out h
  split
  ·rename_i hc
   simp only[Bool.and_eq_true,Bool.or_eq_true,decide_eq_true_eq] at hc
   refine⟨fun e he hl=>?_,fun h0=>?_,ih1.2.2⟩
   ·rcases List.mem_cons.1 he with rfl|he
    ·exact ih1.2.1 (by omega)
    ·exact ih1.1 e he hl
   ·have:=ih1.2.1 (by omega);omega
  ·rename_i hc
   simp only[Bool.and_eq_true,Bool.or_eq_true,decide_eq_true_eq] at hc
   refine⟨fun e he hl=>?_,ih2.2.1,ih2.2.2⟩
   rcases List.mem_cons.1 he with rfl|he
   ·have:=ih2.2.1 (by omega);omega
   ·exact ih2.1 e he hl
def cutP (m:Int) (e:ByteArray):ByteArray:=if(e.size:Int)<m then e else e.extract m.toNat e.size
theorem extract_all (e:ByteArray):e.extract 0 e.size=e:=by
 apply ba_ext
 rw[list_of_extract,List.drop_zero,List.take_of_length_le]
 rw[Array.length_toList]
 have:e.data.size=e.size:=rfl
 omega
theorem cut_lines (raw:ByteArray) (h0:(linesM raw).headD eB=eB) (hp:plainM raw=true):
 (if 0<commonGo (linesM raw).tail (-1) then(linesM raw).map (cutP (commonGo (linesM raw).tail (-1))) else linesM raw)=cutsM (commonM (linesM raw)) (linesM raw):=by
 have hne:=(linesM_ne raw).1
 unfold plainM at hp
 rw[Bool.and_eq_true] at hp
 have hall:=hp.2
 generalize linesM raw=L at*
 cases L with
 |nil=>exact absurd rfl hne
 |cons a r=>
  simp only[List.headD_cons] at h0
  subst h0
  simp only[List.tail_cons] at hall⊢
  have hg:=commonGo_le r (-1) (by omega)
  have hm:commonM (eB::r)=if 0>commonGo r (-1) then 0 else commonGo r (-1):=rfl
  simp only[cutsM]
  show(if 0<commonGo r (-1) then List.map (cutP (commonGo r (-1))) (eB::r) else eB::r)=_
  split
  ·rename_i hgp
   rw[if_neg (by omega)] at hm
   rw[hm] at hall⊢
   simp only[List.map_cons]
   have ea:cutP (commonGo r (-1)) eB=eB:=by
    unfold cutP
    have e0:(eB.size:Int)=0:=rfl
    rw[if_pos (by rw[e0];exact hgp)]
   rw[ea]
   congr 1
   apply List.map_congr_left
   intro e he
   have hs:=List.all_eq_true.1 hall e he
   simp only[shortM,blankM,Bool.not_eq_true',Bool.and_eq_false_iff,decide_eq_false_iff_not] at hs
   have hl:=hg.1 e he
   have hle:=leadM_le e
   unfold cutP cutM
   split
   ·rename_i h1
    have hz:e.size=0:=by
     rcases hs with h2|h2|h2
     ·have:=hl (by omega);omega
     ·omega
     ·omega
    have he0:e=eB:=by
     apply ba_ext
     have:e.data.toList.length=0:=by rw[Array.length_toList];exact hz
     rw[List.eq_nil_of_length_eq_zero this];rfl
    subst he0
    rfl
   ·rfl
  ·rename_i hgp
   have hm0:commonM (eB::r)=0:=by rw[hm];split<;>omega
   rw[hm0]
   congr 1
   have:r.map (cutM 0)=r.map id:=by
    apply List.map_congr_left
    intro e _
    unfold cutM
    rw[if_neg (by omega)]
    exact extract_all e
   rw[this,List.map_id]
theorem joinGoM_lists: ∀(l:List ByteArray) (out:ByteArray) (k:Nat),0<k→(joinGoM out k l).data.toList=out.data.toList++(l.map fun e=> [10]++e.data.toList).flatten
 |[],out,k,_=>by simp[joinGoM]
 |e::r,out,k,h=>by
  simp only[joinGoM,if_pos h]
  rw[joinGoM_lists r _ (k+1) (by omega)]
  simp[bs]
theorem join_eq (l:List ByteArray):(⟨(Lib.join (l.map (·.data.toList)) [10]).toArray⟩:ByteArray)=joinGoM eB 0 l:=by
 apply ba_ext
 simp only
 cases l with
 |nil=>rfl
 |cons e r=>
  simp only[List.map_cons,joinGoM,Nat.lt_irrefl,if_false]
  rw[Lib.join_cons,joinGoM_lists _ _ _ (by omega),toList_append]
  have e0:eB.data.toList=[]:=rfl
  rw[e0,List.nil_append]
  unfold Lib.joinTail
  simp[List.map_map,Function.comp_def]
end Go.Vx
set_option maxRecDepth 10000
namespace Go.Vx
open Go Go.Proofs Go.RowKit
theorem splice_same {α:Type} {A L:List α} {k:Nat} {x:α} (ha:A[k]?=some x) (hl:L[k]?=some x):A.take (k+1)++L.drop (k+1)=A.take k++L.drop k:=by
 have h1:=(List.getElem?_eq_some_iff.1 ha)
 have h2:=(List.getElem?_eq_some_iff.1 hl)
 rw[List.take_succ_eq_append_getElem h1.1,List.drop_eq_getElem_cons h2.1,h1.2,h2.2]
 simp
theorem splice_set {α:Type} {A L:List α} {k:Nat} {x:α} (ha:A[k]?=some x) (hl:k<L.length):(A.take k++L.drop k).set k x=A.take (k+1)++L.drop (k+1):=by
 have h1:=(List.getElem?_eq_some_iff.1 ha)
 have h1l:=h1.1
 have hk:(A.take k).length=k:=by rw[List.length_take];omega
 rw[List.take_succ_eq_append_getElem h1.1,List.drop_eq_getElem_cons hl,h1.2,List.set_append_right _ _ (by omega),hk,Nat.sub_self,List.set_cons_zero,List.append_assoc]
 rfl
theorem splice_at {α:Type} {A L:List α} {k:Nat} {x:α} (hA:k≤A.length) (hl:L[k]?=some x):(A.take k++L.drop k)[k]?=some x:=by
 have hk:(A.take k).length=k:=by rw[List.length_take];omega
 rw[List.getElem?_append_right (by omega),hk,List.getElem?_drop]
 simpa using hl
theorem join_ok {H:Heap} {a:Option Addr} {n c:Nat} {ss:List ByteArray} (h:StrsAt H a n ss) (hc:n≤c) (hn:n≤1000000000) (hz:(joinGoM eB 0 ss).size≤100000000000):
 Fn PP fq258 #[.slice a n c,.string (bs [10])] H fun v H'=>v= .string (joinGoM eB 0 ss)∧Ext [] H H':=by
 intro w hw
 subst hw
 have hl:=h.1
 rcases h.2 with h0|⟨g,o,cs,e,fr,rfl,hg,hr⟩
 ·subst h0
  have hs:ss=[]:=List.eq_nil_of_length_eq_zero hl.symm
  subst hs
  refine(Any.strings_Join_none lay156 lay156X a c (bs [10]) w).mono ?_
  rintro e w' ⟨rfl,rfl⟩
  exact⟨_,rfl,Same.refl _,rfl,Ext.refl _ _⟩
 ·have hlen:(Lib.join (ss.map (·.data.toList)) (bs [10]).data.toList).length≤140737488355328:=by
   have h1:=congrArg (fun x:ByteArray=>x.data.toList.length) (join_eq ss)
   simp only at h1
   have e1:(bs [10]).data.toList=[10]:=rfl
   rw[e1,h1,Array.length_toList]
   have:(joinGoM eB 0 ss).data.size=(joinGoM eB 0 ss).size:=rfl
   omega
  subst hl
  refine(Any.strings_Join lay156 lay156X g o c ss (bs [10]) w (fun j x hj=>?_) (lt_of_get hg) (by omega) hc hlen).mono ?_
  ·show cellAt w.heap _=_
   simp only[cellAt,hg,Option.isSome_none,if_false,Bool.false_eq_true]
   exact hr j x hj
  ·rintro e w' ⟨rfl,hB⟩
   have e1:(bs [10]).data.toList=[10]:=rfl
   refine⟨_,rfl,⟨hB.os,hB.tape,hB.output⟩,?_,below_ext hB⟩
   rw[e1,join_eq]
theorem joinGoM_size: ∀(l:List ByteArray) (out:ByteArray) (k M:Nat),(∀e∈l,e.size≤M)→(joinGoM out k l).size≤out.size+l.length*(M+1)
 |[],out,k,M,_=>by simp[joinGoM]
 |e::r,out,k,M,h=>by
  simp only[joinGoM]
  have h1:=h e (by simp)
  have ih:=joinGoM_size r ((if 0<k then out++bs [10] else out)++e) (k+1) M fun x hx=>h x (by simp[hx])
  have h2:((if 0<k then out++bs [10] else out)++e).size≤out.size+1+M:=by
   rw[ByteArray.size_append]
   have e1:(bs [10]).size=1:=rfl
   split
   ·rw[ByteArray.size_append,e1];omega
   ·omega
  rw[List.length_cons,Nat.succ_mul]
  omega
theorem cutP_size (m:Int) (e:ByteArray):(cutP m e).size≤e.size:=by
 unfold cutP;split
 ·exact Nat.le_refl _
 ·rw[ByteArray.size_extract];omega
theorem mem_dropWhile {α:Type} {p:α→Bool}: ∀ {l:List α} {x:α},x∈l.dropWhile p→x∈l
 |a::l,x,h=>by
  rw[List.dropWhile_cons] at h
  split at h
  ·exact List.mem_cons_of_mem _ (mem_dropWhile h)
  ·exact h
theorem blockSV_ok (raw:ByteArray) (H:Heap) (hs:raw.size<100000) (h0:(linesM raw).headD eB=eB) (hp:plainM raw=true):
 Fn PP fq243 #[.string raw] H fun v H'=>v= .string (blockM raw)∧Ext [] H H':=by
 refine blockSV.enter raw H _ ?_
 unfold blockSV.W
 refine(zzLines_ok raw H (by omega)).mono ?_
 rintro _ H2 ⟨g,n,c,rfl,hf⟩
 refine⟨(some ⟨g,0,none⟩,n,c),rfl,?_⟩
 dsimp only
 have hcut:=cut_lines raw h0 hp
 obtain⟨hne,hlen,hsz⟩:=linesM_ne raw
 have hb:blockM raw=joinGoM (bs []) 0 (trimM ((cutsM (commonM (linesM raw)) (linesM raw)).dropWhile blankM)):=rfl
 rw[←hcut] at hb
 clear hcut hp h0
 generalize linesM raw=L at*
 have hn:=(StrsAt.of_own hf.own).1
 have hnc:n≤c:=(hf.own.row rfl).choose_spec.2.2.1
 have hcM:c≤maxLen:=(hf.own.row rfl).choose_spec.2.2.2.1
 simp only[maxLen] at hcM
 have hpos:0<L.length:=List.length_pos_iff.2 hne
 refine⟨fun y H'=>Fresh H H' tq9 1 (some ⟨g,0,none⟩) n c (L.map .string)∧y.1=commonGo L.tail (-1),?_,?_⟩
 ·refine⟨fun z H'=>Fresh H H' tq9 1 (some ⟨g,0,none⟩) n c (L.map .string)∧ ∃k:Nat,z.2.1=k∧1≤k∧k≤n∧ -1≤z.1∧commonGo L.tail (-1)=commonGo (L.drop k) z.1,fun z _=>n -z.2.1.toNat,
   ⟨hf,1,rfl,Nat.le_refl _,by omega,by omega,by rw[List.drop_one]⟩,?_⟩
  rintro⟨out,_,_⟩ H3 ⟨hf3,k,hk,hk1,hkn,ho,hgo⟩
  dsimp only at hk ho hgo⊢
  subst hk
  refine fkI (fun hlt=>?_) (fun hge=>?_)
  ·have hlt':k<L.length:=by simp at hlt;omega
   have hi:L[k]?=some L[k]:=List.getElem?_eq_getElem hlt'
   have hd:L.drop k=L[k]::L.drop (k+1):=List.drop_eq_getElem_cons hlt'
   rw[hd] at hgo
   simp only[commonGo] at hgo
   have hz:=hsz _ (List.getElem_mem hlt')
   generalize L[k]=e at hi hgo hz
   have hL:=(StrsAt.of_own hf3.own).load hi
   refine⟨hL.1,_,hL.2,(leadWs_ok e H3 (by omega)).mono ?_⟩
   rintro _ H4 ⟨rfl,x4⟩
   refine⟨_,rfl,?_⟩
   refine⟨(decide ((leadM e:Int)<e.size)&&(decide (out<0)||decide ((leadM e:Int)<out)),()),?_,?_⟩
   ·refine fkI (fun h1=>fkI (fun h2=>⟨?_,rfl⟩) (fun h2=>⟨?_,rfl⟩)) (fun h1=>⟨?_,rfl⟩)
    ·have:decide (out<0)=true:=by simp at h2;simp;omega
     rw[h1,this];rfl
    ·have:decide (out<0)=false:=by simp at h2;simp;omega
     rw[h1,this];rfl
    ·rw[h1];rfl
   ·dsimp only
    refine⟨fun y H'=>H4=H'∧y.1=(if(decide ((leadM e:Int)<e.size)&&(decide (out<0)||decide ((leadM e:Int)<out)))=true then(leadM e:Int) else out),?_,?_⟩
    ·refine fkI (fun h1=>fkI (fun h2=>⟨hf3.grow x4,?_⟩) (fun h2=>⟨rfl,by rw[if_pos h1]⟩)) (fun h1=>⟨rfl,by rw[if_neg (by rw[h1];simp)]⟩)
     have h2':(leadM e:Int)=0:=by simpa using h2
     rw[if_pos h1,h2',commonGo_zero] at hgo
     rw[hgo,h2']
    ·rintro⟨y,_⟩ _ ⟨rfl,hy⟩
     dsimp only at hy⊢
     rw[←hy] at hgo
     rw[wrap1 (by omega)]
     refine⟨⟨hf3.grow x4,k+1,rfl,by omega,by omega,?_,hgo⟩,by omega⟩
     rw[hy];split<;>omega
  ·have hge':k=L.length:=by simp at hge;omega
   rw[hge',List.drop_length] at hgo
   exact⟨hf3,hgo.symm⟩
 rintro⟨_,_⟩ H3 ⟨hf3,rfl⟩
 dsimp only
 clear hf
 generalize commonGo L.tail (-1)=G at hb⊢
 refine⟨fun _ H'=>Fresh H H' tq9 1 (some ⟨g,0,none⟩) n c ((if 0<G then L.map (cutP G) else L).map .string),?_,?_⟩
 ·refine fkI (fun hG=>?_) (fun hG=>?_)
  ·have hG':0<G:=by simpa using hG
   rw[if_pos hG']
   have hAl:(L.map (cutP G)).length=L.length:=List.length_map ..
   refine⟨fun z H'=> ∃k:Nat,z.1=k∧k≤n∧Fresh H H' tq9 1 (some ⟨g,0,none⟩) n c (((L.map (cutP G)).take k++L.drop k).map .string),fun z _=>n -z.1.toNat,⟨0,rfl,Nat.zero_le _,by simpa using hf3⟩,?_⟩
   rintro⟨_,_⟩ H4 ⟨k,hk,hkn,hf4⟩
   dsimp only at hk⊢
   subst hk
   refine fkI (fun hlt=>?_) (fun hge=>?_)
   ·have hlt':k<L.length:=by simp at hlt;omega
    have hi:L[k]?=some L[k]:=List.getElem?_eq_getElem hlt'
    have hz:=hsz _ (List.getElem_mem hlt')
    generalize L[k]=e at hi hz
    have hA:(L.map (cutP G))[k]?=some (cutP G e):=by rw[List.getElem?_map,hi];rfl
    have hL:=(StrsAt.of_own hf4.own).load (splice_at (A:=L.map (cutP G)) (by omega) hi)
    refine⟨hL.1,_,hL.2,fkI (fun h1=>?_) (fun h1=>?_)⟩
    ·have h1':(e.size:Int)<G:=by simp at h1;omega
     have he:cutP G e=e:=by unfold cutP;rw[if_pos h1']
     rw[he] at hA
     rw[wrap1 (by omega)]
     exact⟨⟨k+1,rfl,by omega,by rw[splice_same hA hi];exact hf4⟩,by omega⟩
    ·have h1': ¬(e.size:Int)<G:=by simp at h1;omega
     have he:cutP G e=e.extract G.toNat e.size:=by unfold cutP;rw[if_neg h1']
     refine⟨⟨by omega,by omega⟩,hL.1,?_⟩
     refine OwnS.store (k:=k) hf4.own (by omega) (by simp[offOf]) rfl ?_
     intro H5 own5 ext5 hs5
     rw[wrap1 (by omega)]
     refine⟨⟨k+1,rfl,by omega,⟨?_,?_,hf4.row⟩⟩,by omega⟩
     ·refine⟨Nat.le_trans hf4.ext.size ext5.size,fun j o hj hn=>ext5.get _ _ (hf4.ext.get _ _ hj hn) ?_⟩
      have:=lt_of_get hj
      have:=hf4.row g rfl
      simp;omega
     ·rw[←he,←List.map_set,splice_set hA hlt'] at own5
      exact own5
   ·have hge':k=L.length:=by simp at hge;omega
    rw[hge',List.drop_length,List.append_nil,←hAl,List.take_length] at hf4
    exact hf4
  ·have hG': ¬0<G:=by simpa using hG
   rw[if_neg hG']
   exact hf3
 rintro⟨_⟩ H4 hf4
 have hC: ∀e∈(if 0<G then L.map (cutP G) else L),e.size≤raw.size:=by
  intro e he
  split at he
  ·obtain⟨e',he',rfl⟩:=List.mem_map.1 he
   exact Nat.le_trans (cutP_size _ _) (hsz e' he')
  ·exact hsz e he
 have hCl:(if 0<G then L.map (cutP G) else L).length=n:=by split<;>simp[hn]
 generalize (if 0<G then L.map (cutP G) else L)=L1 at*
 clear hf3 hsz hne
 have hS:=StrsAt.of_own hf4.own
 -- the empty lines in front
 refine⟨fun y H'=>Ext [] H H'∧ ∃ss,StrsAt H' y.1.1 y.1.2.1 ss∧y.1.2.1≤n∧y.1.2.1≤y.1.2.2∧y.1.2.2≤c∧ss=L1.dropWhile blankM,?_,?_⟩
 ·refine⟨fun z H'=>Ext [] H H'∧ ∃ss,StrsAt H' z.1.1 z.1.2.1 ss∧z.1.2.1≤n∧z.1.2.1≤z.1.2.2∧z.1.2.2≤c∧ss.dropWhile blankM=L1.dropWhile blankM∧ ∀e∈ss,e.size≤raw.size,fun z _=>z.1.2.1,
   ⟨hf4.ext,L1,hS,Nat.le_refl _,hnc,Nat.le_refl _,rfl,hC⟩,?_⟩
  rintro⟨⟨a,n',c'⟩,_⟩ H5 ⟨x5,ss,hss,hn',hc',hcc,hd,hsz⟩
  dsimp only at hss hn' hc' hcc⊢
  cases ss with
  |nil=>
   have hl:=hss.1
   refine⟨fun y H'=>Ext [] H H'∧StrsAt H' a n' []∧y.1=false,fkI (fun hlt=>by exfalso;simp at hl hlt;omega) (fun _=>⟨x5,hss,rfl⟩),?_⟩
   rintro⟨_,_⟩ H6 ⟨x6,hs6,rfl⟩
   exact fkI (fun hh=>Bool.noConfusion (show false=true from hh)) (fun _=>⟨x6,[],hs6,hn',hc',hcc,by rw[←hd];rfl⟩)
  |cons e ss=>
   have hl:=hss.1
   simp only[List.length_cons] at hl
   have hL:=hss.load (i:=0) (s:=e) rfl
   refine⟨fun y H'=>Ext [] H H'∧StrsAt H' a n' (e::ss)∧y.1=blankM e,?_,?_⟩
   ·refine fkI (fun _=>?_) (fun hge=>by exfalso;simp at hge;omega)
    refine⟨hL.1,_,hL.2,(lineIsBlank_ok e H5 (by have:=hsz e (by simp);omega)).mono ?_⟩
    rintro _ H6 ⟨rfl,x6⟩
    exact⟨_,rfl,x5.trans x6,hss.ext x6 (by simp),rfl⟩
   ·rintro⟨_,_⟩ H6 ⟨x6,hs6,rfl⟩
    dsimp only
    refine fkI (fun hb=>?_) (fun hb=>⟨x6,e::ss,hs6,hn',hc',hcc,by rw[←hd];simp[hb]⟩)
    refine⟨⟨by omega,by omega⟩,⟨x6,ss,hs6.slice_lo hc',?_,?_,?_,?_,fun e' he'=>hsz e' (by simp[he'])⟩,?_⟩
    ·show n' -1≤n;omega
    ·show n' -1≤c' -1;omega
    ·show c' -1≤c;omega
    ·rw[←hd];simp[hb]
    ·show n' -1<n';omega
 rintro⟨⟨a,n',c'⟩,_⟩ H5 ⟨x5,ss,hss,hn',hc',hcc,hd⟩
 dsimp only at hss hn' hc' hcc⊢
 have hC2: ∀e∈ss,e.size≤raw.size:=fun e he=>hC e (mem_dropWhile (by rw[←hd];exact he))
 rw[←hd] at hb
 clear hd hS hC hf4
 -- the empty lines behind
 refine⟨fun z H'=>Ext [] H H'∧ ∃ss',StrsAt H' z.1.1 z.1.2.1 ss'∧z.1.2.1≤n∧z.1.2.1≤z.1.2.2∧z.1.2.2≤c∧trimM ss'=trimM ss∧ ∀e∈ss',e.size≤raw.size,fun z _=>z.1.2.1,
  ⟨x5,ss,hss,hn',hc',hcc,rfl,hC2⟩,?_⟩
 rintro⟨⟨a2,n2,c2⟩,_⟩ H6 ⟨x6,s2,hs2,hn2,hc2,hcc2,ht,hsz2⟩
 dsimp only at hs2 hn2 hc2 hcc2⊢
 have hl:=hs2.1
 have fin: ∀H7,Ext [] H H7→StrsAt H7 a2 n2 s2→s2=trimM ss→
  callW PP fq258 #[(.slice a2 n2 c2),(.string (bs [10]))] H7 pStr fun(x49:ByteArray) H50=>retK (some [(.string x49)]) H50 fun v H'=>v= .string (blockM raw)∧Ext [] H H':=by
  intro H7 x7 hs7 hst
  have hz:=joinGoM_size s2 eB 0 raw.size hsz2
  have e0:eB.size=0:=rfl
  have hm:s2.length*(raw.size+1)≤100001*100000:=Nat.mul_le_mul (by omega) (by omega)
  have hz2:(joinGoM eB 0 s2).size≤raw.size+100001*100000:=by omega
  refine(join_ok hs7 hc2 (by omega) (by omega)).mono ?_
  rintro _ H8 ⟨rfl,x8⟩
  exact⟨_,rfl,rkI ⟨by rw[hb,←hst];rfl,x7.trans x8⟩⟩
 rcases List.eq_nil_or_concat s2 with rfl|⟨r,e,rfl⟩
 ·refine⟨fun y H'=>Ext [] H H'∧StrsAt H' a2 n2 []∧y.1=false,fkI (fun hlt=>by exfalso;simp at hl hlt;omega) (fun _=>⟨x6,hs2,rfl⟩),?_⟩
  rintro⟨_,_⟩ H7 ⟨x7,hs7,rfl⟩
  exact fkI (fun hh=>Bool.noConfusion (show false=true from hh)) (fun _=>fin H7 x7 hs7 (by rw[←ht];rfl))
 ·have hl':n2=r.length+1:=by simpa using hl
  have hw:IntKind.i64.wrap ((n2:Int) -1)=(r.length:Int):=by rw[i64w (by omega)];omega
  have hw2:IntKind.i64.wrap ((r.length:Int)+1)=(n2:Int):=by rw[i64w (by omega)];omega
  have hL:=hs2.load (i:=r.length) (s:=e) (by simp)
  rw[hw,hw2]
  refine⟨fun y H'=>Ext [] H H'∧StrsAt H' a2 n2 (r.concat e)∧y.1=blankM e,?_,?_⟩
  ·refine fkI (fun _=>?_) (fun hge=>by exfalso;simp at hge;omega)
   refine⟨hL.1,_,hL.2,(lineIsBlank_ok e H6 (by have:=hsz2 e (by simp);omega)).mono ?_⟩
   rintro _ H7 ⟨rfl,x7⟩
   exact⟨_,rfl,x6.trans x7,hs2.ext x7 (by simp),rfl⟩
  ·rintro⟨_,_⟩ H7 ⟨x7,hs7,rfl⟩
   dsimp only
   refine fkI (fun hb=>?_) (fun hb=>fin H7 x7 hs7 (by rw[←ht,List.concat_eq_append,trimM_stop hb]))
   have h3:=hs7.slice_hi (c:=c2) (m:=r.length) (by omega)
   simp only[List.concat_eq_append,List.take_left'] at h3
   have em:n2 -((n2:Nat):Int).toNat=0:=by omega
   have er:((r.length:Nat):Int).toNat=r.length:=by omega
   rw[em,er]
   refine⟨⟨by omega,by omega⟩,⟨by omega,by omega⟩,.inl ⟨rfl,by omega,?_⟩⟩
   refine⟨⟨x7,r,h3,?_,?_,hcc2,?_,fun e' he'=>hsz2 e' (by simp[he'])⟩,?_⟩
   ·show r.length+0≤n;omega
   ·show r.length+0≤c2;omega
   ·rw[←ht,List.concat_eq_append,trimM_last hb]
   ·show r.length+0<n2;omega
structure DigT (s:ByteArray) (a b:Nat):Prop where
 le:a≤b
 dig: ∀k,a≤k→k<b→k<s.size∧isDigitM (bt s k)=true
 asc:Asc s b
 fin:b<s.size→isDigitM (bt s b)=false
theorem dig_asc {c:Int} (h:isDigitM c=true):48≤c∧c≤57:=by simpa [isDigitM] using h
theorem DigT.ascAt {s:ByteArray} {a b:Nat} (h:DigT s a b):Asc s a:=by
 intro hlt
 rcases Nat.lt_or_ge a b with h1|h1
 ·have:=dig_asc (h.dig a (Nat.le_refl _) h1).2;omega
 ·have e:a=b:=by have:=h.le;omega
  subst e;exact h.asc hlt
theorem readDigits_ok {E:Src} {H:Heap} (h:SrcAt E H) (a b:Nat) (hab:a<b) (hd:DigT E.text a b):
 Fn PP fq241 #[.pointer (some ⟨E.src,0,none⟩),.int .i64 a,.int .i32 (runeM E.text a).1,.int .i64 (runeM E.text a).2] H fun v H'=>v= .tuple #[.int .i64 b,.nilIface]∧H=H':=by
 have hsm:=h.small
 have ha:=hd.dig a (Nat.le_refl _) hab
 have hda:=dig_asc ha.2
 have hb1:=hd.dig (b -1) (by omega) (by omega)
 refine readDigits.enter _ _ _ _ H _ ?_
 unfold readDigits.W
 obtain⟨nm,fr,hsrc⟩:=h.src
 refine⟨(E.body,0,E.text.size,E.cap),lcO hsrc rfl,?_⟩
 dsimp only
 have hdig: ∀(c:Int) (H:Heap) (rest:Bool×Unit→Prop),rest (isDigitM c,())→joinPK (Bool×Unit) H (fun J2=>forkB (decide (c≥48)) (J2 ((decide (c≤57)),()) H) (J2 (false,()) H)) rest:=by
  intro c H rest hr
  refine joinPK_and ?_
  have e:(decide (c≥48)&&decide (c≤57))=isDigitM c:=rfl
  rw[e];exact hr
 refine hdig _ _ _ ?_
 refine fkI (fun _=>?_) (fun hh=>?_)
 ·refine⟨fun z H'=>H=H'∧ ∃k:Nat,z.2.1=k∧a≤k∧k≤b∧z.1=(runeM E.text k).2∧z.2.2.1=(runeM E.text k).1,fun z _=>b -z.2.1.toNat,⟨rfl,a,rfl,Nat.le_refl _,hd.le,rfl,rfl⟩,?_⟩
  rintro⟨_,_,_,_⟩ _ ⟨rfl,k,hk,hak,hkb,h1,h2⟩
  dsimp only at hk h1 h2⊢
  subst hk;subst h1;subst h2
  refine hdig _ _ _ ?_
  refine fkI (fun hy=>?_) (fun hy=>?_)
  ·have hlt:k<b:=by
    rcases Nat.lt_or_ge k b with h9|h9
    ·exact h9
    ·exfalso
     have e:k=b:=by omega
     subst e
     by_cases hl:k<E.text.size
     ·simp only[runeM,hl,if_true] at hy;rw[hd.fin hl] at hy;cases hy
     ·simp[runeM,hl,isDigitM] at hy
   have hkd:=hd.dig k hak hlt
   have er:runeM E.text k=(bt E.text k,1):=by simp[runeM,hkd.1]
   rw[er]
   dsimp only
   rw[wrap1 (k:=k) (by omega)]
   have hasc:Asc E.text (k+1):=by
    intro hl
    rcases Nat.lt_or_ge (k+1) b with h9|h9
    ·have:=dig_asc (hd.dig (k+1) (by omega) h9).2;omega
    ·have e:k+1=b:=by omega
     rw[e] at hl⊢;exact hd.asc hl
   refine(runeAt_any h (k+1) hasc).mono ?_
   rintro _ _ ⟨rfl,rfl⟩
   exact⟨_,rfl,⟨rfl,k+1,rfl,by omega,by omega,rfl,rfl⟩,by omega⟩
  ·have he:k=b:=by
    rcases Nat.lt_or_ge k b with h9|h9
    ·exfalso
     have hkd:=hd.dig k hak h9
     simp only[runeM,hkd.1,if_true] at hy
     rw[hkd.2] at hy;cases hy
    ·omega
   subst he
   exact rkI ⟨rfl,rfl⟩
 ·exfalso
  simp only[runeM,ha.1,if_true] at hh
  rw[ha.2] at hh;cases hh
def isPMB (c:Int):Bool:=c==43||c==45
def isEB (c:Int):Bool:=c==69||c==101
theorem readNumber_ok {E:Src} {H:Heap} (h:SrcAt E H) (st a b c j:Nat) (f1 fl:Bool) (hst:st<E.text.size) (hasc:bt E.text st<128) (ha:a=if bt E.text st=45 then st+1 else st)
 (hd:DigT E.text a b) (hab:a<b) (h0: ¬(bt E.text a=48∧a+1<b))
 (hf:(b<E.text.size∧bt E.text b=46∧DigT E.text (b+1) c∧b+1<c∧f1=true)∨((b<E.text.size→bt E.text b≠46)∧c=b∧f1=false))
 (he:(c<E.text.size∧isEB (bt E.text c)=true∧(∃e,e=(if isPMB (runeM E.text (c+1)).1=true then c+2 else c+1)∧Asc E.text (c+1)∧DigT E.text e j∧e<j)∧fl=true)∨((c<E.text.size→isEB (bt E.text c)=false)∧j=c∧fl=f1)):
 Fn PP fq229 #[.pointer (some ⟨E.src,0,none⟩),.int .i64 st,.int .i32 (bt E.text st),.int .i64 1] H fun v H'=>
  v= .tuple #[.agg #[.int .i64 (if fl=true then 17 else 16),.int .i64 st,.int .i64 j,.string (E.text.extract st j)],.nilIface]∧Ext [] H H':=by
 have hsm:=h.small
 have hda:=hd.dig a (Nat.le_refl _) hab
 have hdb:=hd.dig (b -1) (by omega) (by omega)
 have hdA:=dig_asc hda.2
 have cb:b≤c∧c≤E.text.size∧Asc E.text c:=by
  rcases hf with⟨_,_,h3,h4,_⟩|⟨_,h3,_⟩
  ·have:=h3.dig (c -1) (by omega) (by omega)
   exact⟨by omega,by omega,h3.asc⟩
  ·subst h3;exact⟨Nat.le_refl _,by omega,hd.asc⟩
 have jb:c≤j∧j≤E.text.size:=by
  rcases he with⟨_,_,⟨e,h3,_,h4,h5⟩,_⟩|⟨_,h3,_⟩
  ·have:=h4.dig (j -1) (by omega) (by omega)
   split at h3<;>omega
  ·omega
 have sta:st≤a∧a≤st+1:=by split at ha<;>omega
 refine readNumber.enter _ _ _ _ H _ ?_
 unfold readNumber.W
 refine nbI fun H1 e1 hb1 x1 s1=>?_
 have h1:=h.ext x1
 obtain⟨nm,fr,hsrc⟩:=h1.src
 refine⟨(E.body,0,E.text.size,E.cap),lcO hsrc rfl,?_⟩
 dsimp only
 have step1: ∀k:Nat,k<E.text.size→IntKind.i64.wrap ((k:Int)+(runeM E.text k).2)=((k+1:Nat):Int):=by
  intro k hk
  simp only[runeM,hk,if_true]
  rw[wrap1 (k:=k) (by omega)]
 -- the sign
 refine⟨fun y H'=>H1=H'∧y=((runeM E.text a).2,(runeM E.text a).1,(a:Int),()),?_,?_⟩
 ·refine fkI (fun hm=>?_) (fun hm=>⟨rfl,?_⟩)
  ·have hm':bt E.text st=45:=by simpa using hm
   rw[if_pos hm'] at ha
   rw[wrap1 (k:=st) (by omega),←ha]
   refine(runeAt_any h1 a hd.ascAt).mono ?_
   rintro _ _ ⟨rfl,rfl⟩
   exact⟨_,rfl,rfl,rfl⟩
  ·have hm':bt E.text st≠45:=by simpa using hm
   rw[if_neg hm'] at ha
   subst ha
   simp[runeM,hst]
 rintro _ _ ⟨rfl,rfl⟩
 dsimp only
 have ra:runeM E.text a=(bt E.text a,1):=by simp[runeM,hda.1]
 rw[ra]
 dsimp only
 -- the whole part
 refine⟨fun y H'=>H1=H'∧y=((runeM E.text b).2,(runeM E.text b).1,(b:Int),()),?_,?_⟩
 ·refine fkI (fun hz=>?_) (fun hz=>?_)
  ·have hz':bt E.text a=48:=by simpa using hz
   have eb:a+1=b:=by
    rcases Nat.lt_or_ge (a+1) b with h9|h9
    ·exact absurd ⟨hz',h9⟩ h0
    ·omega
   rw[wrap1 (k:=a) (by omega),eb]
   refine(runeAt_any h1 b hd.asc).mono ?_
   rintro _ _ ⟨rfl,rfl⟩
   refine⟨_,rfl,?_⟩
   dsimp only
   refine joinPK_and ?_
   have hnd:(decide ((runeM E.text b).1≥48)&&decide ((runeM E.text b).1≤57))=false:=by
    by_cases hl:b<E.text.size
    ·simp only[runeM,hl,if_true]
     exact hd.fin hl
    ·simp[runeM,hl]
   rw[hnd]
   exact fkI (fun hh=>absurd hh (by decide)) (fun _=>⟨rfl,rfl⟩)
  ·have:=readDigits_ok h1 a b hab hd
   rw[ra] at this
   refine this.mono ?_
   rintro _ _ ⟨rfl,rfl⟩
   refine⟨(b:Int),rfl,(runeAt_any h1 b hd.asc).mono ?_⟩
   rintro _ _ ⟨rfl,rfl⟩
   exact⟨_,rfl,rfl,rfl⟩
 rintro _ _ ⟨rfl,rfl⟩
 dsimp only
 -- the fraction
 refine⟨fun y H'=>H1=H'∧y=((runeM E.text c).2,(runeM E.text c).1,(c:Int),f1,()),?_,?_⟩
 ·refine fkI (fun hp=>?_) (fun hp=>?_)
  ·rcases hf with⟨hl,hp2,hd2,hlt,rfl⟩|⟨hn,_,_⟩
   ·rw[step1 b hl]
    refine(runeAt_any h1 (b+1) hd2.ascAt).mono ?_
    rintro _ _ ⟨rfl,rfl⟩
    refine⟨_,rfl,(readDigits_ok h1 (b+1) c hlt hd2).mono ?_⟩
    rintro _ _ ⟨rfl,rfl⟩
    refine⟨(c:Int),rfl,(runeAt_any h1 c hd2.asc).mono ?_⟩
    rintro _ _ ⟨rfl,rfl⟩
    exact⟨_,rfl,rfl,rfl⟩
   ·exfalso
    by_cases hl:b<E.text.size
    ·simp only[runeM,hl,if_true,beq_iff_eq] at hp
     exact hn hl hp
    ·simp[runeM,hl] at hp
  ·rcases hf with⟨hl,hp2,_⟩|⟨_,rfl,rfl⟩
   ·exfalso
    simp[runeM,hl,hp2] at hp
   ·exact⟨rfl,rfl⟩
 rintro _ _ ⟨rfl,rfl⟩
 dsimp only
 -- the exponent
 refine joinPK_or ?_
 refine⟨fun y H'=>H1=H'∧y=((j:Int),fl,()),?_,?_⟩
 ·have hE:((runeM E.text c).1==69||(runeM E.text c).1==101)=isEB (runeM E.text c).1:=rfl
  rw[hE]
  refine fkI (fun hp=>?_) (fun hp=>?_)
  ·rcases he with⟨hl,hp2,⟨e,hee,hasc2,hd2,hlt⟩,rfl⟩|⟨hn,_,_⟩
   ·rw[step1 c hl]
    refine(runeAt_any h1 (c+1) hasc2).mono ?_
    rintro _ _ ⟨rfl,rfl⟩
    refine⟨_,rfl,?_⟩
    dsimp only
    refine joinPK_or ?_
    have hPM:((runeM E.text (c+1)).1==43||(runeM E.text (c+1)).1==45)=isPMB (runeM E.text (c+1)).1:=rfl
    rw[hPM]
    refine⟨fun y H'=>H1=H'∧y=((runeM E.text e).2,(runeM E.text e).1,(e:Int),()),?_,?_⟩
    ·refine fkI (fun hpm=>?_) (fun hpm=>?_)
     ·dsimp only at hpm
      rw[if_pos hpm] at hee
      have hl1:c+1<E.text.size:=by
       rcases Nat.lt_or_ge (c+1) E.text.size with h9|h9
       ·exact h9
       ·exfalso;simp[runeM,Nat.not_lt.2 h9,isPMB] at hpm
      rw[step1 (c+1) hl1,←hee]
      refine(runeAt_any h1 e hd2.ascAt).mono ?_
      rintro _ _ ⟨rfl,rfl⟩
      exact⟨_,rfl,rfl,rfl⟩
     ·dsimp only at hpm
      rw[if_neg (by rw[hpm];simp)] at hee
      subst hee
      exact⟨rfl,rfl⟩
    rintro _ _ ⟨rfl,rfl⟩
    dsimp only
    refine(readDigits_ok h1 e j hlt hd2).mono ?_
    rintro _ _ ⟨rfl,rfl⟩
    exact⟨(j:Int),rfl,rfl,rfl⟩
   ·exfalso
    dsimp only at hp
    by_cases hl:c<E.text.size
    ·simp only[runeM,hl,if_true] at hp
     rw[hn hl] at hp;cases hp
    ·simp[runeM,hl,isEB] at hp
  ·rcases he with⟨hl,hp2,_⟩|⟨_,rfl,rfl⟩
   ·exfalso
    dsimp only at hp
    simp only[runeM,hl,if_true] at hp
    rw[hp2] at hp;cases hp
   ·exact⟨rfl,rfl⟩
 rintro _ _ ⟨rfl,rfl⟩
 dsimp only
 refine⟨fun y H'=>H1=H'∧y.1=(if fl=true then 17 else 16),?_,?_⟩
 ·exact fkI (fun hh=>⟨rfl,by rw[if_pos hh]⟩) (fun hh=>⟨rfl,by rw[if_neg (by rw[hh];simp)]⟩)
 rintro⟨kd,_⟩ _ ⟨rfl,hkd⟩
 dsimp only at hkd⊢
 have hle:=h.le
 rw[slcO_lt (by omega)]
 have en:((j:Nat):Int).toNat -((st:Nat):Int).toNat=j -st:=by omega
 rw[en]
 refine⟨⟨⟨by omega,by omega⟩,by omega,by omega⟩,h1.str (by omega) ?_⟩
 have ej:st+(j -st)=j:=by omega
 rw[ej]
 refine(makeToken_ok _ _ _ _ _).mono ?_
 rintro _ H2 ⟨rfl,x2⟩
 refine⟨(kd,((st:Nat):Int),((j:Nat):Int),E.text.extract st j),rfl,?_⟩
 dsimp only
 have hb2:=x2.get _ _ hb1 (by simp)
 refine swI hb2 (by simp) rfl rfl fun H3 e3 hb3 x3 s3=>?_
 have hb4:H3[H.size]?=some (.cells #[.int .i64 kd,.int .i64 st,.int .i64 j,.string (E.text.extract st j)] tq85 (0,0)):=hb3
 rw[lcO hb4 rfl]
 refine rkI ⟨by rw[hkd];rfl,?_⟩
 subst e3
 exact(x1.trans x2).setNew (Nat.le_refl _) _
end Go.Vx
