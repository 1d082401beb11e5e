/- A part of the proof of what the last text of this claim says: QD2, QD3, QD4, QD5, QD6, QA5, QA6, QD7, QV1. Conditions: none. -/
import Derived.Shelf.Spec.DecodeRune
import Derived.Shelf.Bytes.WriteAny
import Derived.Shelf.Bytes.String
import Derived.Shelf.Wr.WriteRune
import Derived.Lib.RuneBytes
import Derived.Lib.Join
import Derived.Shelf.Strings.OnBuilder
import Derived.Test.YtkopcepfeeemhaaGreatDoorYDAo
import Derived.Test.YtkopcepfeeemhaaGreatDoorYDAz
import Derived.Test.YtkopcepfeeemhaaGreatDoorYDBd
import Derived.Test.YtkopcepfeeemhaaGreatDoorYDBe
set_option maxRecDepth 10000
namespace Go.Vx
open Go Go.Proofs Go.RowKit
theorem kbq {w w':World} (h:Below w.heap.size w w'):Ext [] w.heap w'.heap:=
 ⟨h.size,fun k o hk _=>by rw[h.block k (k0l hk),hk]⟩
theorem kbr {A:Heap} {w w':World} (h:Below A.size w w') (he:Ext [] A w.heap):Ext [] A w'.heap:=
 ⟨by have:=he.size;have:=h.size;omega,fun k o hk _=>by rw[h.block k (k0l hk)];exact he.get _ _ hk (by simp)⟩
theorem kg4 {lim:Nat} {H:Heap} (hT:TabsAt lim H) (s:BA) (b off cap:Nat) (hp: ∀j,j<s.size→k1a H ⟨b,off+j,none⟩=some (.int .u8 ((s.get! j).toNat:Nat))):
 Fn PP fq240 #[.slice (some ⟨b,off,none⟩) s.size cap] H fun v H'=>v= .tuple #[.int .i32 ((Lib.decodeGo s).1:Nat),.int .i64 ((Lib.decodeGo s).2:Nat)]∧Ext [] H H':=by
 intro w hw
 subst hw
 refine(Any7.utf8_DecodeRune khv s b off cap w (hT.tabs w rfl) hp).mono ?_
 rintro e w' ⟨rfl,hB⟩
 exact⟨_,rfl,⟨hB.os,hB.tape,hB.output⟩,rfl,kbq hB⟩
def k1J (B b:Nat) (l:List UInt8) (H:Heap):Prop:= ∀w:World,w.heap=H→Lib.IsBuffer tq375 tq5 B b (Lib.byteCells l) w
theorem kbx {B b:Nat} {l:List UInt8} {w:World} (h:Lib.IsBuffer tq375 tq5 B b (Lib.byteCells l) w):k1J B b l w.heap:=by
 intro w' hw
 unfold Lib.IsBuffer World.ownsRow at*
 rw[hw]
 exact h
theorem k97 (l:List UInt8): ∀v∈Lib.byteCells l,v.oneCell'=true:=by
 intro v hv
 simp only[Lib.byteCells,List.mem_map] at hv
 obtain⟨b,_,rfl⟩:=hv
 rfl
theorem k1J.new {H H':Heap} (h:H'[H.size]?=some (.cells #[.slice none 0 0,.int .i64 0,.int .i8 0] tq375)):k1J H.size H.size [] H':=by
 intro w hw
 subst hw
 exact⟨Nat.le_refl _,.slice none 0 0,0,h,World.ownsRow_nil _ _ _ _,by simp[Value.ownBlock]⟩
theorem k1J.ext {B b:Nat} {l:List UInt8} {H H':Heap} (h:k1J B b l H) (he:Ext [] H H'):k1J B b l H':=by
 intro w hw
 subst hw
 obtain⟨h1,v,lr,h2,h3,h4⟩:=h {w with heap:=H} rfl
 refine⟨h1,v,lr,he.get _ _ h2 (by simp),?_,h4⟩
 unfold World.ownsRow at h3⊢
 refine⟨h3.1,h3.2.imp id ?_⟩
 rintro⟨g,c,cur,rfl,hg,hh,hr⟩
 exact⟨g,c,cur,rfl,hg,he.get _ _ hh (by simp),hr⟩
theorem k2K (s:BA) (a b:Nat):(s.extract a b).data.toList=(s.data.toList.drop a).take (b -a):=by
 rw[ByteArray.data_extract,Array.toList_extract]
theorem k3j {a b:BA} (h:a.data.toList=b.data.toList):a=b:=by
 apply ByteArray.ext
 exact Array.toList_inj.1 h
theorem toList_append (a b:BA):(a++b).data.toList=a.data.toList++b.data.toList:=by
 rw[ByteArray.data_append,Array.toList_append]
theorem k4F {s:BA} {k:Nat} {x:UInt8} (h:s.data.toList[k]?=some x):bt s (k:Nat)=(x.toNat:Int):=by
 have e:((k:Nat):Int).toNat=k:=by omega
 unfold bt
 rw[e,←Array.getElem?_toList,h]
 rfl
theorem k30 {s:BA} {k:Nat} (h:k<s.size): ∃x:UInt8,s.data.toList[k]?=some x∧bt s (k:Nat)=(x.toNat:Int):=by
 have h':k<s.data.toList.length:=by rw[Array.length_toList];exact h
 exact⟨_,List.getElem?_eq_getElem h',k4F (List.getElem?_eq_getElem h')⟩
theorem k7N {A H:Heap} {E:Src} {b:Nat} {l:List UInt8} (he:Ext [] A H) (hb:k1J A.size b l H) (h:SrcAt E A) (c n cap:Nat) (hn:c+n≤E.text.size) (hl:l.length≤1000000000):
 Fn PP fq242 #[.pointer (some ⟨b,0,none⟩),.slice (some ⟨E.body,c,none⟩) n cap] H fun v H'=>v= .tuple #[.int .i64 n,nI]∧Ext [] A H'∧k1J A.size b (l++(E.text.data.toList.drop c).take n) H':=by
 intro w hw
 subst hw
 have hB:=hb w rfl
 have h2:=h.ext he
 obtain⟨cs,fr,hbd,hsz,hat⟩:=h.body
 have hlt:E.body<A.size:=k0l hbd
 have hlen:((E.text.data.toList.drop c).take n).length=n:=by
  have:E.text.data.size=E.text.size:=rfl
  rw[List.length_take,List.length_drop,Array.length_toList];omega
 have hsm:=h.small
 refine(Any.Buffer_Write_any khr A.size b (Lib.byteCells l) (Lib.byteCells ((E.text.data.toList.drop c).take n)) ⟨E.body,c,none⟩ n cap w hB he.size (k97 l) ?_ ?_ ?_ (k97 _) ?_).mono ?_
 ·rw[Lib.byteCells_length];exact hlen
 ·have:=hB.1
  show E.body≠b
  omega
 ·intro j v hj
  have hj1:=(List.getElem?_eq_some_iff.1 hj).1
  rw[Lib.byteCells_length,hlen] at hj1
  have hbd2:=he.get _ _ hbd (by simp)
  rw[k3A]
  show k1a w.heap _=_
  simp only[k1a,hbd2,Option.isSome_none,if_false,Bool.false_eq_true]
  have h3:=hat (c+j) (by omega)
  rw[h3,←hj]
  simp only[Lib.byteCells,List.getElem?_map]
  rw[List.getElem?_take,if_pos hj1,List.getElem?_drop]
  obtain⟨x,hx,hxb⟩:=k30 (s:=E.text) (k:=c+j) (by omega)
  rw[hx,hxb]
  rfl
 ·rw[Lib.byteCells_length];omega
 ·rintro e w' ⟨rfl,h1,h2,h3⟩
  refine⟨_,rfl,⟨h2.os,h2.tape,h2.output⟩,rfl,kbr h2 he,kbx ?_⟩
  rw[Lib.byteCells_append]
  exact h1
theorem k96 {A H:Heap} {b:Nat} {l:List UInt8} (he:Ext [] A H) (hb:k1J A.size b l H) (r:Int) (h0:0≤r∧r≤1114111) (hl:l.length≤1000000000):
 Fn PP fq245 #[.pointer (some ⟨b,0,none⟩),.int .i32 r] H fun v H'=> ∃n:Int,v= .tuple #[.int .i64 n,nI]∧Ext [] A H'∧k1J A.size b (l++Lib.encodeRune r) H':=by
 intro w hw
 subst hw
 refine(Any.Buffer_WriteRune_k khx A.size b (Lib.byteCells l) r (by omega) (by omega) w (hb w rfl) he.size (k97 l) (by rw[Lib.byteCells_length];omega)).mono ?_
 rintro e w' ⟨rfl,h1,h2,h3⟩
 refine⟨_,rfl,⟨h2.os,h2.tape,h2.output⟩,_,rfl,kbr h2 he,kbx ?_⟩
 rw[Lib.byteCells_append,Lib.byteCells_encodeRune]
 exact h1
theorem kby {A H:Heap} {b:Nat} {l:List UInt8} (hb:k1J A.size b l H):
 Fn PP fq244 #[.pointer (some ⟨b,0,none⟩)] H fun v H'=>v= .string ⟨l.toArray⟩∧H=H':=by
 intro w hw
 subst hw
 refine(Any.Buffer_String kht A.size b l w (hb w rfl)).mono ?_
 rintro e w' ⟨rfl,n,rfl⟩
 exact⟨_,rfl,⟨rfl,rfl,rfl⟩,rfl,rfl⟩
def k0y (T:BA) (q:Nat):Int×Int:=if q<T.size then(if bt T q<128 then(bt T q,1) else(((Utf8.decode T q).1:Nat),((Utf8.decode T q).2:Nat))) else(-1,65533)
theorem k2P {T:BA} {q:Nat} (h:q<T.size) (ha:bt T q<128):k0y T q=(bt T q,1):=by unfold k0y;rw[if_pos h,if_pos ha]
theorem kjZ {T:BA} {q:Nat} (h:q<T.size) (ha:128≤bt T q):128≤(k0y T q).1:=by
 unfold k0y;rw[if_pos h,if_neg (by omega)]
 have:=kbM ha
 dsimp only;omega
theorem kdU {T:BA} {q:Nat} (h:T.size≤q):k0y T q=(-1,65533):=by unfold k0y;rw[if_neg (by omega)]
theorem k4p {T:BA} {q:Nat} {c:Int} (hc:0≤c∧c<128) (h:(k0y T q).1=c):q<T.size∧bt T q=c:=by
 by_cases h1:q<T.size
 ·by_cases h2:bt T q<128
  ·rw[k2P h1 h2] at h;exact⟨h1,h⟩
  ·have:=kjZ h1 (by omega);omega
 ·rw[kdU (by omega)] at h;dsimp only at h;omega
theorem kdV {T:BA} {q:Nat} {c:Int} {n:Nat} (h:PtB (bt T (q:Nat)) (bt T ((q+1:Nat):Int)) (bt T ((q+2:Nat):Int)) (bt T ((q+3:Nat):Int)) c n) (hq:q+n≤T.size):k0y T q=(c,(n:Int)):=by
 have hd:=kbN h hq
 have h1:q<T.size:=by
  rcases h with⟨rfl,_⟩|⟨rfl,_⟩|⟨rfl,_⟩|⟨rfl,_⟩<;>omega
 have hc:0≤c:=by
  have:=k2s T q
  rcases h with⟨_,h,_⟩|⟨_,h⟩|⟨_,h⟩|⟨_,h⟩<;>omega
 unfold k0y
 rw[if_pos h1]
 split
 ·rename_i h2
  rcases h with⟨rfl,h,_⟩|⟨rfl,h,_⟩|⟨rfl,h,_⟩|⟨rfl,h,_⟩
  ·rw[h];rfl
  ·omega
  ·omega
  ·omega
 ·rw[hd]
  simp only[Prod.mk.injEq,and_true]
  omega
theorem k2A {E:Src} {H:Heap} (h:SrcAt E H) (q:Nat):Fn PP fq227 #[E.sl,.int .i64 q] H fun v H'=>v= .tuple #[.int .i32 (k0y E.text q).1,.int .i64 (k0y E.text q).2]∧Ext [] H H':=by
 by_cases hi:q<E.text.size
 ·by_cases ha:bt E.text q<128
  ·refine(k3e h q hi ha).mono ?_
   rintro _ _ ⟨rfl,rfl⟩
   rw[k2P hi ha]
   exact⟨rfl,Ext.refl _ _⟩
  ·have hle:=h.le
   have hsm:=h.small
   refine runeAt.enter _ _ _ _ _ H _ ?_
   unfold runeAt.W
   refine fkI (fun hge=>?_) (fun hlt=>?_)
   ·exfalso;simp at hge;omega
   refine⟨k0k (by omega) (by omega),_,h.byte hi,fkI (fun hb=>?_) (fun _=>?_)⟩
   ·exfalso;simp at hb;omega
   rw[k4r (by omega)]
   have es:(E.text.extract q E.text.size).size=E.text.size -((q:Nat):Int).toNat:=by rw[ByteArray.size_extract];omega
   rw[←es]
   obtain⟨cs,fr,hbd,hsz,hat⟩:=h.body
   refine⟨⟨by omega,by omega⟩,(kg4 h.tabs (E.text.extract q E.text.size) E.body q _ (fun j hj=>?_)).mono ?_⟩
   ·have hj':j<E.text.size -q:=by rw[es] at hj;omega
    simp only[k1a,hbd,Option.isSome_none,if_false,Bool.false_eq_true]
    rw[hat (q+j) (by omega),←k3C,←kbu _ _ _ (by omega)]
    rfl
   ·rintro _ H2 ⟨rfl,x2⟩
    refine⟨((((Lib.decodeGo (E.text.extract q E.text.size)).1:Nat):Int),(((Lib.decodeGo (E.text.extract q E.text.size)).2:Nat):Int)),rfl,rkI ⟨?_,x2⟩⟩
    have hg:Lib.decodeGo (E.text.extract q E.text.size)=Utf8.decode E.text q:=by
     unfold Lib.decodeGo
     rw[if_neg (by rw[es];omega),kg5 _ _ (by omega)]
    have hr:k0y E.text q=((((Utf8.decode E.text q).1:Nat):Int),(((Utf8.decode E.text q).2:Nat):Int)):=by
     unfold k0y;rw[if_pos hi,if_neg ha]
    rw[hg,hr]
    rfl
 ·refine(kdT q (by omega)).mono ?_
  rintro _ _ ⟨rfl,rfl⟩
  rw[kdU (by omega)]
  exact⟨rfl,Ext.refl _ _⟩
def c2h (a:Int):Int:=if 48≤a∧a≤57 then a -48 else if 65≤a∧a≤70 then a -55 else if 97≤a∧a≤102 then a -87 else -1
theorem k7P (a:Int) (ha:0≤a∧a<256) (H:Heap):Fn PP fq261 #[.int .i32 a] H fun v H'=>v= .int .i64 (c2h a)∧H=H':=by
 refine char2hex.enter _ H _ ?_
 unfold char2hex.W
 have e0:IntKind.i64.wrap a=a:=i64w (by omega)
 rw[e0]
 repeat' refine fkI (fun h=>?_) (fun h=>?_)
 all_goals
  refine rkI ⟨?_,rfl⟩
  simp only[decide_eq_true_eq,decide_eq_false_iff_not] at*
  unfold c2h
  first
   |(rw[if_pos (by omega),i64w (by omega)];rfl)
   |(rw[if_neg (by omega),if_pos (by omega),i64w (by omega)];rfl)
   |(rw[if_neg (by omega),if_neg (by omega),if_pos (by omega),i64w (by omega)];rfl)
   |(rw[if_neg (by omega),if_neg (by omega),if_neg (by omega)];rfl)
def uniV (x1 x3 x5 x7:Int):Int:=(IntKind.i32.wrap (IntKind.i64.wrap ((BitVec.ofInt 64 (IntKind.i64.wrap ((BitVec.ofInt 64 (IntKind.i64.wrap ((BitVec.ofInt 64 (IntKind.i64.wrap (x1*2^(min (12:Int).toNat 64)))|||BitVec.ofInt 64 (IntKind.i64.wrap (x3*2^(min (8:Int).toNat 64)))).toNat:Int))|||BitVec.ofInt 64 (IntKind.i64.wrap (x5*2^(min (4:Int).toNat 64)))).toNat:Int))|||BitVec.ofInt 64 x7).toNat:Int)))
def escL:List (Int×UInt8×UInt8×UInt8×UInt8):=
 ((List.range 32).map fun(k:Nat)=>((k:Int),48,48,(if k<16 then 48 else 49),(if k% 16<10 then(48+k% 16).toUInt8 else(87+k% 16).toUInt8)))++[(127,48,48,55,102),(65279,102,101,102,102)]
theorem kgf {c:Int} (h0:0≤c) (h:k2t c=true): ∃d,(c,d)∈escL:=by
 simp only[k2t,Bool.or_eq_true,decide_eq_true_eq,beq_iff_eq] at h
 rcases h with h|rfl|rfl
 ·obtain⟨k,rfl⟩: ∃k:Nat,c=k:=⟨c.toNat,by omega⟩
  refine⟨_,List.mem_append_left _ (List.mem_map.2 ⟨k,List.mem_range.2 (by omega),rfl⟩)⟩
 ·exact⟨_,List.mem_append_right _ (List.mem_cons_self ..)⟩
 ·exact⟨_,List.mem_append_right _ (List.mem_cons_of_mem _ (List.mem_cons_self ..))⟩
theorem kgg: ∀x∈escL,(escM x.1).data.toList=[92,117,x.2.1,x.2.2.1,x.2.2.2.1,x.2.2.2.2]:=by
 intro x hx
 have h:(escL.all fun x=>decide ((escM x.1).data.toList=[92,117,x.2.1,x.2.2.1,x.2.2.2.1,x.2.2.2.2]))=true:=by decide+kernel
 have:=List.all_eq_true.1 h x hx
 exact of_decide_eq_true this
theorem kgh: ∀x∈escL,uniV (c2h (x.2.1.toNat:Int)) (c2h (x.2.2.1.toNat:Int)) (c2h (x.2.2.2.1.toNat:Int)) (c2h (x.2.2.2.2.toNat:Int))=x.1∧0≤x.1:=by
 intro x hx
 have h:(escL.all fun x=>decide (uniV (c2h (x.2.1.toNat:Int)) (c2h (x.2.2.1.toNat:Int)) (c2h (x.2.2.2.1.toNat:Int)) (c2h (x.2.2.2.2.toNat:Int))=x.1∧0≤x.1))=true:=by decide+kernel
 have:=List.all_eq_true.1 h x hx
 exact of_decide_eq_true this
theorem kle (a b c d:Int) (ha:0≤a∧a<256) (hb:0≤b∧b<256) (hc:0≤c∧c<256) (hd:0≤d∧d<256) (H:Heap):
 Fn PP fq246 #[.int .i32 a,.int .i32 b,.int .i32 c,.int .i32 d] H fun v H'=>v= .int .i32 (uniV (c2h a) (c2h b) (c2h c) (c2h d))∧H=H':=by
 refine uniCharCode.enter _ _ _ _ H _ ?_
 unfold uniCharCode.W
 refine(k7P a ha H).mono ?_
 rintro _ _ ⟨rfl,rfl⟩
 refine⟨_,rfl,(k7P b hb H).mono ?_⟩
 rintro _ _ ⟨rfl,rfl⟩
 refine⟨_,rfl,(k7P c hc H).mono ?_⟩
 rintro _ _ ⟨rfl,rfl⟩
 refine⟨_,rfl,(k7P d hd H).mono ?_⟩
 rintro _ _ ⟨rfl,rfl⟩
 exact⟨_,rfl,rkI ⟨rfl,rfl⟩⟩
theorem Sfx.drop {t r:BA} {i:Nat} (h:Sfx t i r):t.data.toList.drop i=r.data.toList:=by
 obtain⟨pre,rfl,rfl⟩:=h
 rw[ByteArray.data_append,Array.toList_append,List.drop_left']
 rw[Array.length_toList];rfl
theorem ken {s:BA} {k:Nat} {c:Int} (h:k<s.size) (hc:bt s (k:Nat)=c) (hlt:c<128):s.data.toList.take (k+1)=s.data.toList.take k++Lib.encodeRune c:=by
 obtain⟨x,hx,hb⟩:=k30 h
 have h0:0≤c:=by rw[←hc,hb];omega
 rw[List.take_add_one,hx]
 have:Lib.encodeRune c=[x]:=by
  unfold Lib.encodeRune
  rw[Lib.encodeRuneZ_one h0 (by omega)]
  have e:c.toNat=x.toNat:=by omega
  simp[e]
 rw[this];rfl
theorem kkL {s:BA} {k:Nat} (h:k+3≤s.size) (h0:bt s (k:Nat)=239) (h1:bt s ((k+1:Nat):Int)=187) (h2:bt s ((k+2:Nat):Int)=191):
 s.data.toList.take (k+3)=s.data.toList.take k++Lib.encodeRune 65279:=by
 obtain⟨x,hx,hb⟩:=k30 (s:=s) (k:=k) (by omega)
 obtain⟨y,hy,hb1⟩:=k30 (s:=s) (k:=k+1) (by omega)
 obtain⟨z,hz,hb2⟩:=k30 (s:=s) (k:=k+2) (by omega)
 have e:Lib.encodeRune 65279=[239,187,191]:=by decide
 have ex:x=239:=UInt8.toNat_inj.1 (by show x.toNat=239;omega)
 have ey:y=187:=UInt8.toNat_inj.1 (by show y.toNat=187;omega)
 have ez:z=191:=UInt8.toNat_inj.1 (by show z.toNat=191;omega)
 rw[show k+3=k+2+1 from rfl,List.take_add_one,hz,show k+2=k+1+1 from rfl,List.take_add_one,hy,List.take_add_one,hx,e,ex,ey,ez]
 simp
def k40 (E:Src) (s rest:BA) (i:Nat) (A:Heap) (q0:Nat) (y1 y3:Int) (H:Heap):Prop:=
 ∃(k q cs:Nat) (l:List UInt8),y1=(q:Int)∧y3=(cs:Int)∧q0≤q∧Pts s (fun _ c=>c≠0∧c≤65535) k∧k≤s.size∧Sfx E.text q (k17 s k++rest)∧i+1≤cs∧cs≤q∧k1J A.size A.size l H∧
  l++(E.text.data.toList.drop cs).take (q -cs)=s.data.toList.take k∧Ext [] A H
theorem keE {q:Nat} (h:q<4294967296):IntKind.i64.wrap (((q+1:Nat):Int) -1)=(q:Int):=by rw[i64w (by omega)];omega
theorem PtB.congr {b0 b1 b2 b3 a0 a1 a2 a3 c:Int} {n:Nat} (h:PtB b0 b1 b2 b3 c n) (h0:a0=b0) (h1:1<n→a1=b1) (h2:2<n→a2=b2) (h3:3<n→a3=b3):PtB a0 a1 a2 a3 c n:=by
 subst h0
 rcases h with⟨rfl,hr⟩|⟨rfl,hr⟩|⟨rfl,hr⟩|⟨rfl,hr⟩
 ·exact .inl ⟨rfl,hr⟩
 ·rw[h1 (by omega)];exact .inr (.inl ⟨rfl,hr⟩)
 ·rw[h1 (by omega),h2 (by omega)];exact .inr (.inr (.inl ⟨rfl,hr⟩))
 ·rw[h1 (by omega),h2 (by omega),h3 (by omega)];exact .inr (.inr (.inr ⟨rfl,hr⟩))
theorem kkP (L:List UInt8) (cs q n:Nat) (h:cs≤q):(L.drop cs).take (q+n -cs)=(L.drop cs).take (q -cs)++(L.drop q).take n:=by
 have e1:q+n -cs=(q -cs)+n:=by omega
 rw[e1,List.take_add,List.drop_drop]
 congr 3;omega
theorem kjs {E:Src} {H:Heap} (h:SrcAt E H) (i:Nat) (s rest:BA) (hsf:Sfx E.text i (k1v s++rest)) (ht:k42 s) (hss:s.size≤1000000):
 Fn PP fq231 #[.pointer (some ⟨E.src,0,none⟩),.int .i64 i] H fun r H'=>
  r= .tuple #[.agg #[.int .i64 18,.int .i64 i,.int .i64 ((i+(k1v s).size:Nat):Int),.string s],nI]∧Ext [] H H':=by
 have hsm:=h.small
 have hz:=hsf.size
 rw[ByteArray.size_append] at hz
 have hq0:Sfx E.text (i+1) (k17 s 0++rest):=by
  have e:k1v s++rest=bs [34]++(k17 s 0++rest):=by unfold k1v;rw[ByteArray.append_assoc]
  rw[e] at hsf;exact hsf.next
 refine readString.enter _ _ H _ ?_
 unfold readString.W
 refine nbI fun H1 e1 hb1 x1 s1=>?_
 have h1:=h.ext x1
 obtain⟨nm,fr,hsrc⟩:=h1.src
 refine⟨(E.body,0,E.text.size,E.cap),lcO hsrc rfl,?_⟩
 dsimp only
 refine nbI fun H2 e2 hb2 x2 s2=>?_
 have hle:=h.le
 have eq0:(k1v s).size=1+(k17 s 0).size:=by
  unfold k1v
  rw[ByteArray.size_append]
  rfl
 rw[k0h (k:=i) (by omega)]
 refine⟨fun z H'=>k40 E s rest i H1 0 z.1 z.2.2.1 H',fun z _=>E.text.size -z.1.toNat,⟨0,i+1,i+1,[],rfl,rfl,Nat.zero_le _,ht,Nat.zero_le _,hq0,Nat.le_refl _,Nat.le_refl _,k1J.new hb2,by simp,x2⟩,?_⟩
 rintro⟨_,rp,_,_⟩ H3 ⟨k,q,cs,l,hy1,hy3,_,hp,hks,hsq,hics,hcq,hbuf,hcont,x3⟩
 dsimp only at hy1 hy3⊢
 subst hy1;subst hy3
 have h3:=h1.ext x3
 have hlen:l.length≤1000000:=by
  have:=congrArg List.length hcont
  simp only[List.length_append,List.length_take,Array.length_toList] at this
  have e:s.data.size=s.size:=rfl
  omega
 refine(k2A h3 q).mono ?_
 rintro _ H4 ⟨rfl,x4⟩
 refine⟨k0y E.text q,rfl,?_⟩
 have y4:=x3.trans x4
 have hbuf4:=hbuf.ext x4
 have hqz:=hsq.size
 rw[ByteArray.size_append] at hqz
 have en:((q:Nat):Int).toNat -((cs:Nat):Int).toNat=q -cs:=by omega
 cases hp with
 |done=>
  have eq:k17 s s.size=bs [34]:=by unfold k17;rw[dif_neg (by omega)]
  rw[eq] at hsq hqz
  have e1:(bs [34]).size=1:=rfl
  have hb:bt E.text q=34:=by rw[hsq.bt0];exact k2r 34 [] rest
  have hr:k0y E.text q=(34,1):=by rw[k2P (by omega) (by rw[hb];decide),hb]
  rw[hr]
  dsimp only
  refine⟨(false,()),fkI (fun _=>fkI (fun _=>fkI (fun _=>⟨rfl,rfl⟩) (fun hh=>absurd hh (by decide))) (fun hh=>absurd hh (by decide))) (fun hh=>by exfalso;simp at hh;omega),?_⟩
  refine fkI (fun hh=>absurd hh (by decide)) (fun _=>fkI (fun hh=>absurd hh (by decide)) (fun _=>?_))
  rw[k4r (by omega),en]
  refine⟨⟨⟨by omega,by omega⟩,by omega,by omega⟩,(k7N y4 hbuf4 h1 cs (q -cs) _ (by omega) (by omega)).mono ?_⟩
  rintro _ H5 ⟨rfl,x5,hbuf5⟩
  refine⟨((q -cs:Nat):Int),rfl,(kby hbuf5).mono ?_⟩
  rintro _ _ ⟨rfl,rfl⟩
  have hstr:(⟨(l++(E.text.data.toList.drop cs).take (q -cs)).toArray⟩:BA)=s:=by
   rw[hcont]
   apply k3j
   have e:s.data.size=s.size:=rfl
   simp only
   rw[List.take_of_length_le (by rw[Array.length_toList];omega)]
  rw[hstr]
  refine⟨s,rfl,?_⟩
  rw[k0h (k:=q) (by omega)]
  refine(k4k _ _ _ _ _).mono ?_
  rintro _ H6 ⟨rfl,x6⟩
  refine⟨(18,(i:Int),((q+1:Nat):Int),s),rfl,?_⟩
  dsimp only
  have y6:=x5.trans x6
  have hb6:=y6.get _ _ hb1 (by simp)
  refine swI hb6 (by simp) rfl rfl fun H7 e7 hb7 x7 s7=>?_
  have hb7':H7[H.size]?=some (.cells #[.int .i64 18,.int .i64 i,.int .i64 ((q+1:Nat):Int),.string s] tq85):=hb7
  rw[lcO hb7' rfl]
  have eq2:q+1=i+(k1v s).size:=by omega
  rw[←eq2]
  refine rkI ⟨rfl,?_⟩
  rw[e7]
  exact(x1.trans y6).setNew (Nat.le_refl _) _
 |step _ c n hk hpt hn0 hcr hp'=>
  obtain⟨hPt,hkn⟩:=k50 hpt hn0 hk
  have hc0:0≤c:=by have:=kao s k;rw[hpt] at this;exact this
  have eqg:k17 s k=k1d s k c n++k17 s (k+n):=by
   have e9:k17 s k=if _h:k<s.size then if _h2:(k0A s k).2=0 then bs [34] else k1d s k (k0A s k).1 (k0A s k).2++k17 s (k+(k0A s k).2) else bs [34]:=by
    conv=>lhs;unfold k17
   rw[e9,dif_pos hk,dif_neg (by rw[hpt];exact hn0),hpt]
  rw[eqg,ByteArray.append_assoc] at hsq
  have hqz2:=hsq.size
  rw[ByteArray.size_append] at hqz2
  have hnx:=hsq.next
  have fin: ∀(y:Int×Int×Int×Unit) (H':Heap),q<E.text.size→k40 E s rest i H1 (q+1) y.1 y.2.2.1 H'→(k40 E s rest i H1 0 y.1 y.2.2.1 H'∧E.text.size -y.1.toNat<E.text.size -((q:Nat):Int).toNat):=by
   rintro y H' hq ⟨k',q',cs',l',g1,g2,g3,hr⟩
   refine⟨⟨k',q',cs',l',g1,g2,Nat.zero_le _,hr⟩,?_⟩
   omega
  have hinv: ∀(q':Nat) (H':Heap),Sfx E.text q' (k17 s (k+n)++rest)→q+1≤q'→Ext [] H1 H'→k1J H1.size H1.size (s.data.toList.take (k+n)) H'→k40 E s rest i H1 (q+1) ((q':Nat):Int) ((q':Nat):Int) H':=
   fun q' H' g1 g2 g3 g4=>⟨k+n,q',q',_,rfl,rfl,g2,hp',hkn,g1,by omega,Nat.le_refl _,g4,by simp,g3⟩
  by_cases hA:(c==34||c==92)=true
  ·have hA':c=34∨c=92:=by simpa using hA
   have hn1:n=1:=by
    rcases hPt with⟨h,_⟩|⟨_,h⟩|⟨_,h⟩|⟨_,h⟩<;>omega
   subst hn1
   have hbk:bt s (k:Nat)=c:=by
    rcases hPt with⟨_,h,_⟩|⟨h,_⟩|⟨h,_⟩|⟨h,_⟩
    ·exact h.symm
    ·omega
    ·omega
    ·omega
   have hqo:k1d s k c 1=bs [92]++s.extract k (k+1):=by unfold k1d;rw[if_pos hA]
   have es:(s.extract k (k+1)).size=1:=by rw[ByteArray.size_extract];omega
   have eq2:(k1d s k c 1).size=2:=by rw[hqo,ByteArray.size_append,es];rfl
   have hb0:bt E.text q=92:=by rw[hsq.bt0,hqo,ByteArray.append_assoc];exact k2r 92 [] _
   have hb1':bt E.text ((q+1:Nat):Int)=c:=by
    rw[hsq.bt 1,k1r _ _ _ (by omega),hqo]
    have e1:(bs [92]).size=1:=rfl
    have:=kbw (bs [92]) (s.extract k (k+1)) 0
    rw[e1] at this
    rw[show((1:Nat):Int)=((1+0:Nat):Int) from rfl,this]
    obtain⟨x,hx,hxb⟩:=k30 hk
    have h9:(s.extract k (k+1)).data.toList[0]?=some x:=by
     rw[k2K,show k+1 -k=1 by omega,List.getElem?_take,if_pos (by omega),List.getElem?_drop]
     exact hx
    rw[k4F h9,←hxb,hbk]
   have hr:k0y E.text q=(92,1):=by rw[k2P (by omega) (by rw[hb0];decide),hb0]
   have hr2:k0y E.text (q+1)=(c,1):=by rw[k2P (by omega) (by rw[hb1'];omega),hb1']
   rw[hr]
   dsimp only
   refine⟨(true,()),fkI (fun _=>fkI (fun _=>fkI (fun _=>⟨rfl,rfl⟩) (fun hh=>absurd hh (by decide))) (fun hh=>absurd hh (by decide))) (fun hh=>by exfalso;simp at hh;omega),?_⟩
   refine fkI (fun _=>?_) (fun hh=>absurd hh (by decide))
   refine⟨(false,()),fkI (fun hh=>absurd hh (by decide)) (fun _=>⟨rfl,rfl⟩),fkI (fun hh=>absurd hh (by decide)) (fun _=>?_)⟩
   refine⟨fun y H'=>k40 E s rest i H1 (q+1) y.1 y.2.2.1 H',?_,fun y H' hy=>fin y H' (by omega) hy⟩
   refine fkI (fun _=>?_) (fun hh=>absurd hh (by decide))
   rw[k0h (k:=q) (by omega),keE (by omega),k4r (by omega),en]
   refine⟨⟨⟨by omega,by omega⟩,by omega,by omega⟩,(k7N y4 hbuf4 h1 cs (q -cs) _ (by omega) (by omega)).mono ?_⟩
   rintro _ H5 ⟨rfl,x5,hbuf5⟩
   rw[hcont] at hbuf5
   refine⟨_,rfl,(k2A (h1.ext x5) (q+1)).mono ?_⟩
   rintro _ H6 ⟨rfl,x6⟩
   refine⟨k0y E.text (q+1),rfl,?_⟩
   have y6:=x5.trans x6
   have hbuf6:=hbuf5.ext x6
   have hl6:(s.data.toList.take k).length≤1000000000:=by rw[List.length_take,Array.length_toList];have e:s.data.size=s.size:=rfl;omega
   rw[hr2]
   dsimp only
   refine⟨fun y H'=>y.1=((q+1:Nat):Int)∧Ext [] H1 H'∧k1J H1.size H1.size (s.data.toList.take (k+1)) H',?_,?_⟩
   ·rw[ken hk hbk (by omega)]
    rcases hA' with rfl|rfl
    ·refine fkI (fun _=>?_) (fun hh=>absurd hh (by decide))
     refine(k96 y6 hbuf6 34 (by decide) hl6).mono ?_
     rintro _ H7 ⟨m,rfl,x7,hb7⟩
     exact⟨m,rfl,rfl,x7,hb7⟩
    ·repeat refine fkI (fun hh=>absurd hh (by decide)) (fun _=>?_)
     refine fkI (fun _=>?_) (fun hh=>absurd hh (by decide))
     refine(k96 y6 hbuf6 92 (by decide) hl6).mono ?_
     rintro _ H7 ⟨m,rfl,x7,hb7⟩
     exact⟨m,rfl,rfl,x7,hb7⟩
   ·rintro⟨_,rp2,_⟩ H7 ⟨rfl,x7,hb7⟩
    dsimp only
    rw[k0h (k:=q+1) (by omega)]
    rw[eq2] at hnx
    exact hinv (q+2) H7 hnx (by omega) x7 hb7
  ·by_cases hB:k2t c=true
   ·obtain⟨d,hd⟩:=kgf hc0 hB
    have htx:=kgg _ hd
    have hvl:=(kgh _ hd).1
    dsimp only at htx hvl
    have hqo:k1d s k c n=escM c:=by unfold k1d;rw[if_neg hA,if_pos hB]
    have eq6:(escM c).size=6:=by
     have:=congrArg List.length htx
     rw[Array.length_toList] at this
     exact this
    rw[hqo] at hsq hnx hqz2
    rw[eq6] at hnx
    have hby: ∀(j:Nat) (x:UInt8),(escM c).data.toList[j]?=some x→bt E.text ((q+j:Nat):Int)=(x.toNat:Int):=by
     intro j x hx
     have hj:j<(escM c).size:=by
      have:=(List.getElem?_eq_some_iff.1 hx).1
      rw[Array.length_toList] at this;exact this
     rw[hsq.bt j,k1r _ _ _ hj]
     exact k4F hx
    have hb0:bt E.text q=92:=hby 0 92 (by rw[htx];rfl)
    have hb1':bt E.text ((q+1:Nat):Int)=117:=hby 1 117 (by rw[htx];rfl)
    have hb2':=hby 2 d.1 (by rw[htx];rfl)
    have hb3':=hby 3 d.2.1 (by rw[htx];rfl)
    have hb4':=hby 4 d.2.2.1 (by rw[htx];rfl)
    have hb5':=hby 5 d.2.2.2 (by rw[htx];rfl)
    have hr:k0y E.text q=(92,1):=by rw[k2P (by omega) (by rw[hb0];decide),hb0]
    have hr2:k0y E.text (q+1)=(117,1):=by rw[k2P (by omega) (by rw[hb1'];decide),hb1']
    rw[hr]
    dsimp only
    refine⟨(true,()),fkI (fun _=>fkI (fun _=>fkI (fun _=>⟨rfl,rfl⟩) (fun hh=>absurd hh (by decide))) (fun hh=>absurd hh (by decide))) (fun hh=>by exfalso;simp at hh;omega),?_⟩
    refine fkI (fun _=>?_) (fun hh=>absurd hh (by decide))
    refine⟨(false,()),fkI (fun hh=>absurd hh (by decide)) (fun _=>⟨rfl,rfl⟩),fkI (fun hh=>absurd hh (by decide)) (fun _=>?_)⟩
    refine⟨fun y H'=>k40 E s rest i H1 (q+1) y.1 y.2.2.1 H',?_,fun y H' hy=>fin y H' (by omega) hy⟩
    refine fkI (fun _=>?_) (fun hh=>absurd hh (by decide))
    rw[k0h (k:=q) (by omega),keE (by omega),k4r (by omega),en]
    refine⟨⟨⟨by omega,by omega⟩,by omega,by omega⟩,(k7N y4 hbuf4 h1 cs (q -cs) _ (by omega) (by omega)).mono ?_⟩
    rintro _ H5 ⟨rfl,x5,hbuf5⟩
    rw[hcont] at hbuf5
    refine⟨_,rfl,(k2A (h1.ext x5) (q+1)).mono ?_⟩
    rintro _ H6 ⟨rfl,x6⟩
    refine⟨k0y E.text (q+1),rfl,?_⟩
    have y6:=x5.trans x6
    have h6:=h1.ext y6
    have hbuf6:=hbuf5.ext x6
    have hl6:(s.data.toList.take k).length≤1000000000:=by rw[List.length_take,Array.length_toList];have e:s.data.size=s.size:=rfl;omega
    rw[hr2]
    dsimp only
    have w1:IntKind.i64.wrap (((q+1:Nat):Int)+1)=((q+2:Nat):Int):=by rw[i64w (by omega)];omega
    have w2:IntKind.i64.wrap (((q+1:Nat):Int)+2)=((q+3:Nat):Int):=by rw[i64w (by omega)];omega
    have w3:IntKind.i64.wrap (((q+1:Nat):Int)+3)=((q+4:Nat):Int):=by rw[i64w (by omega)];omega
    have w4:IntKind.i64.wrap (((q+1:Nat):Int)+4)=((q+5:Nat):Int):=by rw[i64w (by omega)];omega
    rw[w1,w2,w3,w4]
    refine⟨fun y H'=>y.1=((q+5:Nat):Int)∧Ext [] H1 H'∧k1J H1.size H1.size (s.data.toList.take (k+n)) H',?_,?_⟩
    ·repeat refine fkI (fun hh=>absurd hh (by decide)) (fun _=>?_)
     refine fkI (fun _=>?_) (fun hh=>absurd hh (by decide))
     refine fkI (fun hh=>by exfalso;simp at hh;omega) (fun _=>?_)
     refine⟨k0k (by omega) (by omega),_,h6.byte (i:=q+2) (by omega),k0k (by omega) (by omega),_,h6.byte (i:=q+3) (by omega),k0k (by omega) (by omega),_,h6.byte (i:=q+4) (by omega),k0k (by omega) (by omega),_,h6.byte (i:=q+5) (by omega),?_⟩
     dsimp only
     rw[k5q,k5q,k5q,k5q]
     have r1:=k2s E.text ((q+2:Nat):Int)
     have r2:=k2s E.text ((q+3:Nat):Int)
     have r3:=k2s E.text ((q+4:Nat):Int)
     have r4:=k2s E.text ((q+5:Nat):Int)
     refine(kle _ _ _ _ (by omega) (by omega) (by omega) (by omega) H6).mono ?_
     rintro _ _ ⟨rfl,rfl⟩
     rw[hb2',hb3',hb4',hb5',hvl]
     refine⟨c,rfl,fkI (fun hh=>by exfalso;simp at hh;omega) (fun _=>?_)⟩
     refine(k96 y6 hbuf6 c (by omega) hl6).mono ?_
     rintro _ H7 ⟨m,rfl,x7,hb7⟩
     refine⟨m,rfl,rfl,x7,?_⟩
     have hcc:c<128∨c=65279:=by
      simp only[k2t,Bool.or_eq_true,decide_eq_true_eq,beq_iff_eq] at hB;omega
     have htk:s.data.toList.take (k+n)=s.data.toList.take k++Lib.encodeRune c:=by
      rcases hcc with hcc|rfl
      ·rcases hPt with⟨rfl,h9,_⟩|⟨rfl,h9⟩|⟨rfl,h9⟩|⟨rfl,h9⟩
       ·exact ken hk h9.symm hcc
       ·omega
       ·omega
       ·omega
      ·rcases hPt with⟨rfl,h9,_⟩|⟨rfl,h9⟩|⟨rfl,h9⟩|⟨rfl,h9⟩
       ·omega
       ·omega
       ·exact kkL hkn (by omega) (by omega) (by omega)
       ·omega
     rw[htk];exact hb7
    ·rintro⟨_,rp2,_⟩ H7 ⟨rfl,x7,hb7⟩
     dsimp only
     rw[k0h (k:=q+5) (by omega)]
     exact hinv (q+6) H7 hnx (by omega) x7 hb7
   ·have hB':k2t c=false:=by simpa using hB
    have hA':(c==34||c==92)=false:=by simpa using hA
    simp only[k2t,Bool.or_eq_false_iff,decide_eq_false_iff_not,beq_eq_false_iff_ne] at hB'
    simp only[Bool.or_eq_false_iff,beq_eq_false_iff_ne] at hA'
    have hqo:k1d s k c n=s.extract k (k+n):=by unfold k1d;rw[if_neg hA,if_neg hB]
    rw[hqo] at hsq hnx hqz2
    have es:(s.extract k (k+n)).size=n:=by rw[ByteArray.size_extract];omega
    rw[es] at hnx hqz2
    have hby: ∀j,j<n→bt E.text ((q+j:Nat):Int)=bt s ((k+j:Nat):Int):=by
     intro j hj
     rw[hsq.bt j,k1r _ _ _ (by omega)]
     obtain⟨x,hx,hxb⟩:=k30 (s:=s) (k:=k+j) (by omega)
     have h9:(s.extract k (k+n)).data.toList[j]?=some x:=by
      rw[k2K,List.getElem?_take,if_pos (by omega),List.getElem?_drop]
      exact hx
     rw[k4F h9,←hxb]
    have hPT:PtB (bt E.text (q:Nat)) (bt E.text ((q+1:Nat):Int)) (bt E.text ((q+2:Nat):Int)) (bt E.text ((q+3:Nat):Int)) c n:=
     hPt.congr (hby 0 (by omega)) (hby 1) (hby 2) (hby 3)
    have hr:k0y E.text q=(c,(n:Int)):=kdV hPT (by omega)
    rw[hr]
    dsimp only
    refine⟨(true,()),fkI (fun _=>fkI (fun _=>fkI (fun _=>⟨?_,rfl⟩) (fun hh=>by exfalso;simp at hh;omega)) (fun hh=>by exfalso;simp at hh;omega)) (fun hh=>by exfalso;simp at hh;omega),?_⟩
    ·have:(c !=34)=true:=by simp;omega
     rw[this]
    refine fkI (fun _=>?_) (fun hh=>absurd hh (by decide))
    refine⟨(false,()),fkI (fun hh=>by exfalso;simp at hh;omega) (fun _=>⟨rfl,rfl⟩),fkI (fun hh=>absurd hh (by decide)) (fun _=>?_)⟩
    refine⟨fun y H'=>k40 E s rest i H1 (q+1) y.1 y.2.2.1 H',?_,fun y H' hy=>fin y H' (by omega) hy⟩
    refine fkI (fun hh=>by exfalso;simp at hh;omega) (fun _=>?_)
    have hn4:n≤4:=by rcases hPt with⟨h,_⟩|⟨h,_⟩|⟨h,_⟩|⟨h,_⟩<;>omega
    rw[k38 (k:=q) (by omega) n (by omega)]
    refine⟨k+n,q+n,cs,l,rfl,rfl,by omega,hp',hkn,hnx,hics,by omega,hbuf4,?_,y4⟩
    rw[kkP _ _ _ _ hcq,←List.append_assoc,hcont,List.take_add]
    congr 1
    rw[hsq.drop,toList_append,k2K]
    have e1:k+n -k=n:=by omega
    rw[e1,List.take_append_of_le_length,List.take_take,Nat.min_self]
    rw[List.length_take,List.length_drop,Array.length_toList]
    have e:s.data.size=s.size:=rfl
    omega
theorem klq (s:BA) (H:Heap) (hs:s.size<4294967200):
 Fn PP fq255 #[.string s] H fun v H'=> ∃g n c,v= .slice (some ⟨g,0,none⟩) n c∧Fresh H H' tq9 1 (some ⟨g,0,none⟩) n c ((k0w s).map .string):=by
 refine zzLines.enter s H _ ?_
 unfold zzLines.W
 refine⟨fun z H'=> ∃(fr i:Nat) (ss:List BA),z.2.1=fr∧z.2.2.1=i∧fr≤i∧i≤s.size∧z.1.2.1≤i∧Fresh H H' tq9 1 z.1.1 z.1.2.1 z.1.2.2 (ss.map .string)∧k0w s=ss++k1X s fr i,
  fun z _=>s.size -z.2.2.1.toNat,⟨0,0,[],rfl,rfl,Nat.le_refl _,Nat.zero_le _,Nat.le_refl _,Fresh.nil H tq9 1,rfl⟩,?_⟩
 rintro⟨⟨a,n,c⟩,_,_,_⟩ H2 ⟨fr,i,ss,hfr,hi,hfi,his,hni,hf,hss⟩
 dsimp only at hfr hi hf hni⊢
 subst hfr hi
 refine fkI (fun hlt=>?_) (fun hge=>?_)
 ·have hlt':i<s.size:=by simp at hlt;exact hlt
  unfold k1X at hss
  rw[if_pos hlt'] at hss
  refine⟨((bt s i !=10&&bt s i !=13),()),⟨by omega,fkI (fun h1=>⟨by omega,?_,rfl⟩) (fun h1=>⟨?_,rfl⟩)⟩,?_⟩
  ·rw[h1,Bool.and_true]
  ·rw[h1,Bool.and_false]
  refine fkI (fun h1=>?_) (fun h1=>?_)
  ·dsimp only at h1
   rw[if_pos h1] at hss
   rw[k0h (by omega)]
   exact⟨⟨fr,i+1,ss,rfl,rfl,by omega,by omega,by omega,hf,hss⟩,by omega⟩
  ·dsimp only at h1
   rw[if_neg (by rw[h1];simp)] at hss
   refine⟨by omega,nbI fun H4 e4 hb4 ext4 hs4=>?_⟩
   refine(hf.grow ext4).append hb4 rfl (by simp[Value.oneCell']) (by omega) (by omega) ?_
   intro a' c' H7 hf7 _ _
   rw[k0h (k:=i) (by omega)]
   refine⟨((bt s i==13&&(decide (i+1<s.size)&&bt s (i+1:Nat)==10)),()),⟨by omega,?_⟩,?_⟩
   ·refine fkI (fun h2=>fkI (fun h3=>?_) (fun h3=>?_)) (fun h2=>?_)
    ·have h3':i+1<s.size:=by simp at h3;omega
     refine⟨by omega,?_,rfl⟩
     simp only[h2,h3',decide_true,Bool.true_and]
    ·have h3': ¬i+1<s.size:=by simp at h3;omega
     refine⟨?_,rfl⟩
     simp only[h2,h3',decide_false,Bool.true_and,Bool.false_and]
    ·refine⟨?_,rfl⟩
     simp only[h2,Bool.false_and]
   ·have hcell:ss.map Value.string++ #[Value.string (s.extract (fr:Int).toNat (i:Int).toNat)].toList=(ss++[s.extract fr i]).map .string:=by simp
    rw[hcell] at hf7
    refine⟨fun y H'=>H7=H'∧y.1=(if(bt s i==13&&(decide (i+1<s.size)&&bt s (i+1:Nat)==10))=true then((i+1:Nat):Int) else(i:Int)),?_,?_⟩
    ·refine fkI (fun h2=>⟨rfl,?_⟩) (fun h2=>⟨rfl,?_⟩)
     ·dsimp only at h2;rw[if_pos h2]
     ·dsimp only at h2;rw[if_neg (by rw[h2];simp)]
    ·rintro⟨y,_⟩ _ ⟨rfl,hy⟩
     dsimp only at hy⊢
     by_cases h2:(bt s i==13&&(decide (i+1<s.size)&&bt s (i+1:Nat)==10))=true
     ·rw[if_pos h2] at hy hss
      subst hy
      have hl:i+1<s.size:=by simp at h2;omega
      rw[k0h (by omega)]
      exact⟨⟨i+2,i+2,ss++[s.extract fr i],rfl,rfl,by omega,by omega,by omega,hf7,by rw[hss];simp⟩,by omega⟩
     ·rw[if_neg h2] at hy hss
      subst hy
      rw[k0h (by omega)]
      exact⟨⟨i+1,i+1,ss++[s.extract fr i],rfl,rfl,by omega,by omega,by omega,hf7,by rw[hss];simp⟩,by omega⟩
 ·have hge': ¬i<s.size:=by simp at hge;omega
  unfold k1X at hss
  rw[if_neg hge'] at hss
  refine⟨by omega,nbI fun H4 e4 hb4 ext4 hs4=>?_⟩
  refine(hf.grow ext4).append hb4 rfl (by simp[Value.oneCell']) (by omega) (by omega) ?_
  intro a' c' H7 hf7 _ _
  have hcell:ss.map Value.string++ #[Value.string (s.extract (fr:Int).toNat s.size)].toList=(k0w s).map .string:=by rw[hss];simp
  rw[hcell] at hf7
  cases a' with
  |none=>
   rcases hf7.own.2 with⟨_,h,_⟩|⟨g,cur,h,_⟩
   ·omega
   ·cases h
  |some ad=>
   rcases hf7.own.2 with⟨h,_⟩|⟨g,cur,h,_⟩
   ·cases h
   ·cases h
    exact rkI ⟨g,n+1,c',rfl,hf7⟩
theorem kcL (s:BA) (H:Heap) (hs:s.size<4294967200):Fn PP fq256 #[.string s] H fun v H'=>v= .int .i64 (k1b s)∧Ext [] H H':=by
 refine k6d.enter s H _ ?_
 unfold k6d.W
 refine nbI fun H1 e1 hb1 x1 s1=>?_
 refine⟨fun z H'=> ∃k:Nat,z.1=k∧k≤s.size∧k1b s=k2Y s k∧H'[H.size]?=some (.stringIter s k)∧Ext [] H H',fun z _=>s.size -z.1.toNat,⟨0,rfl,Nat.zero_le _,rfl,hb1,x1⟩,?_⟩
 rintro⟨_,_⟩ H2 ⟨k,hk,hks,hl,hb,x2⟩
 dsimp only at hk⊢
 subst hk
 refine⟨s,k,hb,fun hlt=>?_,fun hge=>rkI ⟨?_,x2⟩⟩
 ·have hx:Ext [] H (H2.setIfInBounds H.size (.stringIter s (k+(Utf8.decode s k).2))):=x2.setNew (Nat.le_refl _) _
  have hg:(H2.setIfInBounds H.size (.stringIter s (k+(Utf8.decode s k).2)))[H.size]?=some (.stringIter s (k+(Utf8.decode s k).2)):=k2b _ _ _ _ hb
  generalize H2.setIfInBounds H.size (.stringIter s (k+(Utf8.decode s k).2))=H3 at hx hg
  have hdec:bt s (k:Nat)<128→Utf8.decode s k=((bt s (k:Nat)).toNat,1):=fun h=>kbN (.inl ⟨rfl,rfl,h⟩) (by omega)
  have hr:=k2s s k
  have hw:((((Utf8.decode s k).1:Nat):Int)==32||(((Utf8.decode s k).1:Nat):Int)==9)=k4w (bt s (k:Nat)):=by
   by_cases h:bt s (k:Nat)<128
   ·rw[hdec h]
    have e:(((bt s (k:Nat)).toNat:Nat):Int)=bt s (k:Nat):=by omega
    dsimp only
    rw[e];rfl
   ·have:=kbM (T:=s) (q:=k) (by omega)
    unfold k4w
    have n1:((((Utf8.decode s k).1:Nat):Int)==32)=false:=by simp;omega
    have n2:((((Utf8.decode s k).1:Nat):Int)==9)=false:=by simp;omega
    have n3:(bt s (k:Nat)==32)=false:=by simp;omega
    have n4:(bt s (k:Nat)==9)=false:=by simp;omega
    rw[n1,n2,n3,n4]
  refine k3r ?_
  rw[hw]
  unfold k2Y at hl
  refine fkI (fun h=>?_) (fun h=>?_)
  ·dsimp only at h
   rw[if_pos ⟨hlt,h⟩] at hl
   rw[k0h (by omega)]
   have h128:bt s (k:Nat)<128:=by
    simp only[k4w,Bool.or_eq_true,beq_iff_eq] at h;omega
   rw[hdec h128] at hg
   exact⟨⟨k+1,rfl,hlt,hl,hg,hx⟩,by omega⟩
  ·dsimp only at h
   rw[if_neg (by rw[h];simp)] at hl
   exact rkI ⟨by rw[hl];rfl,hx⟩
 ·unfold k2Y at hl
  rw[if_neg (by omega)] at hl
  rw[hl];rfl
theorem kcP (s:BA) (H:Heap) (hs:s.size<4294967200):Fn PP fq257 #[.string s] H fun v H'=>v= .bool (k13 s)∧Ext [] H H':=by
 refine lineIsBlank.enter s H _ ?_
 unfold lineIsBlank.W
 refine(kcL s H hs).mono ?_
 rintro _ H1 ⟨rfl,x1⟩
 refine⟨_,rfl,rkI ⟨?_,x1⟩⟩
 show Value.bool _=Value.bool _
 congr 1
theorem kbI: ∀l:List BA,k0Z l 0=0
 |[]=>rfl
 |e::r=>by
  simp only[k0Z]
  have h1:decide ((0:Int)<0)=false:=by decide
  have h2:decide ((k1b e:Int)<0)=false:=decide_eq_false (by omega)
  rw[h1,h2]
  simp only[Bool.or_self,Bool.and_false,Bool.false_eq_true,if_false]
  exact kbI r
theorem k9b: ∀(l:List BA) (out:Int),-1≤out→(∀e∈l,(k1b e:Int)<e.size→k0Z l out≤k1b e)∧(0≤out→k0Z l out≤out)∧ -1≤k0Z l out
 |[],out,h=>⟨fun e he=>by simp at he,fun _=>by simp[k0Z],by simpa [k0Z] using h⟩
 |x::r,out,h=>by
  simp only[k0Z]
  have ih1:=k9b r (k1b x:Int) (by omega)
  have ih2:=k9b r out h
  split
  ·rename_i hc
   simp only[Bool.and_eq_true,Bool.or_eq_true,decide_eq_true_eq] at hc
   refine⟨fun e he hl=>?_,fun h0=>?_,ih1.2.2⟩
   ·rcases List.mem_cons.1 he with rfl|he
    ·exact ih1.2.1 (by omega)
    ·exact ih1.1 e he hl
   ·have:=ih1.2.1 (by omega);omega
  ·rename_i hc
   simp only[Bool.and_eq_true,Bool.or_eq_true,decide_eq_true_eq] at hc
   refine⟨fun e he hl=>?_,ih2.2.1,ih2.2.2⟩
   rcases List.mem_cons.1 he with rfl|he
   ·have:=ih2.2.1 (by omega);omega
   ·exact ih2.1 e he hl
def cutP (m:Int) (e:BA):BA:=if(e.size:Int)<m then e else e.extract m.toNat e.size
theorem kbW (e:BA):e.extract 0 e.size=e:=by
 apply k3j
 rw[k2K,List.drop_zero,List.take_of_length_le]
 rw[Array.length_toList]
 have:e.data.size=e.size:=rfl
 omega
theorem kg3 (raw:BA) (h0:(k0w raw).headD eB=eB) (hp:k2O raw=true):
 (if 0<k0Z (k0w raw).tail (-1) then(k0w raw).map (cutP (k0Z (k0w raw).tail (-1))) else k0w raw)=k1h (k1W (k0w raw)) (k0w raw):=by
 have hne:=(k80 raw).1
 unfold k2O at hp
 rw[Bool.and_eq_true] at hp
 have hall:=hp.2
 generalize k0w raw=L at*
 cases L with
 |nil=>exact absurd rfl hne
 |cons a r=>
  simp only[List.headD_cons] at h0
  subst h0
  simp only[List.tail_cons] at hall⊢
  have hg:=k9b r (-1) (by omega)
  have hm:k1W (eB::r)=if 0>k0Z r (-1) then 0 else k0Z r (-1):=rfl
  simp only[k1h]
  show(if 0<k0Z r (-1) then List.map (cutP (k0Z r (-1))) (eB::r) else eB::r)=_
  split
  ·rename_i hgp
   rw[if_neg (by omega)] at hm
   rw[hm] at hall⊢
   simp only[List.map_cons]
   have ea:cutP (k0Z r (-1)) eB=eB:=by
    unfold cutP
    have e0:(eB.size:Int)=0:=rfl
    rw[if_pos (by rw[e0];exact hgp)]
   rw[ea]
   congr 1
   apply List.map_congr_left
   intro e he
   have hs:=List.all_eq_true.1 hall e he
   simp only[k34,k13,Bool.not_eq_true',Bool.and_eq_false_iff,decide_eq_false_iff_not] at hs
   have hl:=hg.1 e he
   have hle:=khB e
   unfold cutP cutM
   split
   ·rename_i h1
    have hz:e.size=0:=by
     rcases hs with h2|h2|h2
     ·have:=hl (by omega);omega
     ·omega
     ·omega
    have he0:e=eB:=by
     apply k3j
     have:e.data.toList.length=0:=by rw[Array.length_toList];exact hz
     rw[List.eq_nil_of_length_eq_zero this];rfl
    subst he0
    rfl
   ·rfl
  ·rename_i hgp
   have hm0:k1W (eB::r)=0:=by rw[hm];split<;>omega
   rw[hm0]
   congr 1
   have:r.map (cutM 0)=r.map id:=by
    apply List.map_congr_left
    intro e _
    unfold cutM
    rw[if_neg (by omega)]
    exact kbW e
   rw[this,List.map_id]
theorem kce: ∀(l:List BA) (out:BA) (k:Nat),0<k→(k1F out k l).data.toList=out.data.toList++(l.map fun e=> [10]++e.data.toList).flatten
 |[],out,k,_=>by simp[k1F]
 |e::r,out,k,h=>by
  simp only[k1F,if_pos h]
  rw[kce r _ (k+1) (by omega)]
  simp[bs]
theorem kch (l:List BA):(⟨(Lib.join (l.map (·.data.toList)) [10]).toArray⟩:BA)=k1F eB 0 l:=by
 apply k3j
 simp only
 cases l with
 |nil=>rfl
 |cons e r=>
  simp only[List.map_cons,k1F,Nat.lt_irrefl,if_false]
  rw[Lib.join_cons,kce _ _ _ (by omega),toList_append]
  have e0:eB.data.toList=[]:=rfl
  rw[e0,List.nil_append]
  unfold Lib.joinTail
  simp[List.map_map,Function.comp_def]
end Go.Vx
set_option maxRecDepth 10000
namespace Go.Vx
open Go Go.Proofs Go.RowKit
theorem kkh {α:Type} {A L:List α} {k:Nat} {x:α} (ha:A[k]?=some x) (hl:L[k]?=some x):A.take (k+1)++L.drop (k+1)=A.take k++L.drop k:=by
 have h1:=(List.getElem?_eq_some_iff.1 ha)
 have h2:=(List.getElem?_eq_some_iff.1 hl)
 rw[List.take_succ_eq_append_getElem h1.1,List.drop_eq_getElem_cons h2.1,h1.2,h2.2]
 simp
theorem kki {α:Type} {A L:List α} {k:Nat} {x:α} (ha:A[k]?=some x) (hl:k<L.length):(A.take k++L.drop k).set k x=A.take (k+1)++L.drop (k+1):=by
 have h1:=(List.getElem?_eq_some_iff.1 ha)
 have h1l:=h1.1
 have hk:(A.take k).length=k:=by rw[List.length_take];omega
 rw[List.take_succ_eq_append_getElem h1.1,List.drop_eq_getElem_cons hl,h1.2,List.set_append_right _ _ (by omega),hk,Nat.sub_self,List.set_cons_zero,List.append_assoc]
 rfl
theorem kkg {α:Type} {A L:List α} {k:Nat} {x:α} (hA:k≤A.length) (hl:L[k]?=some x):(A.take k++L.drop k)[k]?=some x:=by
 have hk:(A.take k).length=k:=by rw[List.length_take];omega
 rw[List.getElem?_append_right (by omega),hk,List.getElem?_drop]
 simpa using hl
theorem kgS {H:Heap} {a:OA} {n c:Nat} {ss:List BA} (h:k0I H a n ss) (hc:n≤c) (hn:n≤1000000000) (hz:(k1F eB 0 ss).size≤100000000000):
 Fn PP fq258 #[.slice a n c,.string (bs [10])] H fun v H'=>v= .string (k1F eB 0 ss)∧Ext [] H H':=by
 intro w hw
 subst hw
 have hl:=h.1
 rcases h.2 with h0|⟨g,o,cs,e,fr,rfl,hg,hr⟩
 ·subst h0
  have hs:ss=[]:=List.eq_nil_of_length_eq_zero hl.symm
  subst hs
  refine(Any.strings_Join_none kcG kcH a c (bs [10]) w).mono ?_
  rintro e w' ⟨rfl,rfl⟩
  exact⟨_,rfl,Same.refl _,rfl,Ext.refl _ _⟩
 ·have hlen:(Lib.join (ss.map (·.data.toList)) (bs [10]).data.toList).length≤140737488355328:=by
   have h1:=congrArg (fun x:BA=>x.data.toList.length) (kch ss)
   simp only at h1
   have e1:(bs [10]).data.toList=[10]:=rfl
   rw[e1,h1,Array.length_toList]
   have:(k1F eB 0 ss).data.size=(k1F eB 0 ss).size:=rfl
   omega
  subst hl
  refine(Any.strings_Join kcG kcH g o c ss (bs [10]) w (fun j x hj=>?_) (k0l hg) (by omega) hc hlen).mono ?_
  ·show k1a w.heap _=_
   simp only[k1a,hg,Option.isSome_none,if_false,Bool.false_eq_true]
   exact hr j x hj
  ·rintro e w' ⟨rfl,hB⟩
   have e1:(bs [10]).data.toList=[10]:=rfl
   refine⟨_,rfl,⟨hB.os,hB.tape,hB.output⟩,?_,kbq hB⟩
   rw[e1,kch]
theorem kcf: ∀(l:List BA) (out:BA) (k M:Nat),(∀e∈l,e.size≤M)→(k1F out k l).size≤out.size+l.length*(M+1)
 |[],out,k,M,_=>by simp[k1F]
 |e::r,out,k,M,h=>by
  simp only[k1F]
  have h1:=h e (by simp)
  have ih:=kcf r ((if 0<k then out++bs [10] else out)++e) (k+1) M fun x hx=>h x (by simp[hx])
  have h2:((if 0<k then out++bs [10] else out)++e).size≤out.size+1+M:=by
   rw[ByteArray.size_append]
   have e1:(bs [10]).size=1:=rfl
   split
   ·rw[ByteArray.size_append,e1];omega
   ·omega
  rw[List.length_cons,Nat.succ_mul]
  omega
theorem kg2 (m:Int) (e:BA):(cutP m e).size≤e.size:=by
 unfold cutP;split
 ·exact Nat.le_refl _
 ·rw[ByteArray.size_extract];omega
theorem kcU {α:Type} {p:α→Bool}: ∀ {l:List α} {x:α},x∈l.dropWhile p→x∈l
 |a::l,x,h=>by
  rw[List.dropWhile_cons] at h
  split at h
  ·exact List.mem_cons_of_mem _ (kcU h)
  ·exact h
theorem kfD (raw:BA) (H:Heap) (hs:raw.size<100000) (h0:(k0w raw).headD eB=eB) (hp:k2O raw=true):
 Fn PP fq243 #[.string raw] H fun v H'=>v= .string (k44 raw)∧Ext [] H H':=by
 refine k5p.enter raw H _ ?_
 unfold k5p.W
 refine(klq raw H (by omega)).mono ?_
 rintro _ H2 ⟨g,n,c,rfl,hf⟩
 refine⟨(some ⟨g,0,none⟩,n,c),rfl,?_⟩
 dsimp only
 have hcut:=kg3 raw h0 hp
 obtain⟨hne,hlen,hsz⟩:=k80 raw
 have hb:k44 raw=k1F (bs []) 0 (k2g ((k1h (k1W (k0w raw)) (k0w raw)).dropWhile k13)):=rfl
 rw[←hcut] at hb
 clear hcut hp h0
 generalize k0w raw=L at*
 have hn:=(k0I.of_own hf.own).1
 have hnc:n≤c:=(hf.own.row rfl).choose_spec.2.2.1
 have hcM:c≤maxLen:=(hf.own.row rfl).choose_spec.2.2.2.1
 simp only[maxLen] at hcM
 have hpos:0<L.length:=List.length_pos_iff.2 hne
 refine⟨fun y H'=>Fresh H H' tq9 1 (some ⟨g,0,none⟩) n c (L.map .string)∧y.1=k0Z L.tail (-1),?_,?_⟩
 ·refine⟨fun z H'=>Fresh H H' tq9 1 (some ⟨g,0,none⟩) n c (L.map .string)∧ ∃k:Nat,z.2.1=k∧1≤k∧k≤n∧ -1≤z.1∧k0Z L.tail (-1)=k0Z (L.drop k) z.1,fun z _=>n -z.2.1.toNat,
   ⟨hf,1,rfl,Nat.le_refl _,by omega,by omega,by rw[List.drop_one]⟩,?_⟩
  rintro⟨out,_,_⟩ H3 ⟨hf3,k,hk,hk1,hkn,ho,hgo⟩
  dsimp only at hk ho hgo⊢
  subst hk
  refine fkI (fun hlt=>?_) (fun hge=>?_)
  ·have hlt':k<L.length:=by simp at hlt;omega
   have hi:L[k]?=some L[k]:=List.getElem?_eq_getElem hlt'
   have hd:L.drop k=L[k]::L.drop (k+1):=List.drop_eq_getElem_cons hlt'
   rw[hd] at hgo
   simp only[k0Z] at hgo
   have hz:=hsz _ (List.getElem_mem hlt')
   generalize L[k]=e at hi hgo hz
   have hL:=(k0I.of_own hf3.own).load hi
   refine⟨hL.1,_,hL.2,(kcL e H3 (by omega)).mono ?_⟩
   rintro _ H4 ⟨rfl,x4⟩
   refine⟨_,rfl,?_⟩
   refine⟨(decide ((k1b e:Int)<e.size)&&(decide (out<0)||decide ((k1b e:Int)<out)),()),?_,?_⟩
   ·refine fkI (fun h1=>fkI (fun h2=>⟨?_,rfl⟩) (fun h2=>⟨?_,rfl⟩)) (fun h1=>⟨?_,rfl⟩)
    ·have:decide (out<0)=true:=by simp at h2;simp;omega
     rw[h1,this];rfl
    ·have:decide (out<0)=false:=by simp at h2;simp;omega
     rw[h1,this];rfl
    ·rw[h1];rfl
   ·dsimp only
    refine⟨fun y H'=>H4=H'∧y.1=(if(decide ((k1b e:Int)<e.size)&&(decide (out<0)||decide ((k1b e:Int)<out)))=true then(k1b e:Int) else out),?_,?_⟩
    ·refine fkI (fun h1=>fkI (fun h2=>⟨hf3.grow x4,?_⟩) (fun h2=>⟨rfl,by rw[if_pos h1]⟩)) (fun h1=>⟨rfl,by rw[if_neg (by rw[h1];simp)]⟩)
     have h2':(k1b e:Int)=0:=by simpa using h2
     rw[if_pos h1,h2',kbI] at hgo
     rw[hgo,h2']
    ·rintro⟨y,_⟩ _ ⟨rfl,hy⟩
     dsimp only at hy⊢
     rw[←hy] at hgo
     rw[k0h (by omega)]
     refine⟨⟨hf3.grow x4,k+1,rfl,by omega,by omega,?_,hgo⟩,by omega⟩
     rw[hy];split<;>omega
  ·have hge':k=L.length:=by simp at hge;omega
   rw[hge',List.drop_length] at hgo
   exact⟨hf3,hgo.symm⟩
 rintro⟨_,_⟩ H3 ⟨hf3,rfl⟩
 dsimp only
 clear hf
 generalize k0Z L.tail (-1)=G at hb⊢
 refine⟨fun _ H'=>Fresh H H' tq9 1 (some ⟨g,0,none⟩) n c ((if 0<G then L.map (cutP G) else L).map .string),?_,?_⟩
 ·refine fkI (fun hG=>?_) (fun hG=>?_)
  ·have hG':0<G:=by simpa using hG
   rw[if_pos hG']
   have hAl:(L.map (cutP G)).length=L.length:=List.length_map ..
   refine⟨fun z H'=> ∃k:Nat,z.1=k∧k≤n∧Fresh H H' tq9 1 (some ⟨g,0,none⟩) n c (((L.map (cutP G)).take k++L.drop k).map .string),fun z _=>n -z.1.toNat,⟨0,rfl,Nat.zero_le _,by simpa using hf3⟩,?_⟩
   rintro⟨_,_⟩ H4 ⟨k,hk,hkn,hf4⟩
   dsimp only at hk⊢
   subst hk
   refine fkI (fun hlt=>?_) (fun hge=>?_)
   ·have hlt':k<L.length:=by simp at hlt;omega
    have hi:L[k]?=some L[k]:=List.getElem?_eq_getElem hlt'
    have hz:=hsz _ (List.getElem_mem hlt')
    generalize L[k]=e at hi hz
    have hA:(L.map (cutP G))[k]?=some (cutP G e):=by rw[List.getElem?_map,hi];rfl
    have hL:=(k0I.of_own hf4.own).load (kkg (A:=L.map (cutP G)) (by omega) hi)
    refine⟨hL.1,_,hL.2,fkI (fun h1=>?_) (fun h1=>?_)⟩
    ·have h1':(e.size:Int)<G:=by simp at h1;omega
     have he:cutP G e=e:=by unfold cutP;rw[if_pos h1']
     rw[he] at hA
     rw[k0h (by omega)]
     exact⟨⟨k+1,rfl,by omega,by rw[kkh hA hi];exact hf4⟩,by omega⟩
    ·have h1': ¬(e.size:Int)<G:=by simp at h1;omega
     have he:cutP G e=e.extract G.toNat e.size:=by unfold cutP;rw[if_neg h1']
     refine⟨⟨by omega,by omega⟩,hL.1,?_⟩
     refine OwnS.store (k:=k) hf4.own (by omega) (by simp[k0b]) rfl ?_
     intro H5 own5 ext5 hs5
     rw[k0h (by omega)]
     refine⟨⟨k+1,rfl,by omega,⟨?_,?_,hf4.row⟩⟩,by omega⟩
     ·refine⟨Nat.le_trans hf4.ext.size ext5.size,fun j o hj hn=>ext5.get _ _ (hf4.ext.get _ _ hj hn) ?_⟩
      have:=k0l hj
      have:=hf4.row g rfl
      simp;omega
     ·rw[←he,←List.map_set,kki hA hlt'] at own5
      exact own5
   ·have hge':k=L.length:=by simp at hge;omega
    rw[hge',List.drop_length,List.append_nil,←hAl,List.take_length] at hf4
    exact hf4
  ·have hG': ¬0<G:=by simpa using hG
   rw[if_neg hG']
   exact hf3
 rintro⟨_⟩ H4 hf4
 have hC: ∀e∈(if 0<G then L.map (cutP G) else L),e.size≤raw.size:=by
  intro e he
  split at he
  ·obtain⟨e',he',rfl⟩:=List.mem_map.1 he
   exact Nat.le_trans (kg2 _ _) (hsz e' he')
  ·exact hsz e he
 have hCl:(if 0<G then L.map (cutP G) else L).length=n:=by split<;>simp[hn]
 generalize (if 0<G then L.map (cutP G) else L)=L1 at*
 clear hf3 hsz hne
 have hS:=k0I.of_own hf4.own
 -- the empty lines in front
 refine⟨fun y H'=>Ext [] H H'∧ ∃ss,k0I H' y.1.1 y.1.2.1 ss∧y.1.2.1≤n∧y.1.2.1≤y.1.2.2∧y.1.2.2≤c∧ss=L1.dropWhile k13,?_,?_⟩
 ·refine⟨fun z H'=>Ext [] H H'∧ ∃ss,k0I H' z.1.1 z.1.2.1 ss∧z.1.2.1≤n∧z.1.2.1≤z.1.2.2∧z.1.2.2≤c∧ss.dropWhile k13=L1.dropWhile k13∧ ∀e∈ss,e.size≤raw.size,fun z _=>z.1.2.1,
   ⟨hf4.ext,L1,hS,Nat.le_refl _,hnc,Nat.le_refl _,rfl,hC⟩,?_⟩
  rintro⟨⟨a,n',c'⟩,_⟩ H5 ⟨x5,ss,hss,hn',hc',hcc,hd,hsz⟩
  dsimp only at hss hn' hc' hcc⊢
  cases ss with
  |nil=>
   have hl:=hss.1
   refine⟨fun y H'=>Ext [] H H'∧k0I H' a n' []∧y.1=false,fkI (fun hlt=>by exfalso;simp at hl hlt;omega) (fun _=>⟨x5,hss,rfl⟩),?_⟩
   rintro⟨_,_⟩ H6 ⟨x6,hs6,rfl⟩
   exact fkI (fun hh=>Bool.noConfusion (show false=true from hh)) (fun _=>⟨x6,[],hs6,hn',hc',hcc,by rw[←hd];rfl⟩)
  |cons e ss=>
   have hl:=hss.1
   simp only[List.length_cons] at hl
   have hL:=hss.load (i:=0) (s:=e) rfl
   refine⟨fun y H'=>Ext [] H H'∧k0I H' a n' (e::ss)∧y.1=k13 e,?_,?_⟩
   ·refine fkI (fun _=>?_) (fun hge=>by exfalso;simp at hge;omega)
    refine⟨hL.1,_,hL.2,(kcP e H5 (by have:=hsz e (by simp);omega)).mono ?_⟩
    rintro _ H6 ⟨rfl,x6⟩
    exact⟨_,rfl,x5.trans x6,hss.ext x6 (by simp),rfl⟩
   ·rintro⟨_,_⟩ H6 ⟨x6,hs6,rfl⟩
    dsimp only
    refine fkI (fun hb=>?_) (fun hb=>⟨x6,e::ss,hs6,hn',hc',hcc,by rw[←hd];simp[hb]⟩)
    refine⟨⟨by omega,by omega⟩,⟨x6,ss,hs6.slice_lo hc',?_,?_,?_,?_,fun e' he'=>hsz e' (by simp[he'])⟩,?_⟩
    ·show n' -1≤n;omega
    ·show n' -1≤c' -1;omega
    ·show c' -1≤c;omega
    ·rw[←hd];simp[hb]
    ·show n' -1<n';omega
 rintro⟨⟨a,n',c'⟩,_⟩ H5 ⟨x5,ss,hss,hn',hc',hcc,hd⟩
 dsimp only at hss hn' hc' hcc⊢
 have hC2: ∀e∈ss,e.size≤raw.size:=fun e he=>hC e (kcU (by rw[←hd];exact he))
 rw[←hd] at hb
 clear hd hS hC hf4
 -- the empty lines behind
 refine⟨fun z H'=>Ext [] H H'∧ ∃ss',k0I H' z.1.1 z.1.2.1 ss'∧z.1.2.1≤n∧z.1.2.1≤z.1.2.2∧z.1.2.2≤c∧k2g ss'=k2g ss∧ ∀e∈ss',e.size≤raw.size,fun z _=>z.1.2.1,
  ⟨x5,ss,hss,hn',hc',hcc,rfl,hC2⟩,?_⟩
 rintro⟨⟨a2,n2,c2⟩,_⟩ H6 ⟨x6,s2,hs2,hn2,hc2,hcc2,ht,hsz2⟩
 dsimp only at hs2 hn2 hc2 hcc2⊢
 have hl:=hs2.1
 have fin: ∀H7,Ext [] H H7→k0I H7 a2 n2 s2→s2=k2g ss→
  k00 PP fq258 #[(.slice a2 n2 c2),(.string (bs [10]))] H7 pStr fun(x49:BA) H50=>rk [(.string x49)] H50 fun v H'=>v= .string (k44 raw)∧Ext [] H H':=by
  intro H7 x7 hs7 hst
  have hz:=kcf s2 eB 0 raw.size hsz2
  have e0:eB.size=0:=rfl
  have hm:s2.length*(raw.size+1)≤100001*100000:=Nat.mul_le_mul (by omega) (by omega)
  have hz2:(k1F eB 0 s2).size≤raw.size+100001*100000:=by omega
  refine(kgS hs7 hc2 (by omega) (by omega)).mono ?_
  rintro _ H8 ⟨rfl,x8⟩
  exact⟨_,rfl,rkI ⟨by rw[hb,←hst];rfl,x7.trans x8⟩⟩
 rcases List.eq_nil_or_concat s2 with rfl|⟨r,e,rfl⟩
 ·refine⟨fun y H'=>Ext [] H H'∧k0I H' a2 n2 []∧y.1=false,fkI (fun hlt=>by exfalso;simp at hl hlt;omega) (fun _=>⟨x6,hs2,rfl⟩),?_⟩
  rintro⟨_,_⟩ H7 ⟨x7,hs7,rfl⟩
  exact fkI (fun hh=>Bool.noConfusion (show false=true from hh)) (fun _=>fin H7 x7 hs7 (by rw[←ht];rfl))
 ·have hl':n2=r.length+1:=by simpa using hl
  have hw:IntKind.i64.wrap ((n2:Int) -1)=(r.length:Int):=by rw[i64w (by omega)];omega
  have hw2:IntKind.i64.wrap ((r.length:Int)+1)=(n2:Int):=by rw[i64w (by omega)];omega
  have hL:=hs2.load (i:=r.length) (s:=e) (by simp)
  rw[hw,hw2]
  refine⟨fun y H'=>Ext [] H H'∧k0I H' a2 n2 (r.concat e)∧y.1=k13 e,?_,?_⟩
  ·refine fkI (fun _=>?_) (fun hge=>by exfalso;simp at hge;omega)
   refine⟨hL.1,_,hL.2,(kcP e H6 (by have:=hsz2 e (by simp);omega)).mono ?_⟩
   rintro _ H7 ⟨rfl,x7⟩
   exact⟨_,rfl,x6.trans x7,hs2.ext x7 (by simp),rfl⟩
  ·rintro⟨_,_⟩ H7 ⟨x7,hs7,rfl⟩
   dsimp only
   refine fkI (fun hb=>?_) (fun hb=>fin H7 x7 hs7 (by rw[←ht,List.concat_eq_append,kes hb]))
   have h3:=hs7.slice_hi (c:=c2) (m:=r.length) (by omega)
   simp only[List.concat_eq_append,List.take_left'] at h3
   have em:n2 -((n2:Nat):Int).toNat=0:=by omega
   have er:((r.length:Nat):Int).toNat=r.length:=by omega
   rw[em,er]
   refine⟨⟨by omega,by omega⟩,⟨by omega,by omega⟩,.inl ⟨rfl,by omega,?_⟩⟩
   refine⟨⟨x7,r,h3,?_,?_,hcc2,?_,fun e' he'=>hsz2 e' (by simp[he'])⟩,?_⟩
   ·show r.length+0≤n;omega
   ·show r.length+0≤c2;omega
   ·rw[←ht,List.concat_eq_append,ker hb]
   ·show r.length+0<n2;omega
structure DigT (s:BA) (a b:Nat):Prop where
 le:a≤b
 dig: ∀k,a≤k→k<b→k<s.size∧k1j (bt s k)=true
 asc:Asc s b
 fin:b<s.size→k1j (bt s b)=false
theorem k4a {c:Int} (h:k1j c=true):48≤c∧c≤57:=by simpa [k1j] using h
theorem DigT.ascAt {s:BA} {a b:Nat} (h:DigT s a b):Asc s a:=by
 intro hlt
 rcases Nat.lt_or_ge a b with h1|h1
 ·have:=k4a (h.dig a (Nat.le_refl _) h1).2;omega
 ·have e:a=b:=by have:=h.le;omega
  subst e;exact h.asc hlt
theorem kau {E:Src} {H:Heap} (h:SrcAt E H) (a b:Nat) (hab:a<b) (hd:DigT E.text a b):
 Fn PP fq241 #[.pointer (some ⟨E.src,0,none⟩),.int .i64 a,.int .i32 (k0s E.text a).1,.int .i64 (k0s E.text a).2] H fun v H'=>v= .tuple #[.int .i64 b,nI]∧H=H':=by
 have hsm:=h.small
 have ha:=hd.dig a (Nat.le_refl _) hab
 have hda:=k4a ha.2
 have hb1:=hd.dig (b -1) (by omega) (by omega)
 refine readDigits.enter _ _ _ _ H _ ?_
 unfold readDigits.W
 obtain⟨nm,fr,hsrc⟩:=h.src
 refine⟨(E.body,0,E.text.size,E.cap),lcO hsrc rfl,?_⟩
 dsimp only
 have hdig: ∀(c:Int) (H:Heap) (rest:Bool×Unit→Prop),rest (k1j c,())→k0j (Bool×Unit) H (fun J2=>k02 (decide (c≥48)) (J2 ((decide (c≤57)),()) H) (J2 (false,()) H)) rest:=by
  intro c H rest hr
  refine k2w ?_
  have e:(decide (c≥48)&&decide (c≤57))=k1j c:=rfl
  rw[e];exact hr
 refine hdig _ _ _ ?_
 refine fkI (fun _=>?_) (fun hh=>?_)
 ·refine⟨fun z H'=>H=H'∧ ∃k:Nat,z.2.1=k∧a≤k∧k≤b∧z.1=(k0s E.text k).2∧z.2.2.1=(k0s E.text k).1,fun z _=>b -z.2.1.toNat,⟨rfl,a,rfl,Nat.le_refl _,hd.le,rfl,rfl⟩,?_⟩
  rintro⟨_,_,_,_⟩ _ ⟨rfl,k,hk,hak,hkb,h1,h2⟩
  dsimp only at hk h1 h2⊢
  subst hk;subst h1;subst h2
  refine hdig _ _ _ ?_
  refine fkI (fun hy=>?_) (fun hy=>?_)
  ·have hlt:k<b:=by
    rcases Nat.lt_or_ge k b with h9|h9
    ·exact h9
    ·exfalso
     have e:k=b:=by omega
     subst e
     by_cases hl:k<E.text.size
     ·simp only[k0s,hl,if_true] at hy;rw[hd.fin hl] at hy;cases hy
     ·simp[k0s,hl,k1j] at hy
   have hkd:=hd.dig k hak hlt
   have er:k0s E.text k=(bt E.text k,1):=by simp[k0s,hkd.1]
   rw[er]
   dsimp only
   rw[k0h (k:=k) (by omega)]
   have hasc:Asc E.text (k+1):=by
    intro hl
    rcases Nat.lt_or_ge (k+1) b with h9|h9
    ·have:=k4a (hd.dig (k+1) (by omega) h9).2;omega
    ·have e:k+1=b:=by omega
     rw[e] at hl⊢;exact hd.asc hl
   refine(k3d h (k+1) hasc).mono ?_
   rintro _ _ ⟨rfl,rfl⟩
   exact⟨_,rfl,⟨rfl,k+1,rfl,by omega,by omega,rfl,rfl⟩,by omega⟩
  ·have he:k=b:=by
    rcases Nat.lt_or_ge k b with h9|h9
    ·exfalso
     have hkd:=hd.dig k hak h9
     simp only[k0s,hkd.1,if_true] at hy
     rw[hkd.2] at hy;cases hy
    ·omega
   subst he
   exact rkI ⟨rfl,rfl⟩
 ·exfalso
  simp only[k0s,ha.1,if_true] at hh
  rw[ha.2] at hh;cases hh
def k7Y (c:Int):Bool:=c==43||c==45
def isEB (c:Int):Bool:=c==69||c==101
theorem kjp {E:Src} {H:Heap} (h:SrcAt E H) (st a b c j:Nat) (f1 fl:Bool) (hst:st<E.text.size) (hasc:bt E.text st<128) (ha:a=if bt E.text st=45 then st+1 else st)
 (hd:DigT E.text a b) (hab:a<b) (h0: ¬(bt E.text a=48∧a+1<b))
 (hf:(b<E.text.size∧bt E.text b=46∧DigT E.text (b+1) c∧b+1<c∧f1=true)∨((b<E.text.size→bt E.text b≠46)∧c=b∧f1=false))
 (he:(c<E.text.size∧isEB (bt E.text c)=true∧(∃e,e=(if k7Y (k0s E.text (c+1)).1=true then c+2 else c+1)∧Asc E.text (c+1)∧DigT E.text e j∧e<j)∧fl=true)∨((c<E.text.size→isEB (bt E.text c)=false)∧j=c∧fl=f1)):
 Fn PP fq229 #[.pointer (some ⟨E.src,0,none⟩),.int .i64 st,.int .i32 (bt E.text st),.int .i64 1] H fun v H'=>
  v= .tuple #[.agg #[.int .i64 (if fl=true then 17 else 16),.int .i64 st,.int .i64 j,.string (E.text.extract st j)],nI]∧Ext [] H H':=by
 have hsm:=h.small
 have hda:=hd.dig a (Nat.le_refl _) hab
 have hdb:=hd.dig (b -1) (by omega) (by omega)
 have hdA:=k4a hda.2
 have cb:b≤c∧c≤E.text.size∧Asc E.text c:=by
  rcases hf with⟨_,_,h3,h4,_⟩|⟨_,h3,_⟩
  ·have:=h3.dig (c -1) (by omega) (by omega)
   exact⟨by omega,by omega,h3.asc⟩
  ·subst h3;exact⟨Nat.le_refl _,by omega,hd.asc⟩
 have jb:c≤j∧j≤E.text.size:=by
  rcases he with⟨_,_,⟨e,h3,_,h4,h5⟩,_⟩|⟨_,h3,_⟩
  ·have:=h4.dig (j -1) (by omega) (by omega)
   split at h3<;>omega
  ·omega
 have sta:st≤a∧a≤st+1:=by split at ha<;>omega
 refine readNumber.enter _ _ _ _ H _ ?_
 unfold readNumber.W
 refine nbI fun H1 e1 hb1 x1 s1=>?_
 have h1:=h.ext x1
 obtain⟨nm,fr,hsrc⟩:=h1.src
 refine⟨(E.body,0,E.text.size,E.cap),lcO hsrc rfl,?_⟩
 dsimp only
 have step1: ∀k:Nat,k<E.text.size→IntKind.i64.wrap ((k:Int)+(k0s E.text k).2)=((k+1:Nat):Int):=by
  intro k hk
  simp only[k0s,hk,if_true]
  rw[k0h (k:=k) (by omega)]
 -- the sign
 refine⟨fun y H'=>H1=H'∧y=((k0s E.text a).2,(k0s E.text a).1,(a:Int),()),?_,?_⟩
 ·refine fkI (fun hm=>?_) (fun hm=>⟨rfl,?_⟩)
  ·have hm':bt E.text st=45:=by simpa using hm
   rw[if_pos hm'] at ha
   rw[k0h (k:=st) (by omega),←ha]
   refine(k3d h1 a hd.ascAt).mono ?_
   rintro _ _ ⟨rfl,rfl⟩
   exact⟨_,rfl,rfl,rfl⟩
  ·have hm':bt E.text st≠45:=by simpa using hm
   rw[if_neg hm'] at ha
   subst ha
   simp[k0s,hst]
 rintro _ _ ⟨rfl,rfl⟩
 dsimp only
 have ra:k0s E.text a=(bt E.text a,1):=by simp[k0s,hda.1]
 rw[ra]
 dsimp only
 -- the whole part
 refine⟨fun y H'=>H1=H'∧y=((k0s E.text b).2,(k0s E.text b).1,(b:Int),()),?_,?_⟩
 ·refine fkI (fun hz=>?_) (fun hz=>?_)
  ·have hz':bt E.text a=48:=by simpa using hz
   have eb:a+1=b:=by
    rcases Nat.lt_or_ge (a+1) b with h9|h9
    ·exact absurd ⟨hz',h9⟩ h0
    ·omega
   rw[k0h (k:=a) (by omega),eb]
   refine(k3d h1 b hd.asc).mono ?_
   rintro _ _ ⟨rfl,rfl⟩
   refine⟨_,rfl,?_⟩
   dsimp only
   refine k2w ?_
   have hnd:(decide ((k0s E.text b).1≥48)&&decide ((k0s E.text b).1≤57))=false:=by
    by_cases hl:b<E.text.size
    ·simp only[k0s,hl,if_true]
     exact hd.fin hl
    ·simp[k0s,hl]
   rw[hnd]
   exact fkI (fun hh=>absurd hh (by decide)) (fun _=>⟨rfl,rfl⟩)
  ·have:=kau h1 a b hab hd
   rw[ra] at this
   refine this.mono ?_
   rintro _ _ ⟨rfl,rfl⟩
   refine⟨(b:Int),rfl,(k3d h1 b hd.asc).mono ?_⟩
   rintro _ _ ⟨rfl,rfl⟩
   exact⟨_,rfl,rfl,rfl⟩
 rintro _ _ ⟨rfl,rfl⟩
 dsimp only
 -- the fraction
 refine⟨fun y H'=>H1=H'∧y=((k0s E.text c).2,(k0s E.text c).1,(c:Int),f1,()),?_,?_⟩
 ·refine fkI (fun hp=>?_) (fun hp=>?_)
  ·rcases hf with⟨hl,hp2,hd2,hlt,rfl⟩|⟨hn,_,_⟩
   ·rw[step1 b hl]
    refine(k3d h1 (b+1) hd2.ascAt).mono ?_
    rintro _ _ ⟨rfl,rfl⟩
    refine⟨_,rfl,(kau h1 (b+1) c hlt hd2).mono ?_⟩
    rintro _ _ ⟨rfl,rfl⟩
    refine⟨(c:Int),rfl,(k3d h1 c hd2.asc).mono ?_⟩
    rintro _ _ ⟨rfl,rfl⟩
    exact⟨_,rfl,rfl,rfl⟩
   ·exfalso
    by_cases hl:b<E.text.size
    ·simp only[k0s,hl,if_true,beq_iff_eq] at hp
     exact hn hl hp
    ·simp[k0s,hl] at hp
  ·rcases hf with⟨hl,hp2,_⟩|⟨_,rfl,rfl⟩
   ·exfalso
    simp[k0s,hl,hp2] at hp
   ·exact⟨rfl,rfl⟩
 rintro _ _ ⟨rfl,rfl⟩
 dsimp only
 -- the exponent
 refine k3r ?_
 refine⟨fun y H'=>H1=H'∧y=((j:Int),fl,()),?_,?_⟩
 ·have hE:((k0s E.text c).1==69||(k0s E.text c).1==101)=isEB (k0s E.text c).1:=rfl
  rw[hE]
  refine fkI (fun hp=>?_) (fun hp=>?_)
  ·rcases he with⟨hl,hp2,⟨e,hee,hasc2,hd2,hlt⟩,rfl⟩|⟨hn,_,_⟩
   ·rw[step1 c hl]
    refine(k3d h1 (c+1) hasc2).mono ?_
    rintro _ _ ⟨rfl,rfl⟩
    refine⟨_,rfl,?_⟩
    dsimp only
    refine k3r ?_
    have hPM:((k0s E.text (c+1)).1==43||(k0s E.text (c+1)).1==45)=k7Y (k0s E.text (c+1)).1:=rfl
    rw[hPM]
    refine⟨fun y H'=>H1=H'∧y=((k0s E.text e).2,(k0s E.text e).1,(e:Int),()),?_,?_⟩
    ·refine fkI (fun hpm=>?_) (fun hpm=>?_)
     ·dsimp only at hpm
      rw[if_pos hpm] at hee
      have hl1:c+1<E.text.size:=by
       rcases Nat.lt_or_ge (c+1) E.text.size with h9|h9
       ·exact h9
       ·exfalso;simp[k0s,Nat.not_lt.2 h9,k7Y] at hpm
      rw[step1 (c+1) hl1,←hee]
      refine(k3d h1 e hd2.ascAt).mono ?_
      rintro _ _ ⟨rfl,rfl⟩
      exact⟨_,rfl,rfl,rfl⟩
     ·dsimp only at hpm
      rw[if_neg (by rw[hpm];simp)] at hee
      subst hee
      exact⟨rfl,rfl⟩
    rintro _ _ ⟨rfl,rfl⟩
    dsimp only
    refine(kau h1 e j hlt hd2).mono ?_
    rintro _ _ ⟨rfl,rfl⟩
    exact⟨(j:Int),rfl,rfl,rfl⟩
   ·exfalso
    dsimp only at hp
    by_cases hl:c<E.text.size
    ·simp only[k0s,hl,if_true] at hp
     rw[hn hl] at hp;cases hp
    ·simp[k0s,hl,isEB] at hp
  ·rcases he with⟨hl,hp2,_⟩|⟨_,rfl,rfl⟩
   ·exfalso
    dsimp only at hp
    simp only[k0s,hl,if_true] at hp
    rw[hp2] at hp;cases hp
   ·exact⟨rfl,rfl⟩
 rintro _ _ ⟨rfl,rfl⟩
 dsimp only
 refine⟨fun y H'=>H1=H'∧y.1=(if fl=true then 17 else 16),?_,?_⟩
 ·exact fkI (fun hh=>⟨rfl,by rw[if_pos hh]⟩) (fun hh=>⟨rfl,by rw[if_neg (by rw[hh];simp)]⟩)
 rintro⟨kd,_⟩ _ ⟨rfl,hkd⟩
 dsimp only at hkd⊢
 have hle:=h.le
 rw[k4r (by omega)]
 have en:((j:Nat):Int).toNat -((st:Nat):Int).toNat=j -st:=by omega
 rw[en]
 refine⟨⟨⟨by omega,by omega⟩,by omega,by omega⟩,h1.str (by omega) ?_⟩
 have ej:st+(j -st)=j:=by omega
 rw[ej]
 refine(k4k _ _ _ _ _).mono ?_
 rintro _ H2 ⟨rfl,x2⟩
 refine⟨(kd,((st:Nat):Int),((j:Nat):Int),E.text.extract st j),rfl,?_⟩
 dsimp only
 have hb2:=x2.get _ _ hb1 (by simp)
 refine swI hb2 (by simp) rfl rfl fun H3 e3 hb3 x3 s3=>?_
 have hb4:H3[H.size]?=some (.cells #[.int .i64 kd,.int .i64 st,.int .i64 j,.string (E.text.extract st j)] tq85 (0,0)):=hb3
 rw[lcO hb4 rfl]
 refine rkI ⟨by rw[hkd];rfl,?_⟩
 subst e3
 exact(x1.trans x2).setNew (Nat.le_refl _) _
abbrev T4t:Pat:=⟨Int×Int×Int×BA,fun x=>(.tuple #[(.agg #[(.int .i64 x.1),(.int .i64 x.2.1),(.int .i64 x.2.2.1),(.string x.2.2.2)]),nI])⟩
theorem kjw {E:Src} {H:Heap} (h:SrcAt E H) (at_ i:Nat) (hw:WsRun E.text at_ i) (hi:i<E.text.size) (hc:bt E.text i=45∨k1j (bt E.text i)=true) {k en:Int} {v:BA}
 (hN: ∀H1,Ext [] H H1→Fn PP fq229 #[.pointer (some ⟨E.src,0,none⟩),.int .i64 i,.int .i32 (bt E.text i),.int .i64 1] H1 fun r H'=>r= .tuple #[.agg #[.int .i64 k,.int .i64 i,.int .i64 en,.string v],nI]∧Ext [] H1 H'):
 Fn PP fq197 #[.pointer (some ⟨E.src,0,none⟩),.int .i64 at_] H fun r H'=>r= .tuple #[.agg #[.int .i64 k,.int .i64 i,.int .i64 en,.string v],nI]∧Ext [] H H':=by
 have hsm:=h.small
 have hcr:bt E.text i=45∨(48≤bt E.text i∧bt E.text i≤57):=hc.imp id k4a
 refine readToken.enter _ _ H _ ?_
 unfold readToken.W
 refine nbI fun H1 e1 hb1 x1 s1=>?_
 have h1:=h.ext x1
 obtain⟨nm,fr,hsrc⟩:=h1.src
 refine⟨(E.body,0,E.text.size,E.cap),lcO hsrc rfl,?_⟩
 dsimp only
 refine(k51 h1 at_ i hw).mono ?_
 rintro _ _ ⟨rfl,rfl⟩
 refine⟨((i:Int),(i:Int)),rfl,?_⟩
 dsimp only
 refine fkI (fun hge=>by exfalso;simp at hge;omega) (fun _=>?_)
 have hfin: ∀H',Ext [H.size] H1 H'→Ext [] H H':=fun H' x=>⟨by have:=x1.size;have:=x.size;omega,fun q o hq _=>x.get _ _ (x1.get _ _ hq (by simp)) (by have:=k0l hq;simp;omega)⟩
 refine(k3e h1 i (by omega) (by omega)).mono ?_
 rintro _ _ ⟨rfl,rfl⟩
 refine⟨(bt E.text i,1),rfl,?_⟩
 dsimp only
 have hN1:=hN H1 x1
 generalize bt E.text i=c at hcr hN1
 refine⟨(false,()),fkI (fun hh=>by exfalso;simp at hh;omega) (fun _=>⟨rfl,rfl⟩),fkI (fun hh=>absurd hh (by decide)) (fun _=>?_)⟩
 refine⟨fun _ _=>False,?_,fun _ _ hh=>hh.elim⟩
 repeat refine fkI (fun hh=>by exfalso;simp only[beq_iff_eq] at hh;omega) (fun _=>?_)
 have fin: ∀(K:Int×Int×Int×BA→Heap→Prop),(∀H2,Ext [] H1 H2→K (k,(i:Int),en,v) H2)→k00 PP fq229 #[.pointer (some ⟨E.src,0,none⟩),.int .i64 i,.int .i32 c,.int .i64 1] H1 T4t K:=by
  intro K hK
  refine hN1.mono ?_
  rintro _ H2 ⟨rfl,x2⟩
  exact⟨(k,(i:Int),en,v),rfl,hK H2 x2⟩
 have fin2: ∀H2,Ext [] H1 H2→
  newB H2 (.cells #[(.int .i64 0),(.int .i64 0),(.int .i64 0),sE] tq85) fun b298 H299=>
  k08 H299 ⟨b298,0,none⟩ [(.int .i64 k),(.int .i64 i),(.int .i64 en),(.string v)] fun H300=>
  k01 H300 true 4 ⟨b298,0,none⟩ T4p fun(x301:Int×Int×Int×BA)=>
  k08 H300 ⟨H.size,0,none⟩ [(.int .i64 x301.1),(.int .i64 x301.2.1),(.int .i64 x301.2.2.1),(.string x301.2.2.2)] fun H302=>
  retK (k09 (k07 H302 true 4 ⟨H.size,0,none⟩) ((k09 (some nI) (some [])))) H302 fun r H'=>r= .tuple #[.agg #[.int .i64 k,.int .i64 i,.int .i64 en,.string v],nI]∧Ext [] H H':=by
  intro H2 x2
  have hb2:=x2.get _ _ hb1 (by simp)
  have z2:=x2.size
  refine nbI fun H3 e3 hb3 x3 s3=>?_
  refine swI hb3 (by simp) rfl rfl fun H4 e4 hb4 x4 s4=>?_
  have hb4':H4[H2.size]?=some (.cells #[.int .i64 k,.int .i64 i,.int .i64 en,.string v] tq85):=hb4
  refine⟨(k,(i:Int),en,v),lcO hb4' rfl,?_⟩
  dsimp only
  have y4:Ext [] H2 H4:=by rw[e4];exact x3.setNew (Nat.le_refl _) _
  have hb14:=y4.get _ _ hb2 (by simp)
  refine swI hb14 (by simp) rfl rfl fun H5 e5 hb5 x5 s5=>?_
  have hb5':H5[H.size]?=some (.cells #[.int .i64 k,.int .i64 i,.int .i64 en,.string v] tq85):=hb5
  rw[lcO hb5' rfl]
  exact rkI ⟨rfl,hfin H5 ((x2.trans y4).of_nil.trans x5)⟩
 repeat refine fkI (fun _=>fin _ fin2) (fun n=>?_)
 exfalso
 simp only[beq_eq_false_iff_ne] at*
 omega
theorem k6r {s:BA} {k:Nat} (h:k<s.size):k0v s k=bt s k:=by unfold k0v;rw[if_neg (by omega)]
theorem kih {s:BA} {k:Nat} (h:s.size≤k):k0v s k=0:=by unfold k0v;rw[if_pos h]
theorem kla {s:BA} {k:Int} (hn:Num s 0 k s.size):TokS s (k,s):=by
 obtain⟨a,b,k1,c,ha,hd,hab,h0,hf,he⟩:=hn
 have hdl:=hd.2.1
 have a1:a≤1:=by split at ha<;>omega
 -- b ≤ c ≤ size
 have hbs:b≤s.size:=k4b hd hab
 have hcs:b≤c∧c≤s.size:=by
  rcases hf with⟨_,_,h3,h4⟩|⟨_,_,h3⟩
  ·have:=k4b h3 h4;omega
  ·omega
 have hpos:0<s.size:=by omega
 have hb0:bt s (0:Nat)=45∨k1j (bt s (0:Nat))=true:=by
  by_cases h45:k0v s 0=45
  ·left;rw[←k6r hpos];exact h45
  ·right
   rw[if_neg h45] at ha
   subst ha
   have:=hdl 0 (Nat.le_refl _) hab
   rwa [k6r hpos] at this
 have hb0':bt s (0:Nat)=45∨(48≤bt s (0:Nat)∧bt s (0:Nat)≤57):=hb0.imp id k4a
 have hcl:k1m s=true:=by
  rw[k9a]
  rcases hb0' with h|h
  ·exact .inr (.inl h)
  ·left;simp only[k1Y,decide_eq_true_eq];omega
 have hk:k=16∨k=17:=by
  rcases he with⟨_,h1,_⟩|⟨_,h1,_⟩
  ·exact .inr h1
  ·rcases hf with⟨_,h2,_⟩|⟨_,h2,_⟩
   ·exact .inr (by omega)
   ·exact .inl (by omega)
 refine⟨hpos,by omega,?_,by omega,fun h14=>by dsimp only at h14;omega,fun E at_ i rest hw hsf hdel _ H h=>?_⟩
 ·generalize bt s (0:Nat)=c at hb0'
  simp only[k2X,Bool.or_eq_false_iff,beq_eq_false_iff_ne]
  omega
 have hz:=hsf.size
 rw[ByteArray.size_append] at hz
 have hby: ∀q:Nat,q<s.size→bt E.text ((i+q:Nat):Int)=k0v s q:=by
  intro q hq
  rw[hsf.bt q,k1r _ _ _ hq,k6r hq]
 -- behind the number
 have hend: ∀q:Nat,q=s.size→i+q<E.text.size→bt E.text ((i+q:Nat):Int)<128∧k1Y (bt E.text ((i+q:Nat):Int))=false∧bt E.text ((i+q:Nat):Int)≠46:=by
  intro q hq hlt
  subst hq
  rw[hsf.next.bt0]
  rcases hdel hcl with h1|h1
  ·omega
  ·exact h1
 have hend2: ∀c:Int,k1Y c=false→k1j c=false∧isEB c=false:=by
  intro c hc
  simp only[k1Y,decide_eq_false_iff_not] at hc
  constructor
  ·simp only[k1j,Bool.and_eq_false_iff,decide_eq_false_iff_not];omega
  ·simp only[isEB,Bool.or_eq_false_iff,beq_eq_false_iff_ne];omega
 have hdt: ∀x y:Nat,k3U s x y→y≤s.size→(y<s.size→k0v s y<128)→DigT E.text (i+x) (i+y):=by
  intro x y hxy hy hasc
  refine⟨by have:=hxy.1;omega,fun q h1 h2=>?_,fun hlt=>?_,fun hlt=>?_⟩
  ·obtain⟨q,rfl⟩: ∃q',q=i+q':=⟨q -i,by omega⟩
   have:=hxy.2.1 q (by omega) (by omega)
   rw[hby q (by omega)]
   exact⟨by omega,this⟩
  ·by_cases hys:y<s.size
   ·rw[hby y hys];exact hasc hys
   ·exact(hend y (by omega) hlt).1
  ·by_cases hys:y<s.size
   ·rw[hby y hys];exact hxy.2.2
   ·exact(hend2 _ (hend y (by omega) hlt).2.1).1
 -- the bytes at b, c
 have hE: ∀q:Nat,q≤s.size→i+q<E.text.size→isEB (bt E.text ((i+q:Nat):Int))=isE (k0v s q):=by
  intro q hq hlt
  have comm: ∀z:Int,isEB z=isE z:=fun z=>Bool.or_comm _ _
  by_cases hqs:q<s.size
  ·rw[hby q hqs,comm]
  ·rw[kih (by omega),(hend2 _ (hend q (by omega) hlt).2.1).2];rfl
 have hDot: ∀q:Nat,q≤s.size→i+q<E.text.size→k0v s q≠46→bt E.text ((i+q:Nat):Int)≠46:=by
  intro q hq hlt h46
  by_cases hqs:q<s.size
  ·rw[hby q hqs];exact h46
  ·exact(hend q (by omega) hlt).2.2
 have hcb:c<s.size→k0v s c<128:=by
  intro hlt
  rcases he with⟨h1,_⟩|⟨_,_,h1⟩
  ·simp only[isE,Bool.or_eq_true,beq_iff_eq] at h1;omega
  ·omega
 have hbb:b<s.size→k0v s b<128:=by
  intro hlt
  rcases hf with⟨h1,_⟩|⟨_,_,h1⟩
  ·omega
  ·subst h1;exact hcb hlt
 have hN: ∀H1,Ext [] H H1→Fn PP fq229 #[.pointer (some ⟨E.src,0,none⟩),.int .i64 i,.int .i32 (bt E.text i),.int .i64 1] H1 fun r H'=>r= .tuple #[.agg #[.int .i64 k,.int .i64 i,.int .i64 ((i+s.size:Nat):Int),.string s],nI]∧Ext [] H1 H':=by
  intro H1 x1
  have hasc0:bt E.text i<128:=by rw[hsf.bt0,k1r _ _ _ hpos];omega
  have ha':i+a=if bt E.text i=45 then i+1 else i:=by
   rw[hsf.bt0,k1r _ _ _ hpos]
   rw[k6r hpos] at ha
   rw[ha]
   have e:((0:Nat):Int)=0:=rfl
   split<;>simp_all
  have hk17:k=if(k==17)=true then 17 else 16:=by rcases hk with rfl|rfl<;>rfl
  have:=kjp (h.ext x1) i (i+a) (i+b) (i+c) (i+s.size) (k1==17) (k==17) (by omega) hasc0 ha' (hdt a b hd hbs hbb) (by omega) ?_ ?_ ?_
  ·rw[hsf.extract,←hk17] at this
   exact this
  ·rw[hby a (by omega)]
   rw[k6r (by omega)]
   intro hh;exact h0 ⟨hh.1,by omega⟩
  ·rcases hf with⟨h1,rfl,h3,h4⟩|⟨h1,rfl,h3⟩
   ·have hbl:b<s.size:=k3N (by rw[h1];decide)
    refine .inl ⟨by omega,by rw[hby b hbl];exact h1,?_,by omega,rfl⟩
    have:=hdt (b+1) c h3 hcs.2 hcb
    exact this
   ·refine .inr ⟨fun hlt=>hDot b hbs hlt h1,by omega,rfl⟩
  ·rcases he with⟨h1,rfl,e,hee,h3,h4⟩|⟨h1,h2,h3⟩
   ·have hcl2:c<s.size:=k3N (by intro h9;rw[h9] at h1;exact absurd h1 (by decide))
    have hes:=k4b h3 h4
    refine .inl ⟨by omega,by rw[hE c hcs.2 (by omega)];exact h1,⟨i+e,?_,?_,?_,by omega⟩,rfl⟩
    ·have hc1:c+1<s.size:=by split at hee<;>omega
     have hl1:i+c+1<E.text.size:=by omega
     have er:(k0s E.text (i+c+1)).1=k0v s (c+1):=by
      simp only[k0s,hl1,if_true]
      have:=hby (c+1) hc1
      rw[←this];rfl
     rw[er]
     have comm:k7Y (k0v s (c+1))=isPM (k0v s (c+1)):=rfl
     rw[comm,hee]
     split<;>omega
    ·intro _
     have hc1:c+1<s.size:=by split at hee<;>omega
     have:=hby (c+1) hc1
     have e2:i+c+1=i+(c+1):=by omega
     rw[e2,this]
     split at hee
     ·rename_i hpm
      simp only[isPM,Bool.or_eq_true,beq_iff_eq] at hpm;omega
     ·subst hee
      have:=k4a (h3.2.1 (c+1) (Nat.le_refl _) h4);omega
    ·exact hdt e s.size h3 (Nat.le_refl _) (fun h9=>by omega)
   ·refine .inr ⟨fun hlt=>by rw[hE c hcs.2 hlt];exact h1,by omega,by rw[h2]⟩
 have hc0:bt E.text i=45∨k1j (bt E.text i)=true:=by rw[hsf.bt0,k1r _ _ _ hpos];exact hb0
 exact kjw h at_ i hw (by omega) hc0 hN
theorem kbs {s:BA}: ∀(n k:Nat),s.size -k=n→(∀j,k≤j→k2D s j k32=false)→k≤s.size→k3B s k=s.extract k s.size++bs [10,34,34,34]:=by
 intro n
 induction n with
 |zero=>
  intro k hk _ hks
  unfold k3B
  rw[if_neg (by omega)]
  have:k=s.size:=by omega
  subst this
  apply k3j
  rw[toList_append,k2K]
  simp
 |succ n ih=>
  intro k hk hq hks
  unfold k3B
  rw[if_pos (by omega),if_neg (by rw[hq k (Nat.le_refl _)];simp),ih (k+1) (by omega) (fun j hj=>hq j (by omega)) (by omega)]
  apply k3j
  rw[toList_append,toList_append,toList_append,k2K,k2K,k2K,←List.append_assoc]
  congr 1
  have e:s.size -k=1+(s.size -(k+1)):=by omega
  rw[e,List.take_add,List.drop_drop,show k+1 -k=1 by omega]
theorem keb {s:BA} {j:Nat} (h:k2D s j k32=true):j+3≤s.size∧bt s (j:Nat)=34∧bt s ((j+1:Nat):Int)=34∧bt s ((j+2:Nat):Int)=34:=by
 simp only[k2D,Bool.and_eq_true,decide_eq_true_eq] at h
 have e3:k32.size=3:=rfl
 rw[e3] at h
 have he:=k7O h.2
 have hl:(s.data.toList.drop j).take 3=[34,34,34]:=by
  have:=congrArg (fun x:BA=>x.data.toList) he
  simp only[k2K] at this
  rw[show j+3 -j=3 by omega] at this
  exact this
 have key: ∀i,i<3→bt s ((j+i:Nat):Int)=34:=by
  intro i hi
  have h1:((s.data.toList.drop j).take 3)[i]?=some 34:=by
   rw[hl]
   match i,hi with
   |0,_=>rfl
   |1,_=>rfl
   |2,_=>rfl
  rw[List.getElem?_take,if_pos hi,List.getElem?_drop] at h1
  rw[k4F h1];rfl
 exact⟨h.1,key 0 (by omega),key 1 (by omega),key 2 (by omega)⟩
theorem kkj {s:BA} {j:Nat} (h:j+3≤s.size) (h0:bt s (j:Nat)=34) (h1:bt s ((j+1:Nat):Int)=34) (h2:bt s ((j+2:Nat):Int)=34):k2D s j k32=true:=by
 have e3:k32.size=3:=rfl
 simp only[k2D,Bool.and_eq_true,decide_eq_true_eq,e3]
 refine⟨h,?_⟩
 have he:s.extract j (j+3)=k32:=by
  apply k3j
  rw[k2K,show j+3 -j=3 by omega]
  obtain⟨x,hx,hxb⟩:=k30 (s:=s) (k:=j) (by omega)
  obtain⟨y,hy,hyb⟩:=k30 (s:=s) (k:=j+1) (by omega)
  obtain⟨z,hz,hzb⟩:=k30 (s:=s) (k:=j+2) (by omega)
  have ex:x=34:=UInt8.toNat_inj.1 (by show x.toNat=34;omega)
  have ey:y=34:=UInt8.toNat_inj.1 (by show y.toNat=34;omega)
  have ez:z=34:=UInt8.toNat_inj.1 (by show z.toNat=34;omega)
  subst ex;subst ey;subst ez
  rw[show(3:Nat)=0+1+1+1 from rfl,List.take_add_one,List.take_add_one,List.take_add_one]
  simp only[List.getElem?_drop,Nat.add_zero]
  rw[hx,hy,hz]
  rfl
 rw[he]
 simp
theorem Pts.here {s:BA} {P:Nat→Int→Prop} {k:Nat} (h:Pts s P k) (hk:k<s.size): ∃c n,k0A s k=(c,n)∧n≠0∧P k c∧Pts s P (k+n):=by
 cases h with
 |done=>omega
 |step _ c n h1 h2 h3 h4 h5=>exact⟨c,n,h2,h3,h4,h5⟩
theorem kbt {s:BA}: ∀(k:Nat),Pts s (k2m s) k→ ∀j,k≤j→k2D s j k32=false:=by
 intro k h
 induction h with
 |done=>
  intro j hj
  rw[←Bool.not_eq_true]
  intro hs
  have:=keb hs
  omega
 |step i c n hi hp hn hP _ ih=>
  intro j hj
  by_cases hjn:i+n≤j
  ·exact ih j hjn
  ·by_cases he:j=i
   ·subst he;exact hP.2.2.2.2
   ·rw[←Bool.not_eq_true]
    intro hs
    have hb:=(keb hs).2.1
    obtain⟨hPt,hin⟩:=k50 hp hn hi
    have hj3:j=i+1∨j=i+2∨j=i+3:=by
     have:n≤4:=by rcases hPt with⟨h,_⟩|⟨h,_⟩|⟨h,_⟩|⟨h,_⟩<;>omega
     omega
    rcases hPt with⟨rfl,_⟩|⟨rfl,h⟩|⟨rfl,h⟩|⟨rfl,h⟩
    ·omega
    ·rcases hj3 with rfl|rfl|rfl<;>omega
    ·rcases hj3 with rfl|rfl|rfl<;>omega
    ·rcases hj3 with rfl|rfl|rfl<;>omega
theorem ki2 (s:BA) (h:bt s (0:Nat)=10) (hs:0<s.size):(k0w s).headD eB=eB:=by
 unfold k0w k1X
 have h':bt s 0=10:=h
 rw[if_pos hs,if_neg (by simp[h']),if_neg (by simp[h'])]
 show s.extract 0 0=eB
 apply k3j
 rw[k2K]
 rfl
inductive Cps (T:BA) (e:Nat):Nat→Prop
 |done:Cps T e e
 |step (q:Nat) (c:Int) (n:Nat):q+n≤e→PtB (bt T (q:Nat)) (bt T ((q+1:Nat):Int)) (bt T ((q+2:Nat):Int)) (bt T ((q+3:Nat):Int)) c n→(c=9∨c=10∨32≤c)→Cps T e (q+n)→Cps T e q
theorem Cps.of_pts {T s:BA} {o e:Nat} (hb: ∀j,j<s.size→bt T ((o+j:Nat):Int)=bt s (j:Nat)) (he:o+s.size≤e) (hd:Cps T e (o+s.size)): ∀k,Pts s (k2m s) k→Cps T e (o+k):=by
 intro k h
 induction h with
 |done=>exact hd
 |step i c n hi hp hn hP _ ih=>
  obtain⟨hPt,hin⟩:=k50 hp hn hi
  have h4:n≤4:=by rcases hPt with⟨h,_⟩|⟨h,_⟩|⟨h,_⟩|⟨h,_⟩<;>omega
  refine .step _ c n (by omega) (hPt.congr (hb i hi) (fun h=>?_) (fun h=>?_) (fun h=>?_)) hP.1 (by rw[Nat.add_assoc];exact ih)
  ·rw[Nat.add_assoc];exact hb (i+1) (by omega)
  ·rw[Nat.add_assoc];exact hb (i+2) (by omega)
  ·rw[Nat.add_assoc];exact hb (i+3) (by omega)
def keK (E:Src) (i e:Nat) (A:Heap) (q0:Nat) (y1 y3:Int) (H:Heap):Prop:=
 ∃(q:Nat),y1=(q:Int)∧y3=((i+3:Nat):Int)∧q0≤q∧i+3≤q∧q≤e∧Cps E.text e q∧k1J A.size A.size [] H∧Ext [] A H
theorem kjn {E:Src} {H:Heap} (h:SrcAt E H) (i:Nat) (s rest:BA) (hsf:Sfx E.text i (k1C s++rest)) (hB:k3x s) (hss:s.size≤90000):
 Fn PP fq230 #[.pointer (some ⟨E.src,0,none⟩),.int .i64 i] H fun r H'=>
  r= .tuple #[.agg #[.int .i64 19,.int .i64 i,.int .i64 ((i+(k1C s).size:Nat):Int),.string s],nI]∧Ext [] H H':=by
 have hsm:=h.small
 obtain⟨hP,hval,hplain⟩:=hB
 have hno:=kbt 0 hP
 have hgo:=kbs s.size 0 rfl (fun j _=>hno j (Nat.zero_le _)) (Nat.zero_le _)
 rw[kbW] at hgo
 have htx:k1C s=bs [34,34,34]++(k2a s++bs [34,34,34]):=by
  unfold k1C k2a
  rw[hgo]
  apply k3j
  simp only[toList_append,List.append_assoc]
  rfl
 have e3:(bs [34,34,34]).size=3:=rfl
 have e1:(bs [10]).size=1:=rfl
 have hrz:(k2a s).size=s.size+2:=by unfold k2a;rw[ByteArray.size_append,ByteArray.size_append,e1];omega
 have hbz:(k1C s).size=s.size+8:=by rw[htx,ByteArray.size_append,ByteArray.size_append,hrz,e3];omega
 rw[htx,ByteArray.append_assoc,ByteArray.append_assoc] at hsf
 have sR:=hsf.next
 rw[e3] at sR
 have s2:=sR.next
 rw[hrz] at s2
 obtain⟨e,he⟩: ∃e,e=i+3+(s.size+2):=⟨_,rfl⟩
 rw[←he] at s2
 have hz:=s2.size
 rw[ByteArray.size_append,e3] at hz
 -- the bytes
 have bq: ∀j,j<3→bt E.text ((e+j:Nat):Int)=34:=by
  intro j hj
  rw[s2.bt j,k1r _ _ _ (by omega)]
  match j,hj with
  |0,_=>rfl
  |1,_=>rfl
  |2,_=>rfl
 have s1':Sfx E.text (i+3) (bs [10]++(s++(bs [10]++(bs [34,34,34]++rest)))):=by
  have:k2a s++(bs [34,34,34]++rest)=bs [10]++(s++(bs [10]++(bs [34,34,34]++rest))):=by unfold k2a;simp only[ByteArray.append_assoc]
  rw[←this];exact sR
 have b0:bt E.text ((i+3:Nat):Int)=10:=by rw[s1'.bt0];exact k2r 10 [] _
 have s3:=s1'.next
 rw[e1] at s3
 have bs': ∀j,j<s.size→bt E.text ((i+3+1+j:Nat):Int)=bt s (j:Nat):=by
  intro j hj
  rw[s3.bt j,k1r _ _ _ hj]
 have s4:=s3.next
 have bl:bt E.text ((i+3+1+s.size:Nat):Int)=10:=by rw[s4.bt0];exact k2r 10 [] _
 have hcps:Cps E.text e (i+3):=by
  refine .step _ 10 1 (by omega) (.inl ⟨rfl,b0.symm,by rw[b0];decide⟩) (by omega) ?_
  refine Cps.of_pts (o:=i+3+1) bs' (by omega) ?_ 0 hP
  refine .step _ 10 1 (by omega) (.inl ⟨rfl,bl.symm,by rw[bl];decide⟩) (by omega) ?_
  have:i+3+1+s.size+1=e:=by omega
  rw[this];exact .done
 have no3: ∀q,i+3≤q→q<e→bt E.text (q:Nat)=34→bt E.text ((q+1:Nat):Int)=34→bt E.text ((q+2:Nat):Int)=34→False:=by
  intro q h1 h2 h3 h4 h5
  obtain⟨k,rfl⟩: ∃k,q=i+3+k:=⟨q -(i+3),by omega⟩
  by_cases hk0:k=0
  ·subst hk0;rw[Nat.add_zero] at h3;omega
  by_cases hk1:k=s.size+1
  ·subst hk1;rw[show i+3+(s.size+1)=i+3+1+s.size by omega] at h3;omega
  by_cases hk2:k=s.size
  ·subst hk2;rw[show i+3+s.size+1=i+3+1+s.size by omega] at h4;omega
  by_cases hk3:k+1=s.size
  ·rw[show i+3+k+2=i+3+1+s.size by omega] at h5;omega
  have g1:=bs' (k -1) (by omega)
  have g2:=bs' k (by omega)
  have g3:=bs' (k+1) (by omega)
  rw[show i+3+1+(k -1)=i+3+k by omega,h3] at g1
  rw[show i+3+1+k=i+3+k+1 by omega,h4] at g2
  rw[show i+3+1+(k+1)=i+3+k+2 by omega,h5] at g3
  have:=kkj (s:=s) (j:=k -1) (by omega) g1.symm (by rw[show k -1+1=k by omega];exact g2.symm) (by rw[show k -1+2=k+1 by omega];exact g3.symm)
  rw[hno (k -1) (Nat.zero_le _)] at this
  cases this
 refine k6A.enter _ _ H _ ?_
 unfold k6A.W
 refine nbI fun H1 e1 hb1 x1 s1=>?_
 have h1:=h.ext x1
 obtain⟨nm,fr,hsrc⟩:=h1.src
 refine⟨(E.body,0,E.text.size,E.cap),lcO hsrc rfl,?_⟩
 dsimp only
 refine nbI fun H2 e2 hb2 x2 s2=>?_
 have hle:=h.le
 have w3:IntKind.i64.wrap ((i:Int)+3)=((i+3:Nat):Int):=by rw[i64w (by omega)];omega
 rw[w3]
 refine⟨fun z H'=>keK E i e H1 0 z.1 z.2.2.1 H',fun z _=>E.text.size -z.1.toNat,⟨i+3,rfl,rfl,Nat.zero_le _,Nat.le_refl _,by omega,hcps,k1J.new hb2,x2⟩,?_⟩
 rintro⟨_,rp,_,_⟩ H3 ⟨q,hy1,hy3,_,hiq,hqe,hcp,hbuf,x3⟩
 dsimp only at hy1 hy3⊢
 subst hy1;subst hy3
 refine fkI (fun hh=>by exfalso;simp at hh;omega) (fun _=>?_)
 refine(k2A (h1.ext x3) q).mono ?_
 rintro _ H4 ⟨rfl,x4⟩
 refine⟨k0y E.text q,rfl,?_⟩
 have y4:=x3.trans x4
 have w1:IntKind.i64.wrap ((q:Int)+1)=((q+1:Nat):Int):=by rw[i64w (by omega)];omega
 have w2:IntKind.i64.wrap ((q:Int)+2)=((q+2:Nat):Int):=by rw[i64w (by omega)];omega
 have w3:IntKind.i64.wrap ((q:Int)+3)=((q+3:Nat):Int):=by rw[i64w (by omega)];omega
 rw[w1,w2,w3]
 cases hcp with
 |done=>
  have g0:=bq 0 (by omega)
  have g1:=bq 1 (by omega)
  have g2:=bq 2 (by omega)
  have hr:k0y E.text e=(34,1):=by rw[k2P (by omega) (by show bt E.text ((e+0:Nat):Int)<128;rw[g0];decide)];exact congrArg (·,(1:Int)) g0
  have hr1:k0y E.text (e+1)=(34,1):=by rw[k2P (by omega) (by rw[g1];decide),g1]
  have hr2:k0y E.text (e+2)=(34,1):=by rw[k2P (by omega) (by rw[g2];decide),g2]
  rw[hr]
  dsimp only
  refine⟨fun _ _=>False,?_,fun _ _ hh=>hh.elim⟩
  refine fkI (fun _=>?_) (fun hh=>absurd hh (by decide))
  refine(k2A (h1.ext y4) (e+1)).mono ?_
  rintro _ H5 ⟨rfl,x5⟩
  refine⟨k0y E.text (e+1),rfl,(k2A (h1.ext (y4.trans x5)) (e+2)).mono ?_⟩
  rintro _ H6 ⟨rfl,x6⟩
  refine⟨k0y E.text (e+2),rfl,?_⟩
  rw[hr1,hr2]
  dsimp only
  have y6:=(y4.trans x5).trans x6
  have hbuf6:=hbuf.ext ((x4.trans x5).trans x6)
  refine k2w ?_
  refine fkI (fun _=>?_) (fun hh=>absurd hh (by decide))
  rw[k4r (by omega)]
  have en:((e:Nat):Int).toNat -((i+3:Nat):Int).toNat=s.size+2:=by omega
  rw[en]
  refine⟨⟨⟨by omega,by omega⟩,by omega,by omega⟩,(k7N y6 hbuf6 h1 (i+3) (s.size+2) _ (by omega) (by simp)).mono ?_⟩
  rintro _ H7 ⟨rfl,x7,hbuf7⟩
  refine⟨((s.size+2:Nat):Int),rfl,(kby hbuf7).mono ?_⟩
  rintro _ _ ⟨rfl,rfl⟩
  have hll:(E.text.data.toList.drop (i+3)).take (s.size+2)=(k2a s).data.toList:=by
   have hlen:(k2a s).data.toList.length=s.size+2:=by rw[Array.length_toList];exact hrz
   rw[sR.drop,toList_append,List.take_append_of_le_length (by omega),List.take_of_length_le (by omega)]
  have hstr:(⟨([]++(E.text.data.toList.drop (i+3)).take (s.size+2)).toArray⟩:BA)=k2a s:=by
   rw[List.nil_append,hll]
  rw[hstr]
  have hrb:bt (k2a s) (0:Nat)=10:=by unfold k2a;rw[ByteArray.append_assoc];exact k2r 10 [] _
  refine⟨_,rfl,(kfD (k2a s) _ (by omega) (ki2 _ hrb (by omega)) hplain).mono ?_⟩
  rintro _ H8 ⟨rfl,x8⟩
  rw[hval]
  refine⟨s,rfl,(k4k _ _ _ _ _).mono ?_⟩
  rintro _ H9 ⟨rfl,x9⟩
  have we:IntKind.i64.wrap ((e:Int)+3)=((e+3:Nat):Int):=by rw[i64w (by omega)];omega
  refine⟨(19,(i:Int),((e+3:Nat):Int),s),by rw[←we],?_⟩
  dsimp only
  have y9:=(x7.trans x8).trans x9
  have hb9:=y9.get _ _ hb1 (by simp)
  refine swI hb9 (by simp) rfl rfl fun H10 e10 hb10 x10 s10=>?_
  have hb10':H10[H.size]?=some (.cells #[.int .i64 19,.int .i64 i,.int .i64 ((e+3:Nat):Int),.string s] tq85):=hb10
  rw[lcO hb10' rfl]
  have eq2:e+3=i+(k1C s).size:=by omega
  rw[←eq2]
  refine rkI ⟨rfl,?_⟩
  rw[e10]
  exact(x1.trans y9).setNew (Nat.le_refl _) _
 |step _ c n hne hPT hc hcp'=>
  have hn4:1≤n∧n≤4:=by rcases hPT with⟨h,_⟩|⟨h,_⟩|⟨h,_⟩|⟨h,_⟩<;>omega
  have hr:k0y E.text q=(c,(n:Int)):=kdV hPT (by omega)
  have hq2:q<e:=by omega
  have hbc:c<128→bt E.text (q:Nat)=c:=by
   intro hlt
   rcases hPT with⟨_,h,_⟩|⟨_,h⟩|⟨_,h⟩|⟨_,h⟩
   ·exact h.symm
   ·omega
   ·omega
   ·omega
  rw[hr]
  dsimp only
  refine⟨fun _ H'=>Ext [] H4 H',?_,?_⟩
  ·refine fkI (fun h34=>?_) (fun _=>Ext.refl _ _)
   have h34':c=34:=by simpa using h34
   refine(k2A (h1.ext y4) (q+1)).mono ?_
   rintro _ H5 ⟨rfl,x5⟩
   refine⟨k0y E.text (q+1),rfl,(k2A (h1.ext (y4.trans x5)) (q+2)).mono ?_⟩
   rintro _ H6 ⟨rfl,x6⟩
   refine⟨k0y E.text (q+2),rfl,?_⟩
   refine k2w ?_
   refine fkI (fun hh=>?_) (fun _=>x5.trans x6)
   exfalso
   simp only[Bool.and_eq_true,beq_iff_eq] at hh
   have g1:=k4p (by decide) hh.1
   have g2:=k4p (by decide) hh.2
   exact no3 q hiq hq2 (by rw[hbc (by omega)];exact h34') g1.2 g2.2
  rintro⟨_⟩ H5 x5
  refine⟨(false,()),fkI (fun h1=>fkI (fun h2=>fkI (fun h3=>?_) (fun _=>⟨rfl,rfl⟩)) (fun _=>⟨rfl,rfl⟩)) (fun _=>⟨rfl,rfl⟩),fkI (fun hh=>absurd hh (by decide)) (fun _=>?_)⟩
  ·exfalso;simp at h1 h2 h3;omega
  refine⟨fun y H'=>y.1=(q:Int)∧y.2.2.1=((i+3:Nat):Int)∧Ext [] H5 H',?_,?_⟩
  ·refine fkI (fun h92=>?_) (fun _=>⟨rfl,rfl,Ext.refl _ _⟩)
   have h92':c=92:=by simpa using h92
   have y5:=y4.trans x5
   refine(k2A (h1.ext y5) (q+1)).mono ?_
   rintro _ H6 ⟨rfl,x6⟩
   refine⟨k0y E.text (q+1),rfl,(k2A (h1.ext (y5.trans x6)) (q+2)).mono ?_⟩
   rintro _ H7 ⟨rfl,x7⟩
   refine⟨k0y E.text (q+2),rfl,(k2A (h1.ext ((y5.trans x6).trans x7)) (q+3)).mono ?_⟩
   rintro _ H8 ⟨rfl,x8⟩
   refine⟨k0y E.text (q+3),rfl,?_⟩
   refine⟨(false,()),fkI (fun h1=>fkI (fun h2=>⟨?_,rfl⟩) (fun _=>⟨rfl,rfl⟩)) (fun _=>⟨rfl,rfl⟩),fkI (fun hh=>absurd hh (by decide)) (fun _=>⟨rfl,rfl,(x6.trans x7).trans x8⟩)⟩
   have g1:=k4p (c:=34) (by decide) (by simpa using h1)
   have g2:=k4p (c:=34) (by decide) (by simpa using h2)
   have hlast:q+1<e:=by
    rcases Nat.lt_or_ge (q+1) e with h9|h9
    ·exact h9
    ·exfalso
     have:q=i+3+1+s.size:=by omega
     have h10:=hbc (by omega)
     rw[this,bl] at h10;omega
   have: ¬(k0y E.text (q+3)).1=34:=by
    intro hh
    exact no3 (q+1) (by omega) hlast g1.2 g2.2 (k4p (by decide) hh).2
   have:((k0y E.text (q+3)).1==34)=false:=by simpa using this
   rw[this]
  rintro⟨_,rp2,_,_⟩ H6 ⟨rfl,rfl,x6⟩
  dsimp only
  rw[k38 (k:=q) (by omega) n (by omega)]
  exact⟨⟨q+n,rfl,rfl,Nat.zero_le _,by omega,by omega,hcp',hbuf.ext ((x4.trans x5).trans x6),(y4.trans x5).trans x6⟩,by omega⟩
theorem kdM {E:Src} {H:Heap} (h:SrcAt E H) (at_ i:Nat) (hw:WsRun E.text at_ i) (hi:i<E.text.size) (hb:bt E.text i=34) {k en:Int} {v:BA}
 (hS: ¬((k0y E.text (i+1)).1=34∧(k0y E.text (i+2)).1=34)→ ∀H1,Ext [] H H1→Fn PP fq231 #[.pointer (some ⟨E.src,0,none⟩),.int .i64 i] H1 fun r H'=>r= .tuple #[.agg #[.int .i64 k,.int .i64 i,.int .i64 en,.string v],nI]∧Ext [] H1 H')
 (hQ:(k0y E.text (i+1)).1=34∧(k0y E.text (i+2)).1=34→ ∀H1,Ext [] H H1→Fn PP fq230 #[.pointer (some ⟨E.src,0,none⟩),.int .i64 i] H1 fun r H'=>r= .tuple #[.agg #[.int .i64 k,.int .i64 i,.int .i64 en,.string v],nI]∧Ext [] H1 H'):
 Fn PP fq197 #[.pointer (some ⟨E.src,0,none⟩),.int .i64 at_] H fun r H'=>r= .tuple #[.agg #[.int .i64 k,.int .i64 i,.int .i64 en,.string v],nI]∧Ext [] H H':=by
 have hsm:=h.small
 refine readToken.enter _ _ H _ ?_
 unfold readToken.W
 refine nbI fun H1 e1 hb1 x1 s1=>?_
 have h1:=h.ext x1
 obtain⟨nm,fr,hsrc⟩:=h1.src
 refine⟨(E.body,0,E.text.size,E.cap),lcO hsrc rfl,?_⟩
 dsimp only
 refine(k51 h1 at_ i hw).mono ?_
 rintro _ _ ⟨rfl,rfl⟩
 refine⟨((i:Int),(i:Int)),rfl,?_⟩
 dsimp only
 refine fkI (fun hge=>by exfalso;simp at hge;omega) (fun _=>?_)
 have hfin: ∀H',Ext [H.size] H1 H'→Ext [] H H':=fun H' x=>⟨by have:=x1.size;have:=x.size;omega,fun q o hq _=>x.get _ _ (x1.get _ _ hq (by simp)) (by have:=k0l hq;simp;omega)⟩
 refine(k3e h1 i (by omega) (by omega)).mono ?_
 rintro _ _ ⟨rfl,rfl⟩
 refine⟨(bt E.text i,1),rfl,?_⟩
 dsimp only
 rw[hb]
 rw[k0h (k:=i) (by omega),k2S (k:=i) 2]
 refine⟨(false,()),fkI (fun hh=>absurd hh (by decide)) (fun _=>⟨rfl,rfl⟩),fkI (fun hh=>absurd hh (by decide)) (fun _=>?_)⟩
 refine⟨fun _ _=>False,?_,fun _ _ hh=>hh.elim⟩
 repeat refine fkI (fun hh=>absurd hh (by decide)) (fun _=>?_)
 refine fkI (fun _=>?_) (fun hh=>absurd hh (by decide))
 refine nbI fun H2 e2 hb2 x2 s2=>?_
 have h2:=h1.ext x2
 refine(k2A h2 (i+1)).mono ?_
 rintro _ H3 ⟨rfl,x3⟩
 refine⟨k0y E.text (i+1),rfl,(k2A (h2.ext x3) (i+2)).mono ?_⟩
 rintro _ H4 ⟨rfl,x4⟩
 refine⟨k0y E.text (i+2),rfl,?_⟩
 refine k2w ?_
 have y4:=(x2.trans x3).trans x4
 have hb14:=y4.get _ _ hb1 (by simp)
 have hb24:=(x3.trans x4).get _ _ hb2 (by simp)
 refine⟨fun y H'=>y.1=nI∧Ext [H1.size] H4 H'∧H'[H1.size]?=some (.cells #[.int .i64 k,.int .i64 i,.int .i64 en,.string v] tq85),?_,?_⟩
 ·refine fkI (fun hh=>?_) (fun hh=>?_)
  ·have hh':(k0y E.text (i+1)).1=34∧(k0y E.text (i+2)).1=34:=by simpa using hh
   refine(hQ hh' H4 (x1.trans y4)).mono ?_
   rintro _ H5 ⟨rfl,x5⟩
   refine⟨(k,(i:Int),en,v),rfl,?_⟩
   dsimp only
   refine swI (x5.get _ _ hb24 (by simp)) (by simp) rfl rfl fun H6 e6 hb6 x6 s6=>?_
   exact⟨rfl,x5.of_nil.trans x6,hb6⟩
  ·have hh': ¬((k0y E.text (i+1)).1=34∧(k0y E.text (i+2)).1=34):=by
    intro h9
    simp[h9.1,h9.2] at hh
   refine(hS hh' H4 (x1.trans y4)).mono ?_
   rintro _ H5 ⟨rfl,x5⟩
   refine⟨(k,(i:Int),en,v),rfl,?_⟩
   dsimp only
   refine swI (x5.get _ _ hb24 (by simp)) (by simp) rfl rfl fun H6 e6 hb6 x6 s6=>?_
   exact⟨rfl,x5.of_nil.trans x6,hb6⟩
 rintro⟨_,_⟩ H5 ⟨rfl,x5,hb5⟩
 dsimp only
 refine⟨(k,(i:Int),en,v),lcO hb5 rfl,?_⟩
 dsimp only
 have hb15:=x5.get _ _ hb14 (by simp;omega)
 refine swI hb15 (by simp) rfl rfl fun H6 e6 hb6 x6 s6=>?_
 have hb6':H6[H.size]?=some (.cells #[.int .i64 k,.int .i64 i,.int .i64 en,.string v] tq85):=hb6
 rw[lcO hb6' rfl]
 refine rkI ⟨rfl,?_⟩
 have z1:=x1.size;have z2:=y4.size;have z5:=x5.size;have z6:=x6.size
 refine⟨by omega,fun q o hq _=>?_⟩
 have hlt:=k0l hq
 exact x6.get _ _ (x5.get _ _ (y4.get _ _ (x1.get _ _ hq (by simp)) (by simp)) (by simp;omega)) (by simp;omega)
theorem klb {s:BA} (ht:k42 s) (hss:s.size≤1000000):TokS (k1v s) (18,s):=by
 have h0:bt (k1v s) (0:Nat)=34:=by unfold k1v;exact k2r 34 [] _
 have hg:0<(k17 s 0).size:=by
  unfold k17
  split
  ·split
   ·decide
   ·rename_i h1 h2
    rw[ByteArray.size_append]
    have hpt:=k50 (s:=s) (k:=0) (c:=(k0A s 0).1) (n:=(k0A s 0).2) rfl h2 h1
    have:0<(k1d s 0 (k0A s 0).1 (k0A s 0).2).size:=by
     unfold k1d
     split
     ·rw[ByteArray.size_append];have:(bs [92]).size=1:=rfl;omega
     ·split
      ·unfold escM
       simp only[ByteArray.size_append]
       have:(bs [92,117]).size=2:=rfl
       omega
      ·rw[ByteArray.size_extract];omega
    omega
  ·decide
 have hz:(k1v s).size=1+(k17 s 0).size:=by unfold k1v;rw[ByteArray.size_append];rfl
 refine⟨by omega,by rw[h0];decide,by rw[h0];rfl,by rw[h0];decide,fun h=>absurd h (by simp),fun E at_ i rest hw hsf _ hq H h=>?_⟩
 have hzz:=hsf.size
 rw[ByteArray.size_append] at hzz
 have hb:bt E.text i=34:=by rw[hsf.bt0,k1r _ _ _ (by omega)];exact h0
 refine kdM h at_ i hw (by omega) hb (fun _ H1 x1=>kjs (h.ext x1) i s rest hsf ht hss) (fun hh=>?_)
 exfalso
 -- two quotes behind the first one: the text is empty, and what follows begins with no quote
 have g1:=k4p (by decide) hh.1
 have g2:=k4p (by decide) hh.2
 have hsf2:Sfx E.text (i+1) (k17 s 0++rest):=by
  have e:k1v s++rest=bs [34]++(k17 s 0++rest):=by unfold k1v;rw[ByteArray.append_assoc]
  rw[e] at hsf;exact hsf.next
 have hb1:=hsf2.bt0
 rw[g1.2,k1r _ _ _ hg] at hb1
 have hs0:s.size=0:=by
  rcases Nat.eq_zero_or_pos s.size with h9|h9
  ·exact h9
  ·exfalso
   obtain⟨c,n,hp,hn,_,_⟩:=Pts.here ht h9
   obtain⟨hPt,_⟩:=k50 hp hn h9
   have e9:k17 s 0=k1d s 0 c n++k17 s (0+n):=by
    conv=>lhs;unfold k17
    rw[dif_pos h9,dif_neg (by rw[hp];exact hn),hp]
   rw[e9] at hb1
   unfold k1d at hb1
   split at hb1
   ·rw[ByteArray.append_assoc,k2r] at hb1
    exact absurd hb1 (by decide)
   ·rename_i hA
    split at hb1
    ·have e8:escM c=bs [92,117]++(digM (hx3 c)++(digM (hx2 c)++(digM (hx1 c)++digM (hx0 c)))):=by unfold escM;simp only[ByteArray.append_assoc]
     rw[e8,ByteArray.append_assoc,k2r] at hb1
     exact absurd hb1 (by decide)
    ·have hn1:0<n:=by omega
     have hz2:0<(s.extract 0 (0+n)).size:=by rw[ByteArray.size_extract];omega
     rw[k1r _ _ _ hz2] at hb1
     obtain⟨x,hx,hxb⟩:=k30 h9
     have h8:(s.extract 0 (0+n)).data.toList[0]?=some x:=by
      rw[k2K,List.getElem?_take,if_pos (by omega),List.getElem?_drop];exact hx
     rw[k4F h8,←hxb] at hb1
     simp only[Bool.or_eq_true,beq_iff_eq,not_or] at hA
     rcases hPt with⟨_,h7,_⟩|⟨_,h7⟩|⟨_,h7⟩|⟨_,h7⟩<;>omega
 have e7:k17 s 0=bs [34]:=by unfold k17;rw[dif_neg (by omega)]
 rw[e7] at hsf2
 have hn:=hsf2.next
 have e1:(bs [34]).size=1:=rfl
 rw[e1] at hn
 rcases hq h0 with h6|h6
 ·have:=hn.size;omega
 ·have:=hn.bt0
  rw[g2.2] at this
  omega
theorem kl8 {s:BA} (hB:k3x s) (hss:s.size≤90000):TokS (k1C s) (19,s):=by
 have h0:bt (k1C s) (0:Nat)=34:=by unfold k1C;exact k2r 34 _ _
 have hz:4≤(k1C s).size:=by unfold k1C;rw[ByteArray.size_append];have:(bs [34,34,34,10]).size=4:=rfl;omega
 refine⟨by omega,by rw[h0];decide,by rw[h0];rfl,by rw[h0];decide,fun h=>absurd h (by simp),fun E at_ i rest hw hsf _ _ H h=>?_⟩
 have hzz:=hsf.size
 rw[ByteArray.size_append] at hzz
 have hb: ∀j,j<3→bt E.text ((i+j:Nat):Int)=34:=by
  intro j hj
  rw[hsf.bt j,k1r _ _ _ (by omega)]
  unfold k1C
  rw[k1r _ _ _ (by have:(bs [34,34,34,10]).size=4:=rfl;omega)]
  match j,hj with
  |0,_=>rfl
  |1,_=>rfl
  |2,_=>rfl
 have b1:=hb 1 (by omega)
 have b2:=hb 2 (by omega)
 refine kdM h at_ i hw (by omega) (hb 0 (by omega)) (fun hh=>?_) (fun _ H1 x1=>kjn (h.ext x1) i s rest hsf hB hss)
 exfalso
 refine hh ⟨?_,?_⟩
 ·rw[k2P (by omega) (by rw[b1];decide)];exact b1
 ·rw[k2P (by omega) (by rw[b2];decide)];exact b2
abbrev KK:=List (Nd×List KV)
def optK (b:Option KV):List KV:=b.toList
def selK (kinds:List Int) (kk:KK):KK:=kk.filter fun x=>decide (x.1.kind∈kinds)
def sepK (s:Option KV):KK→List KV
 |[]=> []
 |[x]=>x.2
 |x::y::r=>x.2++(optK s++sepK s (y::r))
def k0g (b e s:Option KV) (kinds:List Int) (kk:KK):List KV:=match selK kinds kk with
 |[]=> []
 |x::r=>optK b++sepK s (x::r)++optK e
def k12 (b:Option KV) (is_:Nd→Bool) (kk:KK):List KV:=match kk.find? fun x=>is_ x.1 with
 |none=> []
 |some x=>optK b++x.2
def allK (kk:KK):List KV:=kk.flatMap fun x=>x.2
abbrev nmK (s:BA):KV:=(15,s)
def k0o (kk:KK):List KV:=k0g none none none [10] kk
def k21 (kk:KK):List KV:=k0g none none none [5] kk
abbrev kPL:KV:=(4,eB)
abbrev kPR:KV:=(5,eB)
abbrev k2x:KV:=(6,eB)
abbrev kCol:KV:=(7,eB)
abbrev kEq:KV:=(8,eB)
abbrev kAt:KV:=(9,eB)
abbrev kSL:KV:=(10,eB)
abbrev kSR:KV:=(11,eB)
abbrev kBL:KV:=(12,eB)
abbrev k0M:KV:=(13,eB)
abbrev kBR:KV:=(14,eB)
abbrev kAmp:KV:=(20,eB)
abbrev k69:KV:=(2,eB)
abbrev kDol:KV:=(3,eB)
def defK (n:Nd) (kk:KK):List KV:=k0g none none none [23] kk++
 (if n.kind=24 then[nmK k2F]++(k0o kk++(k0g (some kBL) (some kBR) none [25] kk++[]))
 else if n.kind=25 then[nmK n.text,kCol,nmK n.name]++[]
 else if n.kind=26 then[nmK k1f,nmK n.name]++(k0o kk++[])
 else if n.kind=27 then[nmK k2k,nmK n.name]++(k0g (some (nmK k1H)) none (some kAmp) [28] kk++(k0o kk++(k0g (some kBL) (some kBR) none [29] kk++[])))
 else if n.kind=31 then[nmK k2j,nmK n.name]++(k0o kk++(k0g (some kBL) (some kBR) none [29] kk++[]))
 else if n.kind=29 then[nmK n.name]++(k0g (some kPL) (some kPR) none [30] kk++(k12 (some kCol) k0q kk++(k0o kk++[])))
 else if n.kind=30 then[nmK n.name]++(k12 (some kCol) k0q kk++(k12 (some kEq) k0n kk++(k0o kk++[])))
 else if n.kind=32 then[nmK k2l,nmK n.name]++(k0o kk++(k0g (some kEq) none (some k0M) [33] kk++[]))
 else if n.kind=34 then[nmK k2h,nmK n.name]++(k0o kk++(k0g (some kBL) (some kBR) none [35] kk++[]))
 else if n.kind=35 then[nmK n.name]++(k0o kk++[])
 else if n.kind=36 then[nmK k2i,nmK n.name]++(k0o kk++(k0g (some kBL) (some kBR) none [30] kk++[]))
 else if n.kind=37 then[nmK k3g,kAt,nmK n.name]++(k0g (some kPL) (some kPR) none [30] kk++(k0g (some (nmK onB)) none (some k0M) [38] kk++[]))
 else if n.kind=39 then[nmK k2E]++(allK kk++[])
 else[])
def strK (n:Nd):KV:=if n.flag=1 then(19,n.text) else(18,n.text)
def numK (n:Nd):KV:=(n.kind+4,n.text)
def k0E (n:Nd) (kk:KK):List KV:=
 if n.kind=11 then[kDol,nmK n.name]++[]
 else if n.kind=12∨n.kind=13 then[numK n]++[]
 else if n.kind=14∨n.kind=23 then[strK n]++[]
 else if n.kind=15 then[nmK (if n.flag=0 then k2I else k37)]++[]
 else if n.kind=17 then[kSL]++(allK kk++([kSR]++[]))
 else if n.kind=18 then[kBL]++(allK kk++([kBR]++[]))
 else if n.kind=21 then[kSL]++(allK kk++([kSR]++[]))
 else if n.kind=22 then allK kk++([k69]++[])
 else if n.kind=16∨n.kind=20∨n.kind=28∨n.kind=33∨n.kind=38 then[nmK n.name]++[]
 else defK n kk
def k0r (n:Nd) (kk:KK):List KV:=
 if n.kind=1 then allK kk++[]
 else if n.kind=2 then(if n.flag=0 then[nmK n.text]++(if n.name=eB then[] else[nmK n.name]) else[])++(k0g (some kPL) (some kPR) none [4] kk++(k0o kk++(k21 kk++[])))
 else if n.kind=3 then[nmK k3h,nmK n.name,nmK onB,nmK n.text]++(k0o kk++(k21 kk++[]))
 else if n.kind=4 then[kDol,nmK n.name,kCol]++(k12 none k0q kk++(k12 (some kEq) k0n kk++[]))
 else if n.kind=5 then k0g (some kBL) (some kBR) none [6,7,8] kk++[]
 else if n.kind=6 then(if n.alias=eB then[] else[nmK n.alias,kCol])++([nmK n.name]++(k0g (some kPL) (some kPR) none [9] kk++(k0o kk++(k21 kk++[]))))
 else if n.kind=7 then[k2x,nmK n.name]++(k0o kk++[])
 else if n.kind=8 then[k2x]++((if n.text=eB then[] else[nmK onB,nmK n.text])++(k0o kk++(k21 kk++[])))
 else if n.kind=9∨n.kind=19 then[nmK n.name,kCol]++(k12 none k0n kk++[])
 else if n.kind=10 then[kAt,nmK n.name]++(k0g (some kPL) (some kPR) none [9] kk++[])
 else k0E n kk
mutual
def kvs:Tr→List KV
 | .node n ks=>k0r n (kvL ks)
def kvL:List Tr→KK
 |[]=> []
 |t::r=>(t.n,kvs t)::kvL r
end
theorem k0z (t:Tr):kvs t=k0r t.n (kvL t.ks):=by cases t;rfl
def TokR (s:BA) (k:KV):Prop:=TokS s k∧s.size≤30000
abbrev TR:=All2 TokR
def KTR (kt:KT) (kk:KK):Prop:=All2 (fun x y=>x.1=y.1∧TR x.2 y.2) kt kk
theorem All2.app {α β:Type} {R:α→β→Prop} {l l':List α} {m m':List β} (h:All2 R l m) (k:All2 R l' m'):All2 R (l++l') (m++m'):=by
 induction h with
 |nil=>exact k
 |cons h _ ih=>exact .cons h ih
inductive OptR:BA→Option KV→Prop
 |none:OptR eB none
 |some {s:BA} {k:KV}:s≠eB→TokR s k→OptR s (some k)
theorem OptR.tr {b:BA} {o:Option KV} (h:OptR b o):TR (optB b) (optK o):=by
 cases h with
 |none=>unfold optB;rw[if_pos rfl];exact .nil
 |some h1 h2=>unfold optB;rw[if_neg h1];exact .cons h2 .nil
theorem KTR.sel {kt:KT} {kk:KK} (h:KTR kt kk) (K:List Int):KTR (selM K kt) (selK K kk):=by
 induction h with
 |nil=>exact .nil
 |cons h _ ih=>
  rename_i a b l m _
  unfold selM selK at*
  rw[List.filter_cons,List.filter_cons,h.1]
  split
  ·exact .cons h ih
  ·exact ih
theorem KTR.sep {kt:KT} {kk:KK} (h:KTR kt kk) {s:BA} {o:Option KV} (ho:OptR s o):TR (sepM s kt) (sepK o kk):=by
 induction h with
 |nil=>exact .nil
 |cons h hr ih=>
  cases hr with
  |nil=>exact h.2
  |cons h2 hr2=>exact h.2.app (ho.tr.app ih)
theorem KTR.kids {kt:KT} {kk:KK} (h:KTR kt kk) (K:List Int) {b e s:BA} {ob oe os:Option KV} (hb:OptR b ob) (he:OptR e oe) (hs:OptR s os):TR (k0F b e s K kt) (k0g ob oe os K kk):=by
 have h1:=h.sel K
 unfold k0F k0g
 generalize selM K kt=x at h1
 generalize selK K kk=y at h1
 cases h1 with
 |nil=>exact .nil
 |cons h2 h3=>
  have:=(KTR.sep (.cons h2 h3) hs)
  exact(hb.tr.app this).app he.tr
theorem KTR.first {kt:KT} {kk:KK} (h:KTR kt kk) (p:Nd→Bool) {b:BA} {ob:Option KV} (hb:OptR b ob):TR (k1o b p kt) (k12 ob p kk):=by
 unfold k1o k12
 induction h with
 |nil=>exact .nil
 |cons h _ ih=>
  rename_i a b l m _
  simp only[List.find?_cons]
  rw[←h.1]
  cases p a.1 with
  |true=>exact hb.tr.app h.2
  |false=>exact ih
theorem KTR.all {kt:KT} {kk:KK} (h:KTR kt kk):TR (allM kt) (allK kk):=by
 unfold allM allK
 induction h with
 |nil=>exact .nil
 |cons h _ ih=>rw[List.flatMap_cons,List.flatMap_cons];exact h.2.app ih
theorem sgR {c:UInt8} {k:Int} (hk:(c,k)∈k4q):TokR (bs [c]) (k,eB):=⟨kaR hk,by rw[k3k];simp⟩
theorem nmR {s:BA} (h:k19 s) (hz:s.size≤4000):TokR s (nmK s):=⟨k5a h,by omega⟩
theorem wdR (l:List UInt8) (h0:l≠ []) (h: ∀j,j<l.length→k2M (bs l) j=true) (hz:l.length≤100):TokR (bs l) (nmK (bs l)):=⟨k5a (k83 l h0 h),by rw[k3k];omega⟩
theorem opS {c:UInt8} {k:Int} (hk:(c,k)∈k4q):OptR (bs [c]) (some (k,eB)):= .some (fun h=>by have:=congrArg ByteArray.size h;rw[k3k,k3k] at this;simp at this) (sgR hk)
theorem opWd (l:List UInt8) (h0:l≠ []) (h: ∀j,j<l.length→k2M (bs l) j=true) (hz:l.length≤100):OptR (bs l) (some (nmK (bs l))):=
 .some (fun he=>by have:=congrArg ByteArray.size he;rw[k3k,k3k] at this;exact h0 (List.eq_nil_of_length_eq_zero this)) (wdR l h0 h hz)
theorem k24 {kt:KT} {kk:KK} (h:KTR kt kk):TR (k1n kt) (k0o kk):=h.kids _ .none .none .none
theorem k8u {kt:KT} {kk:KK} (h:KTR kt kk):TR (k3f kt) (k21 kk):=h.kids _ .none .none .none
theorem kbS:TokR k55 k2x:=⟨kl9,by decide⟩
theorem kjl (s:BA): ∀(n k:Nat),s.size -k=n→k≤s.size→(k17 s k).size≤6*n+1:=by
 intro n
 induction n using Nat.strongRecOn with
 |_ n ih=>
  intro k hn hk
  have e1:(bs [34]).size=1:=rfl
  unfold k17
  split
  ·rename_i h1
   split
   ·rw[e1];omega
   ·rename_i h2
    have hpt:=k50 (s:=s) (k:=k) (c:=(k0A s k).1) (n:=(k0A s k).2) rfl h2 h1
    have hc0:=kao s k
    have:=ih (s.size -(k+(k0A s k).2)) (by omega) (k+(k0A s k).2) rfl hpt.2
    rw[ByteArray.size_append]
    have hq:(k1d s k (k0A s k).1 (k0A s k).2).size≤6*(k0A s k).2:=by
     unfold k1d
     split
     ·rw[ByteArray.size_append,ByteArray.size_extract];have:(bs [92]).size=1:=rfl;omega
     ·split
      ·rename_i he
       have:=kbU _ (kca _ hc0 he);omega
      ·rw[ByteArray.size_extract];omega
    omega
  ·rw[e1];omega
theorem kjm (s:BA):(k1v s).size≤6*s.size+2:=by
 have:=kjl s s.size 0 rfl (Nat.zero_le _)
 unfold k1v
 rw[ByteArray.size_append]
 have:(bs [34]).size=1:=rfl
 omega
theorem kfE {s:BA} (h:k3x s):(k1C s).size=s.size+8:=by
 have hgo:=kbs s.size 0 rfl (fun j _=>kbt 0 h.1 j (Nat.zero_le _)) (Nat.zero_le _)
 unfold k1C
 rw[hgo,ByteArray.size_append,ByteArray.size_append,ByteArray.size_extract]
 have:(bs [34,34,34,10]).size=4:=rfl
 have:(bs [10,34,34,34]).size=4:=rfl
 omega
theorem strR {n:Nd} (h:n.flag=0∧k42 n.text∨n.flag=1∧k3x n.text) (hz:n.text.size≤4000):TokR (if n.flag=1 then k1C n.text else k1v n.text) (strK n):=by
 unfold strK
 rcases h with⟨h1,h2⟩|⟨h1,h2⟩
 ·rw[if_neg (by omega),if_neg (by omega)]
  exact⟨klb h2 (by omega),by have:=kjm n.text;omega⟩
 ·rw[if_pos h1,if_pos h1]
  exact⟨kl8 h2 (by omega),by have:=kfE h2;omega⟩
theorem kfH {n:Nd} (h:BodyP n) (hk:n.kind=3∨n.kind=4∨n.kind=6∨n.kind=7∨9≤n.kind∧n.kind≤11∨n.kind=16∨n.kind=19∨n.kind=20∨25≤n.kind∧n.kind≤38):k19 n.name:=by
 cases h<;>first|assumption|(exfalso;omega)
theorem kfM {n:Nd} (h:BodyP n) (hk:n.kind=3):k19 n.text:=by
 cases h<;>first|assumption|(exfalso;omega)
theorem k7L {n:Nd} (h:BodyP n) (hk:n.kind=2∨n.kind=25):k2p n.text:=by
 cases h<;>first|assumption|(exfalso;omega)
theorem kfK {n:Nd} (h:BodyP n) (hk:n.kind=2):n.name=eB∨k19 n.name:=by
 cases h<;>first|assumption|(exfalso;omega)
theorem kfJ {n:Nd} (h:BodyP n) (hk:n.kind=8):n.text=eB∨k19 n.text:=by
 cases h<;>first|assumption|(exfalso;omega)
theorem kfI {n:Nd} (h:BodyP n) (hk:n.kind=12∨n.kind=13):Num n.text 0 (n.kind+4) n.text.size:=by
 cases h<;>first|assumption|(exfalso;omega)
theorem kfL {n:Nd} (h:BodyP n) (hk:n.kind=14∨n.kind=23):n.flag=0∧k42 n.text∨n.flag=1∧k3x n.text:=by
 cases h<;>first|assumption|(exfalso;omega)
theorem kfF {n:Nd} (hf:k2H n) (hz:n.name.size≤4000∧n.alias.size≤4000∧n.text.size≤4000) {kt:KT} {kk:KK} (h:KTR kt kk):TR (k1E n kt) (k0r n kk):=by
 obtain⟨ha,hb⟩:=hf
 have nm:=fun hk=>nmR (kfH hb hk) hz.1
 have op:=fun hk=>nmR (kd6 (k7L hb hk)) hz.2.2
 have pl:OptR k2d (some kPL):=opS (by decide)
 have pr:OptR k2e (some kPR):=opS (by decide)
 have bl:OptR k1Z (some kBL):=opS (by decide)
 have br:OptR k20 (some kBR):=opS (by decide)
 have col:TokR sCol kCol:=sgR (by decide)
 unfold k1E k0r
 by_cases hk:n.kind=1
 ·rw[if_pos hk,if_pos hk]
  exact h.all.app .nil
 rw[if_neg hk,if_neg hk]
 by_cases hk:n.kind=2
 ·rw[if_pos hk,if_pos hk]
  refine All2.app ?_ ((h.kids _ pl pr .none).app ((k24 h).app ((k8u h).app .nil)))
  split
  ·refine .cons (op (by omega)) ?_
   unfold optB
   split
   ·exact .nil
   ·rename_i hn
    rcases kfK hb (by omega) with h1|h1
    ·exact absurd h1 hn
    ·exact .cons (nmR h1 hz.1) .nil
  ·exact .nil
 rw[if_neg hk,if_neg hk]
 by_cases hk:n.kind=3
 ·rw[if_pos hk,if_pos hk]
  exact .cons (wdR _ (by simp) (by decide) (by decide)) (.cons (nm (by omega)) (.cons (wdR _ (by simp) (by decide) (by decide)) (.cons (nmR (kfM hb (by omega)) hz.2.2) ((k24 h).app ((k8u h).app .nil)))))
 rw[if_neg hk,if_neg hk]
 by_cases hk:n.kind=4
 ·rw[if_pos hk,if_pos hk]
  exact .cons (sgR (by decide)) (.cons (nm (by omega)) (.cons col ((h.first _ .none).app ((h.first _ (opS (by decide))).app .nil))))
 rw[if_neg hk,if_neg hk]
 by_cases hk:n.kind=5
 ·rw[if_pos hk,if_pos hk]
  exact(h.kids _ bl br .none).app .nil
 rw[if_neg hk,if_neg hk]
 by_cases hk:n.kind=6
 ·rw[if_pos hk,if_pos hk]
  refine All2.app ?_ (.cons (nm (by omega)) ((h.kids _ pl pr .none).app ((k24 h).app ((k8u h).app .nil))))
  split
  ·exact .nil
  ·rename_i hn
   rcases ha with h1|h1
   ·exact absurd h1 hn
   ·exact .cons (nmR h1.2 hz.2.1) (.cons col .nil)
 rw[if_neg hk,if_neg hk]
 by_cases hk:n.kind=7
 ·rw[if_pos hk,if_pos hk]
  exact .cons kbS (.cons (nm (by omega)) ((k24 h).app .nil))
 rw[if_neg hk,if_neg hk]
 by_cases hk:n.kind=8
 ·rw[if_pos hk,if_pos hk]
  show TR (k55::((if n.text=eB then[] else[onB,n.text])++(k1n kt++(k3f kt++[])))) (k2x::((if n.text=eB then[] else[nmK onB,nmK n.text])++(k0o kk++(k21 kk++[]))))
  refine .cons kbS (All2.app ?_ ((k24 h).app ((k8u h).app .nil)))
  split
  ·exact .nil
  ·rename_i hn
   rcases kfJ hb (by omega) with h1|h1
   ·exact absurd h1 hn
   ·exact .cons (wdR _ (by simp) (by decide) (by decide)) (.cons (nmR h1 hz.2.2) .nil)
 rw[if_neg hk,if_neg hk]
 by_cases hk:n.kind=9∨n.kind=19
 ·rw[if_pos hk,if_pos hk]
  exact .cons (nm (by omega)) (.cons col ((h.first _ .none).app .nil))
 rw[if_neg hk,if_neg hk]
 by_cases hk:n.kind=10
 ·rw[if_pos hk,if_pos hk]
  exact .cons (sgR (by decide)) (.cons (nm (by omega)) ((h.kids _ pl pr .none).app .nil))
 rw[if_neg hk,if_neg hk]
 unfold k6F k0E
 by_cases hk:n.kind=11
 ·rw[if_pos hk,if_pos hk]
  exact .cons (sgR (by decide)) (.cons (nm (by omega)) .nil)
 rw[if_neg hk,if_neg hk]
 by_cases hk:n.kind=12∨n.kind=13
 ·rw[if_pos hk,if_pos hk]
  refine .cons ⟨?_,by omega⟩ .nil
  exact kla (kfI hb (by assumption))
 rw[if_neg hk,if_neg hk]
 by_cases hk:n.kind=14∨n.kind=23
 ·rw[if_pos hk,if_pos hk]
  exact .cons (strR (kfL hb (by assumption)) hz.2.2) .nil
 rw[if_neg hk,if_neg hk]
 by_cases hk:n.kind=15
 ·rw[if_pos hk,if_pos hk]
  refine .cons ?_ .nil
  split
  ·exact wdR _ (by simp) (by decide) (by decide)
  ·exact wdR _ (by simp) (by decide) (by decide)
 rw[if_neg hk,if_neg hk]
 by_cases hk:n.kind=17
 ·rw[if_pos hk,if_pos hk]
  exact .cons (sgR (by decide)) (h.all.app (.cons (sgR (by decide)) .nil))
 rw[if_neg hk,if_neg hk]
 by_cases hk:n.kind=18
 ·rw[if_pos hk,if_pos hk]
  exact .cons (sgR (by decide)) (h.all.app (.cons (sgR (by decide)) .nil))
 rw[if_neg hk,if_neg hk]
 by_cases hk:n.kind=21
 ·rw[if_pos hk,if_pos hk]
  exact .cons (sgR (by decide)) (h.all.app (.cons (sgR (by decide)) .nil))
 rw[if_neg hk,if_neg hk]
 by_cases hk:n.kind=22
 ·rw[if_pos hk,if_pos hk]
  exact h.all.app (.cons (sgR (by decide)) .nil)
 rw[if_neg hk,if_neg hk]
 by_cases hk:n.kind=16∨n.kind=20∨n.kind=28∨n.kind=33∨n.kind=38
 ·rw[if_pos hk,if_pos hk]
  exact .cons (nm (by omega)) .nil
 rw[if_neg hk,if_neg hk]
 unfold defM defK
 refine(h.kids _ .none .none .none).app ?_
 by_cases hk:n.kind=24
 ·rw[if_pos hk,if_pos hk]
  exact .cons (wdR _ (by simp) (by decide) (by decide)) ((k24 h).app ((h.kids _ bl br .none).app .nil))
 rw[if_neg hk,if_neg hk]
 by_cases hk:n.kind=25
 ·rw[if_pos hk,if_pos hk]
  exact .cons (op (by omega)) (.cons col (.cons (nm (by omega)) .nil))
 rw[if_neg hk,if_neg hk]
 by_cases hk:n.kind=26
 ·rw[if_pos hk,if_pos hk]
  exact .cons (wdR _ (by simp) (by decide) (by decide)) (.cons (nm (by omega)) ((k24 h).app .nil))
 rw[if_neg hk,if_neg hk]
 by_cases hk:n.kind=27
 ·rw[if_pos hk,if_pos hk]
  exact .cons (wdR _ (by simp) (by decide) (by decide)) (.cons (nm (by omega)) ((h.kids _ (opWd _ (by simp) (by decide) (by decide)) .none (opS (by decide))).app ((k24 h).app ((h.kids _ bl br .none).app .nil))))
 rw[if_neg hk,if_neg hk]
 by_cases hk:n.kind=31
 ·rw[if_pos hk,if_pos hk]
  exact .cons (wdR _ (by simp) (by decide) (by decide)) (.cons (nm (by omega)) ((k24 h).app ((h.kids _ bl br .none).app .nil)))
 rw[if_neg hk,if_neg hk]
 by_cases hk:n.kind=29
 ·rw[if_pos hk,if_pos hk]
  exact .cons (nm (by omega)) ((h.kids _ pl pr .none).app ((h.first _ (opS (by decide))).app ((k24 h).app .nil)))
 rw[if_neg hk,if_neg hk]
 by_cases hk:n.kind=30
 ·rw[if_pos hk,if_pos hk]
  exact .cons (nm (by omega)) ((h.first _ (opS (by decide))).app ((h.first _ (opS (by decide))).app ((k24 h).app .nil)))
 rw[if_neg hk,if_neg hk]
 by_cases hk:n.kind=32
 ·rw[if_pos hk,if_pos hk]
  exact .cons (wdR _ (by simp) (by decide) (by decide)) (.cons (nm (by omega)) ((k24 h).app ((h.kids _ (opS (by decide)) .none (opS (by decide))).app .nil)))
 rw[if_neg hk,if_neg hk]
 by_cases hk:n.kind=34
 ·rw[if_pos hk,if_pos hk]
  exact .cons (wdR _ (by simp) (by decide) (by decide)) (.cons (nm (by omega)) ((k24 h).app ((h.kids _ bl br .none).app .nil)))
 rw[if_neg hk,if_neg hk]
 by_cases hk:n.kind=35
 ·rw[if_pos hk,if_pos hk]
  exact .cons (nm (by omega)) ((k24 h).app .nil)
 rw[if_neg hk,if_neg hk]
 by_cases hk:n.kind=36
 ·rw[if_pos hk,if_pos hk]
  exact .cons (wdR _ (by simp) (by decide) (by decide)) (.cons (nm (by omega)) ((k24 h).app ((h.kids _ bl br .none).app .nil)))
 rw[if_neg hk,if_neg hk]
 by_cases hk:n.kind=37
 ·rw[if_pos hk,if_pos hk]
  exact .cons (wdR _ (by simp) (by decide) (by decide)) (.cons (sgR (by decide)) (.cons (nm (by omega)) ((h.kids _ pl pr .none).app ((h.kids _ (opWd _ (by simp) (by decide) (by decide)) .none (opS (by decide))).app .nil))))
 rw[if_neg hk,if_neg hk]
 by_cases hk:n.kind=39
 ·rw[if_pos hk,if_pos hk]
  exact .cons (wdR _ (by simp) (by decide) (by decide)) (h.all.app .nil)
 ·rw[if_neg hk,if_neg hk]
  exact .nil
def k3y (t:Tr):Prop:= ∀u∈preT t,k1c u.n≤4000
theorem k3y.kid {t k:Tr} (h:k3y t) (hk:k∈t.ks):k3y k:=fun u hu=>h u (k52 hk u hu)
theorem k3y.self {t:Tr} (h:k3y t):t.n.name.size≤4000∧t.n.alias.size≤4000∧t.n.text.size≤4000:=by
 have:=h t (k3t t)
 simp only[k1c] at this
 omega
theorem kaT (t:Tr) (hg:Good t) (hs:k3y t):TR (toks t) (kvs t):=by
 have hk: ∀l:List Tr,(∀k∈l,k∈t.ks)→KTR (k0i k1E l) (kvL l):=by
  intro l
  induction l with
  |nil=>intro _;exact .nil
  |cons k r ih=>
   intro h
   have hkm:=h k (by simp)
   exact .cons ⟨rfl,kaT k (hg.kid hkm) (hs.kid hkm)⟩ (ih fun x hx=>h x (by simp[hx]))
 rw[kaS,k0z]
 exact kfF (hg t (k3t t)).1 hs.self (hk t.ks fun _ h=>h)
 termination_by SizeOf.sizeOf t
 decreasing_by
 cases t with|node n ks=>
 have:=List.sizeOf_lt_of_mem hkm
 simp only[Tr.ks] at this
 simp;omega
theorem TR.toks {l:List BA} {m:List KV} (h:TR l m):Toks l m∧(∀s∈l,s.size≤30000):=by
 induction h with
 |nil=>exact⟨.nil,by simp⟩
 |cons h _ ih=>
  refine⟨.cons h.1 ih.1,fun s hs=>?_⟩
  rcases List.mem_cons.1 hs with rfl|hs
  ·exact h.2
  ·exact ih.2 s hs
theorem khl (a b:List Tr):kvL (a++b)=kvL a++kvL b:=by
 induction a with
 |nil=>rfl
 |cons x r ih=>simp[kvL,ih]
theorem kk0 (K:List Int) (a b:KK):selK K (a++b)=selK K a++selK K b:=List.filter_append ..
theorem k0Q {K L:List Int} {l:List Tr} (h:InK L l) (hs: ∀k∈L,k∈K):selK K (kvL l)=kvL l:=by
 induction l with
 |nil=>rfl
 |cons x r ih=>
  have h1:=ih fun y hy=>h y (by simp[hy])
  unfold selK at*
  simp only[kvL]
  rw[List.filter_cons,if_pos (by simpa using hs _ (h x (by simp))),h1]
def kvF (l:List Tr):List KV:=l.flatMap kvs
theorem k4L (t:Tr) (l:List Tr):kvF (t::l)=kvs t++kvF l:=by simp[kvF]
theorem ke2: ∀l:List Tr,sepK none (kvL l)=kvF l
 |[]=>rfl
 |[x]=>by simp[kvL,sepK,kvF]
 |x::y::r=>by
  have:=ke2 (y::r)
  simp only[kvL] at this⊢
  simp only[sepK,this,optK,Option.toList,List.nil_append]
  rw[k4L x]
theorem k7I (l:List Tr):allK (kvL l)=kvF l:=by
 induction l with
 |nil=>rfl
 |cons x r ih=>simp only[kvL,allK,List.flatMap_cons,kvF] at*;rw[ih]
def brK (b e:Option KV) (l:List Tr):List KV:=if l=[] then[] else optK b++kvF l++optK e
def brS (b:KV) (s:KV) (l:List Tr):List KV:=if l=[] then[] else b::sepK (some s) (kvL l)
theorem k0T {b e:Option KV} {K:List Int} {kk:KK} {l:List Tr} (h:selK K kk=kvL l):k0g b e none K kk=brK b e l:=by
 unfold k0g brK
 rw[h]
 cases l with
 |nil=>rfl
 |cons x r=>
  rw[if_neg (by simp)]
  have:=ke2 (x::r)
  simp only[kvL] at this⊢
  rw[this]
theorem k9A {b s:KV} {K:List Int} {kk:KK} {l:List Tr} (h:selK K kk=kvL l):k0g (some b) none (some s) K kk=brS b s l:=by
 unfold k0g brS
 rw[h]
 cases l with
 |nil=>rfl
 |cons x r=>
  rw[if_neg (by simp)]
  simp[kvL,optK]
theorem k1x (l:List Tr):brK none none l=kvF l:=by
 unfold brK
 split
 ·rename_i h;subst h;rfl
 ·simp[optK]
theorem k9k {b:Option KV} {p:Nd→Bool}: ∀ {l:List Tr},(∀x∈l,p x.n=false)→k12 b p (kvL l)=[]
 |[],_=>rfl
 |x::r,h=>by
  have:=k9k (b:=b) (p:=p) (l:=r) fun y hy=>h y (by simp[hy])
  unfold k12 at*
  simp only[kvL,List.find?_cons,h x (by simp)]
  exact this
theorem k4I {b:Option KV} {p:Nd→Bool} {t:Tr} {r:List Tr} (ht:p t.n=true): ∀ {l:List Tr},(∀x∈l,p x.n=false)→k12 b p (kvL (l++t::r))=optK b++kvs t
 |[],_=>by simp[k12,kvL,ht]
 |x::l,h=>by
  have:=k4I (b:=b) (r:=r) ht (l:=l) fun y hy=>h y (by simp[hy])
  unfold k12 at*
  simp only[List.cons_append,kvL,List.find?_cons,h x (by simp)]
  exact this
end Go.Vx
