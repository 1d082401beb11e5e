/- A part of the proof of what the last text of this claim says: QE1, QT2, QT3, QE2, QE3. Conditions: none. -/
import Derived.Test.YtpkfgijailfkjaaGreatDoorZAt
import Derived.Test.YtpkfgijailfkjaaGreatDoorZAu
import Derived.Test.YtpkfgijailfkjaaGreatDoorZAv
set_option maxRecDepth 10000
namespace Go.Vx
open Go Go.Proofs
def leGo (s:ByteArray) (i:Nat):List (Nat×Nat):=
 if _h:i<s.size then
  if bt s i=13∧i+1<s.size∧bt s (i+1)=10 then(i,i+2)::leGo s (i+2)
  else if bt s i=13∨bt s i=10 then(i,i+1)::leGo s (i+1)
  else leGo s (i+1)
 else[]
 termination_by s.size -i
def leV (b:Nat):Value:= .slice (some ⟨b,0,none⟩) 2 2
structure LeI (H H':Heap) (x:Sl) (l:List (Nat×Nat)):Prop where
 ext:Ext [] H H'
 own: ∃bs:List Nat,OwnS H' tq53 1 x.1 x.2.1 x.2.2 (bs.map leV)∧All2 (fun b (p:Nat×Nat)=>H'[b]?=some (.cells #[.int .i64 p.1,.int .i64 p.2] tq3)) bs l
 row: ∀r,rowOf x.1=some r→H.size≤r
theorem LeI.push {H H':Heap} {x:Sl} {l:List (Nat×Nat)} (h:LeI H H' x l) (hlen:l.length≤300000000) (p:Nat×Nat) {K:Option Addr→Nat→Heap→Prop}
 (hk: ∀a c H2,LeI H H2 (a,x.2.1+1,c) (l++[p])→Ext [] H H2→K a c H2):
 newB H' (.cells #[(.int .i64 p.1),(.int .i64 p.2)] tq3) fun b8 H9=>newB H9 (.cells #[(.slice (some ⟨b8,0,none⟩) 2 2)] tq53) fun b10 H11=>appK H11 tq53 1 24 x.1 x.2.1 x.2.2 (some ⟨b10,0,none⟩) 1 K:=by
 obtain⟨he,⟨bs,hown,hall⟩,hrow⟩:=h
 have hml:400000000≤maxLen:=by decide
 have hn:=hown.1
 simp only[List.length_map,Nat.mul_one] at hn
 have hbl:=hall.len
 refine nbI fun H1 e1 hb1 x1 s1=>nbI fun H2 e2 hb2 x2 s2=>?_
 have o2:=(hown.ext x1 (by simp)).ext x2 (by simp)
 have y2:=x1.trans x2
 refine .inr ⟨_,_,o2,NewsS.of_block hb2 rfl,?_,by omega,by omega,?_⟩
 ·intro u hu;simp at hu;subst hu;rfl
 intro a c H3 ho hg _ hr
 have keep: ∀(k:Nat) (cs:Array Value),H2[k]?=some (.cells cs tq3)→H3[k]?=some (.cells cs tq3):=by
  intro k cs hk'
  rw[hg.block k (lt_of_get hk') fun eq=>?_,hk']
  obtain⟨cur,_,hg2,_⟩:=o2.row eq.symm
  rw[hk'] at hg2
  cases hg2
 have hx:Ext [] H H3:=by
  refine⟨by have:=he.size;have:=y2.size;have:=hg.size;omega,fun k o hk' _=>?_⟩
  have h2:=y2.get _ _ (he.get _ _ hk' (by simp)) (by simp)
  rw[hg.block k (lt_of_get h2) fun eq=>?_,h2]
  have:=hrow k eq.symm
  have:=lt_of_get hk'
  omega
 refine hk a c H3 ⟨hx,⟨bs++[H'.size],?_,?_⟩,?_⟩ hx
 ·rw[List.map_append];exact ho
 ·exact(hall.imp fun b q hq=>keep _ _ (y2.get _ _ hq (by simp))).snoc (keep _ _ (x2.get _ _ hb1 (by simp)))
 ·intro r hr'
  rcases hr with h5|h5
  ·exact hrow r (by rw[←h5];exact hr')
  ·rw[h5] at hr';cases hr';have:=he.size;have:=y2.size;omega
theorem src_byte {E:Src} {H:Heap} (h:SrcAt E H) {i:Nat} (hi:i<E.text.size):loadC H false 1 ⟨E.body,i,none⟩=some (.int .u8 (bt E.text i)):=by
 obtain⟨c,fr,hb,_,hc⟩:=h.body
 exact lcO hb (hc i hi)
theorem zzLineEnds_ok {E:Src} {H:Heap} (h:SrcAt E H):Fn PP fq205 #[.slice (some ⟨E.body,0,none⟩) E.text.size E.cap] H fun v H'=> ∃x:Sl,v= .slice x.1 x.2.1 x.2.2∧LeI H H' x (leGo E.text 0):=by
 have hsm:=h.small
 refine zzLineEnds.enter _ _ _ H _ ?_
 unfold zzLineEnds.W
 refine⟨fun z H'=> ∃(i:Nat) (l:List (Nat×Nat)),z.2.1=i∧i≤E.text.size∧LeI H H' z.1 l∧l.length≤i∧l++leGo E.text i=leGo E.text 0,fun z _=>E.text.size -z.2.1.toNat,
  ⟨0,[],rfl,Nat.zero_le _,⟨Ext.refl _ _,⟨[],OwnS.nil _ _ _,.nil⟩,by simp[rowOf]⟩,Nat.le_refl _,by simp⟩,?_⟩
 rintro⟨⟨a,n,cc⟩,_,_⟩ H2 ⟨i,l,hi1,hi2,hI,hli,heq⟩
 dsimp only at hi1 hI⊢
 subst hi1
 have h2:=h.ext hI.ext
 refine fkI (fun hlt=>?_) (fun hge=>?_)
 ·have hi:i<E.text.size:=by simp at hlt;omega
  have w1:IntKind.i64.wrap ((i:Int)+1)=((i+1:Nat):Int):=by rw[i64w (by omega)];rfl
  have w2:IntKind.i64.wrap ((i:Int)+2)=((i+2:Nat):Int):=by rw[i64w (by omega)];rfl
  have w3:IntKind.i64.wrap (((i+1:Nat):Int)+1)=((i+2:Nat):Int):=by rw[i64w (by omega)];omega
  have hb1:=src_byte h2 hi
  have e0:offOf (some ⟨E.body,0,none⟩)+((i:Nat):Int).toNat*1=i:=by simp[offOf]
  rw[leGo,dif_pos hi] at heq
  rw[w1,w2]
  refine⟨(decide (bt E.text i=13∧i+1<E.text.size∧bt E.text (i+1)=10),()),?_,?_⟩
  ·refine⟨ix_some (by omega) (by omega),bt E.text i,by rw[e0];exact hb1,?_⟩
   refine fkI (fun h13=>?_) (fun h13=>?_)
   ·have h13':bt E.text i=13:=by simpa using h13
    refine fkI (fun h1=>?_) (fun h1=>?_)
    ·have h1':i+1<E.text.size:=by simp at h1;omega
     have hb2:=src_byte h2 h1'
     have e1:offOf (some ⟨E.body,0,none⟩)+((i+1:Nat):Int).toNat*1=i+1:=by simp[offOf]
     refine⟨ix_some (by omega) (by omega),bt E.text ((i+1:Nat):Int),by rw[e1];exact hb2,?_,rfl⟩
     have ec:((i+1:Nat):Int)=(i:Int)+1:=by omega
     rw[ec]
     by_cases h10:bt E.text ((i:Int)+1)=10
     ·simp[h13',h1',h10]
     ·simp[h13',h10]
    ·have h1': ¬i+1<E.text.size:=by simp at h1;omega
     exact⟨by simp[h1'],rfl⟩
   ·have h13':bt E.text i≠13:=by simpa using h13
    exact⟨by simp[h13'],rfl⟩
  refine fkI (fun hA=>?_) (fun hA=>?_)
  ·have hA':bt E.text i=13∧i+1<E.text.size∧bt E.text (i+1)=10:=by simpa using hA
   rw[if_pos hA'] at heq
   refine hI.push (by omega) (i,i+2) fun a' c' H3 hI3 _=>?_
   rw[w3]
   exact⟨⟨i+2,l++[(i,i+2)],rfl,by omega,hI3,by simp;omega,by rw[←heq];simp⟩,by omega⟩
  ·have hA': ¬(bt E.text i=13∧i+1<E.text.size∧bt E.text (i+1)=10):=by simpa using hA
   rw[if_neg hA'] at heq
   refine⟨(decide (bt E.text i=13∨bt E.text i=10),()),?_,?_⟩
   ·refine⟨ix_some (by omega) (by omega),bt E.text i,by rw[e0];exact hb1,?_⟩
    refine fkI (fun h13=>?_) (fun h13=>?_)
    ·have h13':bt E.text i=13:=by simpa using h13
     exact⟨by simp[h13'],rfl⟩
    ·have h13':bt E.text i≠13:=by simpa using h13
     refine⟨ix_some (by omega) (by omega),bt E.text i,by rw[e0];exact hb1,?_,rfl⟩
     by_cases h10:bt E.text i=10
     ·simp[h10]
     ·simp[h13',h10]
   refine fkI (fun hB=>?_) (fun hB=>?_)
   ·have hB':bt E.text i=13∨bt E.text i=10:=by simpa using hB
    rw[if_pos hB'] at heq
    refine hI.push (by omega) (i,i+1) fun a' c' H3 hI3 _=>?_
    exact⟨⟨i+1,l++[(i,i+1)],rfl,by omega,hI3,by simp;omega,by rw[←heq];simp⟩,by omega⟩
   ·have hB': ¬(bt E.text i=13∨bt E.text i=10):=by simpa using hB
    rw[if_neg hB'] at heq
    exact⟨⟨i+1,l,rfl,by omega,hI,by omega,heq⟩,by omega⟩
 ·have hi:i=E.text.size:=by simp at hge;omega
  rw[leGo,dif_neg (by omega),List.append_nil] at heq
  exact rkI ⟨(a,n,cc),rfl,by rw[←heq];exact hI⟩
section
variable {G:Heap} {b lb nb:Nat} {t:Tr}
end
theorem All2.get {α β:Type} {R:α→β→Prop} {l:List α} {m:List β} (h:All2 R l m): ∀(i:Nat) (b:β),m[i]?=some b→ ∃a,l[i]?=some a∧R a b:=by
 induction h with
 |nil=>intro i b h;simp at h
 |cons h _ ih=>
  intro i b hb
  cases i with
  |zero=>simp at hb;subst hb;exact⟨_,rfl,h⟩
  |succ i=>simp at hb;exact ih i b hb
theorem SlAt.keep {x:Sl} {vs:List Value} {G H:Heap} (h:SlAt x vs G) (he:Ext [] G H):SlAt x vs H:=SlcAt.ext h he (by simp)
section
variable {G:Heap} {b lb:Nat} {t:Tr} {a:Option Addr} {n c:Nat}
end
theorem leGo_mem (s:ByteArray): ∀(n i:Nat),s.size -i=n→ ∀p∈leGo s i,i≤p.1∧p.1<p.2∧p.2≤s.size:=by
 intro n
 induction n using Nat.strongRecOn with
 |_ n ih=>
  intro i hn p hp
  rw[leGo] at hp
  split at hp
  ·split at hp
   ·rename_i h1 h2
    rcases List.mem_cons.1 hp with rfl|hp
    ·exact⟨Nat.le_refl _,by simp,by simp;omega⟩
    ·have:=ih (s.size -(i+2)) (by omega) (i+2) rfl p hp
     omega
   ·split at hp
    ·rcases List.mem_cons.1 hp with rfl|hp
     ·exact⟨Nat.le_refl _,by simp,by simp;omega⟩
     ·have:=ih (s.size -(i+1)) (by omega) (i+1) rfl p hp
      omega
    ·have:=ih (s.size -(i+1)) (by omega) (i+1) rfl p hp
     omega
  ·simp at hp
def locGo (pos:Nat):List (Nat×Nat)→Nat→Int→Nat×Int
 |[],line,col=>(line,col)
 |p::r,line,col=>if p.1<pos then locGo pos r (line+1) ((pos:Int)+1 -p.2) else(line,col)
def locM (s:ByteArray) (pos:Nat):Nat×Int:=locGo pos (leGo s 0) 1 ((pos:Int)+1)
theorem leV_load {H:Heap} {x:Sl} {l:List (Nat×Nat)} {H0:Heap} (h:LeI H0 H x l) {k:Nat} {p:Nat×Nat} (hp:l[k]?=some p):
 IxOk x.1 ((k:Nat):Int) x.2.1∧ ∃b:Nat,loadC H false 1 ⟨blkOf x.1,offOf x.1+((k:Nat):Int).toNat*1,none⟩=some (.slice (some ⟨b,0,none⟩) 2 2)∧H[b]?=some (.cells #[.int .i64 p.1,.int .i64 p.2] tq3):=by
 obtain⟨bs,ho,hall⟩:=h.own
 obtain⟨b,hb,hbl⟩:=hall.get k p hp
 have hL:=(SlcAt.of_own ho).load (i:=k) (v:=leV b) (by simp[hb])
 exact⟨hL.1,b,hL.2,hbl⟩
theorem GetLocation_ok {E:Src} {H:Heap} (h:SrcAt E H) (pos:Nat) (hp:pos≤300000000):
 Fn PP fq191 #[.pointer (some ⟨E.src,0,none⟩),.int .i64 (pos:Nat)] H fun v H'=>v= .agg #[.int .i64 (locM E.text pos).1,.int .i64 (locM E.text pos).2]∧Ext [] H H':=by
 have hsm:=h.small
 refine GetLocation.enter _ _ H _ ?_
 unfold GetLocation.W
 refine nbI fun H2 e2 hb2 x2 s2=>nbI fun H4 e4 hb4 x4 s4=>?_
 have x24:=x2.trans x4
 have h4:=h.ext x24
 obtain⟨nm,fr,hsrc⟩:=h4.src
 refine⟨(some ⟨E.body,0,none⟩,E.text.size,E.cap),lcO hsrc rfl,?_⟩
 refine(zzLineEnds_ok h4).mono ?_
 rintro _ H7 ⟨x,rfl,hI⟩
 refine⟨x,rfl,?_⟩
 have hlx:x.2.1=(leGo E.text 0).length:=by
  obtain⟨bs,ho,hall⟩:=hI.own
  have:=ho.1
  simp only[List.length_map,Nat.mul_one] at this
  rw[←this,hall.len]
 have hmem:=leGo_mem E.text _ 0 rfl
 have hll: ∀(n i:Nat),E.text.size -i=n→(leGo E.text i).length≤E.text.size -i:=by
  intro n
  induction n using Nat.strongRecOn with
  |_ n ih=>
   intro i hn
   rw[leGo]
   split
   ·split
    ·have:=ih (E.text.size -(i+2)) (by omega) (i+2) rfl
     simp only[List.length_cons];omega
    ·split
     ·have:=ih (E.text.size -(i+1)) (by omega) (i+1) rfl
      simp only[List.length_cons];omega
     ·have:=ih (E.text.size -(i+1)) (by omega) (i+1) rfl
      omega
   ·simp
 have hl0:=hll _ 0 rfl
 have w0:IntKind.i64.wrap (((pos:Nat):Int)+1)=((pos:Nat):Int)+1:=i64w (by omega)
 rw[w0]
 have hb7:=hI.ext.get _ _ (x4.get _ _ hb2 (by simp)) (by simp)
 have fin: ∀(line col:Int),line=(locM E.text pos).1∧col=(locM E.text pos).2→storeW H7 ⟨H.size,0,none⟩ [(.int .i64 line),(.int .i64 col)] fun H16=>
  retK (consO (loadC H16 true 2 ⟨H.size,0,none⟩) (some [])) H16 fun v H'=>v= .agg #[.int .i64 (locM E.text pos).1,.int .i64 (locM E.text pos).2]∧Ext [] H H':=by
  rintro line col ⟨rfl,rfl⟩
  refine swI hb7 (by simp) rfl rfl fun H16 e16 hb16 x16 s16=>?_
  refine⟨[.agg #[.int .i64 (locM E.text pos).1,.int .i64 (locM E.text pos).2]],by rw[lcO hb16 rfl];rfl,rfl,?_⟩
  rw[e16]
  exact(x24.trans hI.ext).setNew (Nat.le_refl _) _
 refine⟨fun z H'=>H'=H7∧ ∃k:Nat,z.2.2.1=k∧k≤(leGo E.text 0).length∧z.1=((k+1:Nat):Int)∧(-300000001≤z.2.1∧z.2.1≤300000001)∧locGo pos ((leGo E.text 0).drop k) (k+1) z.2.1=locM E.text pos,fun z _=>(leGo E.text 0).length -z.2.2.1.toNat,
  ⟨rfl,0,rfl,Nat.zero_le _,rfl,by dsimp only;omega,rfl⟩,?_⟩
 rintro⟨line,col,_,_⟩ _ ⟨rfl,k,hk1,hkl,hline,hcol,heq⟩
 dsimp only at hk1 hline hcol heq⊢
 subst hk1;subst hline
 refine fkI (fun hlt=>?_) (fun hge=>?_)
 ·have hlt':k<(leGo E.text 0).length:=by simp at hlt;omega
  have hi:(leGo E.text 0)[k]?=some (leGo E.text 0)[k]:=List.getElem?_eq_getElem hlt'
  obtain⟨_,hp1,hp2⟩:=hmem _ (List.getElem_mem hlt')
  obtain⟨hix,b,hlb,hbl⟩:=leV_load hI hi
  have hdrop:(leGo E.text 0).drop k=(leGo E.text 0)[k]::(leGo E.text 0).drop (k+1):=(List.getElem_cons_drop (h:=hlt')).symm
  rw[hdrop] at heq
  generalize (leGo E.text 0)[k]=p at hp1 hp2 hbl heq
  refine⟨hix,(some ⟨b,0,none⟩,2,2),hlb,ix_some (by simp) (by simp),(p.1:Int),lcO hbl rfl,?_⟩
  refine fkI (fun hc=>?_) (fun hc=>?_)
  ·have hc':p.1<pos:=by simpa using hc
   have h7:=h4.ext hI.ext
   obtain⟨nm7,fr7,hsrc7⟩:=h7.src
   have hle:=h7.le
   have e1:((p.2:Int).toNat -(p.1:Int).toNat:Nat)=p.2 -p.1:=by omega
   refine⟨(some ⟨E.body,0,none⟩,E.text.size,E.cap),lcO hsrc7 rfl,ix_some (by simp) (by simp),(p.1:Int),lcO hbl rfl,ix_some (by simp) (by simp),(p.2:Int),lcO hbl rfl,⟨by dsimp only;omega,by omega⟩,?_⟩
   rw[e1]
   have w1:IntKind.i64.wrap (((k+1:Nat):Int)+1)=((k+1+1:Nat):Int):=by rw[i64w (by omega)];omega
   have w2:IntKind.i64.wrap ((p.1:Int)+((p.2 -p.1:Nat):Int))=(p.2:Int):=by rw[i64w (by omega)];omega
   have w3:IntKind.i64.wrap (((pos:Nat):Int)+1 -(p.2:Int))=(pos:Int)+1 -p.2:=i64w (by omega)
   rw[w1,w2,w3,wrap1 (k:=k) (by omega)]
   refine⟨⟨rfl,k+1,rfl,hlt',rfl,by omega,?_⟩,by omega⟩
   rw[locGo,if_pos hc'] at heq
   exact heq
  ·have hc': ¬p.1<pos:=by simpa using hc
   rw[locGo,if_neg hc'] at heq
   exact fin _ _ ⟨by rw[←heq],by rw[←heq]⟩
 ·have he:k=(leGo E.text 0).length:=by simp at hge;omega
  rw[he,List.drop_length] at heq
  rw[locGo] at heq
  exact fin _ _ ⟨by rw[←heq,he],by rw[←heq]⟩
abbrev sSyntax:ByteArray:=bs [83,121,110,116,97,120,32,69,114,114,111,114]
def ErrAt (b:Nat) (line:Nat) (col:Int) (G:Heap):Prop:= ∃(src lb:Nat) (c:Nat) (m1 m2 xs ps x3 x4:Value) (r:Array Value),G[b]?=some (.cells #[m1,m2,xs,.pointer (some ⟨src,0,none⟩),ps,.slice (some ⟨lb,0,none⟩) 1 c,x3,x4] tq57)∧
 G[lb]?=some (.cells r tq59)∧r[0]?=some (.int .i64 (line:Nat))∧r[1]?=some (.int .i64 col)
theorem newError_ok {E:Src} {H:Heap} (h:SrcAt E H) (pos:Nat) (hp:pos≤300000000) (b1 b3:Nat) (hb3:H[b3]?=some (.cells #[.int .i64 (pos:Nat)] tq3)):
 Fn PP fq159 #[.string sSyntax,.slice (some ⟨b1,0,none⟩) 0 0,.string eB,.pointer (some ⟨E.src,0,none⟩),.slice (some ⟨b3,0,none⟩) 1 1,.slice none 0 0,.nilIface] H fun v H'=>
  ∃b:Nat,v= .pointer (some ⟨b,0,none⟩)∧Ext [] H H'∧ErrAt b (locM E.text pos).1 (locM E.text pos).2 H':=by
 refine newErrorS.enter _ _ _ _ _ _ _ _ _ H _ ?_
 unfold newErrorS.W
 have hne:(sSyntax.toList==(bs []).toList)=false:=by rw[bytes_beq];exact decide_eq_false fun h=>absurd (congrArg ByteArray.size h) (by decide)
 refine⟨(true,()),fkI (fun _=>⟨by rw[hne];rfl,rfl⟩) (fun hh=>(eq_bs hh).elim),?_⟩
 refine fkI (fun _=>?_) (fun hh=>absurd hh (by decide))
 refine⟨(false,()),fkI (fun hh=>absurd hh (by decide)) (fun _=>⟨rfl,rfl⟩),?_⟩
 refine fkI (fun hh=>absurd hh (by decide)) (fun _=>?_)
 refine nbI fun H2 e2 hb2 x2 s2=>?_
 have o2:OwnS H2 tq59 2 (some ⟨H.size,0,none⟩) 0 0 []:=⟨by simp,.inr ⟨H.size,#[],rfl,hb2,Nat.le_refl _,Nat.zero_le _,rfl,rfl⟩⟩
 refine⟨fun z H'=>z.2.1=0∧H'=H2∧z.1=(some ⟨H.size,0,none⟩,0,0)∨z.2.1=1∧z.1.2.1=1∧Ext [] H H'∧ ∃(lb:Nat) (r:Array Value),z.1.1=some ⟨lb,0,none⟩∧H'[lb]?=some (.cells r tq59)∧r[0]?=some (.int .i64 ((locM E.text pos).1:Nat))∧r[1]?=some (.int .i64 (locM E.text pos).2),fun z _=>1 -z.2.1.toNat,.inl ⟨rfl,rfl,rfl⟩,?_⟩
 rintro⟨⟨a,n,c⟩,i,_⟩ H3 (⟨rfl,rfl,hz⟩|⟨rfl,hn,hx,lb,r,ha,hlb,hr0,hr1⟩)
 ·simp only[Prod.mk.injEq] at hz
  obtain⟨rfl,rfl,rfl⟩:=hz
  refine fkI (fun _=>?_) (fun hh=>by simp at hh)
  have hb3':=x2.get _ _ hb3 (by simp)
  refine⟨ix_some (by simp) (by simp),((pos:Nat):Int),lcO hb3' rfl,?_⟩
  refine(GetLocation_ok (h.ext x2) pos hp).mono ?_
  rintro _ H4 ⟨rfl,x4⟩
  refine⟨(((locM E.text pos).1:Nat),(locM E.text pos).2),rfl,?_⟩
  dsimp only
  refine nbI fun H5 e5 hb5 x5 s5=>?_
  refine swI hb5 (by simp) rfl rfl fun H6 e6 hb6 x6 s6=>?_
  have hb6':H6[H4.size]?=some (.cells #[.int .i64 ((locM E.text pos).1:Nat),.int .i64 (locM E.text pos).2] tq59):=hb6
  have y6:Ext [] H4 H6:=by rw[e6];exact x5.setNew (Nat.le_refl _) _
  refine⟨(((locM E.text pos).1:Nat),(locM E.text pos).2),lcO hb6' rfl,?_⟩
  dsimp only
  refine nbI fun H7 e7 hb7 x7 s7=>?_
  have o7:=((o2.ext x4 (by simp)).ext y6 (by simp)).ext x7 (by simp)
  have hml:1000≤maxLen:=by decide
  refine .inr ⟨_,_,o7,NewsS.of_block hb7 rfl,?_,by omega,by omega,?_⟩
  ·intro u hu;simp at hu;rcases hu with rfl|rfl<;>rfl
  intro a8 c8 H8 ho8 hg8 _ hr8
  have xx:Ext [] H H8:=by
   have x27:=((x2.trans x4).trans y6).trans x7
   refine⟨by have:=x27.size;have:=hg8.size;omega,fun k o hk _=>?_⟩
   have h2:=x27.get _ _ hk (by simp)
   rw[hg8.block k (lt_of_get h2) fun eq=>?_,h2]
   cases eq
   have:=lt_of_get hk
   dsimp only at this
   omega
  rcases ho8.2 with⟨_,h0,_⟩|⟨g,cur,rfl,hg,_,_,hs,ht⟩
  ·omega
  refine⟨.inr ⟨by decide,rfl,xx,g,cur,rfl,hg,?_,?_⟩,by decide⟩
  ·have:=congrArg (·[0]?) ht
   simpa using this
  ·have:=congrArg (·[1]?) ht
   simpa using this
 ·dsimp only at hn ha⊢
  subst hn;subst ha
  refine fkI (fun hh=>by simp at hh) (fun _=>?_)
  refine nbI fun H4 e4 hb4 x4 s4=>?_
  exact rkI ⟨H3.size,rfl,hx.trans x4,E.src,lb,c,_,_,_,_,_,_,r,hb4,x4.get _ _ hlb (by simp),hr0,hr1⟩
theorem NewSyntaxError_ok {E:Src} {H:Heap} (h:SrcAt E H) (pos:Nat) (hp:pos≤300000000) (d:ByteArray):
 Fn PP fq80 #[.pointer (some ⟨E.src,0,none⟩),.int .i64 (pos:Nat),.string d] H fun v H'=> ∃b:Nat,v= .pointer (some ⟨b,0,none⟩)∧Ext [] H H'∧ErrAt b (locM E.text pos).1 (locM E.text pos).2 H':=by
 refine NewSyntaxError.enter _ _ _ H _ ?_
 unfold NewSyntaxError.W
 refine nbI fun H1 e1 hb1 x1 s1=>nbI fun H2 e2 hb2 x2 s2=>?_
 have x12:=x1.trans x2
 have key:Fn PP fq114 #[.string sSyntax,.slice (some ⟨H.size,0,none⟩) 0 0,.string eB,.pointer (some ⟨E.src,0,none⟩),.slice (some ⟨H1.size,0,none⟩) 1 1,.nilIface] H2 fun v H'=> ∃b:Nat,v= .pointer (some ⟨b,0,none⟩)∧Ext [] H2 H'∧ErrAt b (locM E.text pos).1 (locM E.text pos).2 H':=by
  refine NewErrorS.enter _ _ _ _ _ _ _ _ _ H2 _ ?_
  unfold NewErrorS.W
  refine(newError_ok (h.ext x12) pos hp H.size H1.size hb2).mono ?_
  rintro _ H3 ⟨b,rfl,x3,he⟩
  exact⟨b,rfl,rkI ⟨b,rfl,x3,he⟩⟩
 refine key.mono ?_
 rintro _ H3 ⟨b,rfl,x3,he⟩
 exact⟨b,rfl,rkI ⟨b,rfl,x12.trans x3,he⟩⟩
end Go.Vx
