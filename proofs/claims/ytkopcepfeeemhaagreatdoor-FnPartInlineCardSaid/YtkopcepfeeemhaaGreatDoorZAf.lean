/- A part of the proof of what the last text of this claim says: PB1, PB2, PB3, PB4, PB5, PB6. Conditions: none. -/
import Derived.Test.YtkopcepfeeemhaaGreatDoorZAe
set_option maxRecDepth 10000
namespace Go.Vx
open Go Go.Proofs
theorem bytes_beq (a b:ByteArray):(a.toList==b.toList)=decide (a=b):=by
 cases h:(a.toList==b.toList) with
 |true=>rw[bytes_eq h];simp
 |false=>
  symm
  rw[decide_eq_false_iff_not]
  rintro rfl
  simp at h
abbrev eB:ByteArray:=bs []
abbrev onB:ByteArray:=bs [111,110]
abbrev queryB:ByteArray:=bs [113,117,101,114,121]
abbrev mutationB:ByteArray:=bs [109,117,116,97,116,105,111,110]
abbrev subscriptionB:ByteArray:=bs [115,117,98,115,99,114,105,112,116,105,111,110]
abbrev trueB:ByteArray:=bs [116,114,117,101]
abbrev falseB:ByteArray:=bs [102,97,108,115,101]
abbrev nullB:ByteArray:=bs [110,117,108,108]
def OpWord (s:ByteArray):Prop:=s=queryB∨s=mutationB∨s=subscriptionB
inductive BodyP (n:Nd):Prop
 |empty:(n.kind=1∨n.kind=5∨n.kind=17∨n.kind=18∨n.kind=21∨n.kind=22∨n.kind=24∨n.kind=39)→n.name=eB→n.text=eB→n.flag=0→BodyP n
 |operation:n.kind=2→OpWord n.text→(n.name=eB∨NameP n.name)→(n.flag=0∨n.flag=1∧n.text=queryB∧n.name=eB)→BodyP n
 |fragment:n.kind=3→NameP n.name→n.name≠onB→NameP n.text→n.flag=0→BodyP n
 |spread:n.kind=7→NameP n.name→n.name≠onB→n.text=eB→n.flag=0→BodyP n
 |inline:n.kind=8→n.name=eB→(n.text=eB∨NameP n.text)→n.flag=0→BodyP n
 |number:(n.kind=12∨n.kind=13)→n.name=eB→n.flag=0→Num n.text 0 (n.kind+4) n.text.size→BodyP n
 |string:(n.kind=14∨n.kind=23)→n.name=eB→(n.flag=0∧TextP n.text∨n.flag=1∧BlockP n.text)→BodyP n
 |boolean:n.kind=15→n.name=eB→n.text=eB→(n.flag=0∨n.flag=1)→BodyP n
 |enum:(n.kind=16∨n.kind=35)→NameP n.name→n.name≠trueB→n.name≠falseB→n.name≠nullB→n.text=eB→n.flag=0→BodyP n
 |operationType:n.kind=25→OpWord n.text→NameP n.name→n.flag=0→BodyP n
 |name:(n.kind=4∨n.kind=6∨9≤n.kind∧n.kind≤11∨19≤n.kind∧n.kind≤20∨26≤n.kind∧n.kind≤34∨36≤n.kind∧n.kind≤38)→NameP n.name→n.text=eB→n.flag=0→BodyP n
def FormedP (n:Nd):Prop:=(n.alias=eB∨n.kind=6∧NameP n.alias)∧BodyP n
theorem formed_ok (n:Nd) (H:Heap) (h1:n.name.size<4294967296) (h2:n.alias.size<4294967296) (h3:n.text.size<4294967296) (h4:n.text.size<268435450):
 Fn PP fq35 #[.agg n.val] H fun v H'=> ∃b,v= .bool b∧Ext [] H H'∧(b=true→FormedP n):=by
 refine formed.enter n H _ ?_
 unfold formed.W
 refine nbI fun H2 _ hb2 ext2 _=>?_
 refine⟨fun y H'=>H2=H'∧(y.1=false→n.alias=eB∨n.kind=6∧NameP n.alias),?_,?_⟩
 ·refine⟨_,lcO hb2 rfl,?_⟩
  refine fkI (fun _=>?_) (fun h=>⟨rfl,fun _=> .inl ?_⟩)
  ·refine⟨_,lcO hb2 rfl,?_⟩
   refine fkI (fun _=>⟨rfl,by simp⟩) (fun hk=>?_)
   refine⟨_,lcO hb2 rfl,?_⟩
   refine(IsName_ok _ _ h2).mono ?_
   rintro _ _ ⟨b,rfl,rfl,hb⟩
   refine⟨_,rfl,rfl,fun h=> .inr ⟨by simpa using hk,hb (by simpa using h)⟩⟩
  ·rw[bytes_beq] at h;simpa using h
 rintro⟨bad,_⟩ _ ⟨rfl,hal⟩
 refine fkI (fun _=>rkI ⟨false,rfl,ext2,by simp⟩) (fun hbad=>?_)
 have hal:=hal hbad
 refine⟨_,lcO hb2 rfl,?_⟩
 refine fkI (fun hk=>?_) (fun _=>?_)
 ·(repeat' (first|refine fkI (fun _=>?_) (fun _=>?_)|refine⟨_,lcO hb2 rfl,?_⟩|(refine(IsName_ok _ _ (by assumption)).mono ?_;rintro _ _ ⟨_,rfl,rfl,_⟩;refine⟨_,rfl,?_⟩)|(refine(blockable_ok _ _ (by omega)).mono ?_;rintro _ _ ⟨_,rfl,_,_⟩;refine⟨_,rfl,?_⟩)|(refine(textable_ok _ _ (by omega)).mono ?_;rintro _ _ ⟨_,rfl,rfl,_⟩;refine⟨_,rfl,?_⟩)))<;>(refine rkI ⟨_,rfl,by first|exact ext2|exact ext2.trans ‹_›,fun hb=>⟨hal,?_⟩⟩)<;>(try simp only[bytes_beq,decide_eq_true_eq,decide_eq_false_iff_not,beq_iff_eq,Bool.false_eq_true] at*)<;>(first|contradiction|exact(BodyP.empty (by omega) ‹_› ‹_› ‹_›)|skip)
 refine fkI (fun hk=>?_) (fun _=>?_)
 ·(repeat' (first|refine fkI (fun _=>?_) (fun _=>?_)|refine⟨_,lcO hb2 rfl,?_⟩|(refine(IsName_ok _ _ (by assumption)).mono ?_;rintro _ _ ⟨_,rfl,rfl,_⟩;refine⟨_,rfl,?_⟩)|(refine(blockable_ok _ _ (by omega)).mono ?_;rintro _ _ ⟨_,rfl,_,_⟩;refine⟨_,rfl,?_⟩)|(refine(textable_ok _ _ (by omega)).mono ?_;rintro _ _ ⟨_,rfl,rfl,_⟩;refine⟨_,rfl,?_⟩)))<;>(refine rkI ⟨_,rfl,by first|exact ext2|exact ext2.trans ‹_›,fun hb=>⟨hal,?_⟩⟩)<;>(try simp only[bytes_beq,decide_eq_true_eq,decide_eq_false_iff_not,beq_iff_eq,beq_eq_false_iff_ne,Bool.false_eq_true,ne_eq] at*)<;>(first|contradiction|exact(BodyP.empty (by omega) ‹_› ‹_› ‹_›)|skip)
 refine fkI (fun hk=>?_) (fun _=>?_)
 ·(repeat' (first|refine fkI (fun _=>?_) (fun _=>?_)|refine⟨_,lcO hb2 rfl,?_⟩|(refine(IsName_ok _ _ (by assumption)).mono ?_;rintro _ _ ⟨_,rfl,rfl,_⟩;refine⟨_,rfl,?_⟩)|(refine(blockable_ok _ _ (by omega)).mono ?_;rintro _ _ ⟨_,rfl,_,_⟩;refine⟨_,rfl,?_⟩)|(refine(textable_ok _ _ (by omega)).mono ?_;rintro _ _ ⟨_,rfl,rfl,_⟩;refine⟨_,rfl,?_⟩)))<;>(refine rkI ⟨_,rfl,by first|exact ext2|exact ext2.trans ‹_›,fun hb=>⟨hal,?_⟩⟩)<;>(try simp only[bytes_beq,decide_eq_true_eq,decide_eq_false_iff_not,beq_iff_eq,beq_eq_false_iff_ne,Bool.false_eq_true,ne_eq] at*)<;>(first|contradiction|exact(BodyP.empty (by omega) ‹_› ‹_› ‹_›)|skip)
 refine fkI (fun hk=>?_) (fun _=>?_)
 ·(repeat' (first|refine fkI (fun _=>?_) (fun _=>?_)|refine⟨_,lcO hb2 rfl,?_⟩|(refine(IsName_ok _ _ (by assumption)).mono ?_;rintro _ _ ⟨_,rfl,rfl,_⟩;refine⟨_,rfl,?_⟩)|(refine(blockable_ok _ _ (by omega)).mono ?_;rintro _ _ ⟨_,rfl,_,_⟩;refine⟨_,rfl,?_⟩)|(refine(textable_ok _ _ (by omega)).mono ?_;rintro _ _ ⟨_,rfl,rfl,_⟩;refine⟨_,rfl,?_⟩)))<;>(refine rkI ⟨_,rfl,by first|exact ext2|exact ext2.trans ‹_›,fun hb=>⟨hal,?_⟩⟩)<;>(try simp only[bytes_beq,decide_eq_true_eq,decide_eq_false_iff_not,beq_iff_eq,beq_eq_false_iff_ne,Bool.false_eq_true,ne_eq] at*)<;>(first|contradiction|exact(BodyP.empty (by omega) ‹_› ‹_› ‹_›)|skip)
 refine fkI (fun hk=>?_) (fun _=>?_)
 ·(repeat' (first|refine fkI (fun _=>?_) (fun _=>?_)|refine⟨_,lcO hb2 rfl,?_⟩|(refine(IsName_ok _ _ (by assumption)).mono ?_;rintro _ _ ⟨_,rfl,rfl,_⟩;refine⟨_,rfl,?_⟩)|(refine(blockable_ok _ _ (by omega)).mono ?_;rintro _ _ ⟨_,rfl,_,_⟩;refine⟨_,rfl,?_⟩)|(refine(textable_ok _ _ (by omega)).mono ?_;rintro _ _ ⟨_,rfl,rfl,_⟩;refine⟨_,rfl,?_⟩)))<;>(refine rkI ⟨_,rfl,by first|exact ext2|exact ext2.trans ‹_›,fun hb=>⟨hal,?_⟩⟩)<;>(try simp only[bytes_beq,decide_eq_true_eq,decide_eq_false_iff_not,beq_iff_eq,beq_eq_false_iff_ne,Bool.false_eq_true,ne_eq] at*)<;>(first|contradiction|exact(BodyP.empty (by omega) ‹_› ‹_› ‹_›)|skip)
 refine fkI (fun hk=>?_) (fun _=>?_)
 ·(repeat' (first|refine fkI (fun _=>?_) (fun _=>?_)|refine⟨_,lcO hb2 rfl,?_⟩|(refine(IsName_ok _ _ (by assumption)).mono ?_;rintro _ _ ⟨_,rfl,rfl,_⟩;refine⟨_,rfl,?_⟩)|(refine(blockable_ok _ _ (by omega)).mono ?_;rintro _ _ ⟨_,rfl,_,_⟩;refine⟨_,rfl,?_⟩)|(refine(textable_ok _ _ (by omega)).mono ?_;rintro _ _ ⟨_,rfl,rfl,_⟩;refine⟨_,rfl,?_⟩)))<;>(refine rkI ⟨_,rfl,by first|exact ext2|exact ext2.trans ‹_›,fun hb=>⟨hal,?_⟩⟩)<;>(try simp only[bytes_beq,decide_eq_true_eq,decide_eq_false_iff_not,beq_iff_eq,beq_eq_false_iff_ne,Bool.false_eq_true,ne_eq] at*)<;>(first|contradiction|exact(BodyP.empty (by omega) ‹_› ‹_› ‹_›)|skip)
 refine fkI (fun hk=>?_) (fun _=>?_)
 ·(repeat' (first|refine fkI (fun _=>?_) (fun _=>?_)|refine⟨_,lcO hb2 rfl,?_⟩|(refine(IsName_ok _ _ (by assumption)).mono ?_;rintro _ _ ⟨_,rfl,rfl,_⟩;refine⟨_,rfl,?_⟩)|(refine(blockable_ok _ _ (by omega)).mono ?_;rintro _ _ ⟨_,rfl,_,_⟩;refine⟨_,rfl,?_⟩)|(refine(textable_ok _ _ (by omega)).mono ?_;rintro _ _ ⟨_,rfl,rfl,_⟩;refine⟨_,rfl,?_⟩)))<;>(refine rkI ⟨_,rfl,by first|exact ext2|exact ext2.trans ‹_›,fun hb=>⟨hal,?_⟩⟩)<;>(try simp only[bytes_beq,decide_eq_true_eq,decide_eq_false_iff_not,beq_iff_eq,beq_eq_false_iff_ne,Bool.false_eq_true,ne_eq] at*)<;>(first|contradiction|exact(BodyP.empty (by omega) ‹_› ‹_› ‹_›)|skip)
 refine fkI (fun hk=>?_) (fun _=>?_)
 ·(repeat' (first|refine fkI (fun _=>?_) (fun _=>?_)|refine⟨_,lcO hb2 rfl,?_⟩|(refine(IsName_ok _ _ (by assumption)).mono ?_;rintro _ _ ⟨_,rfl,rfl,_⟩;refine⟨_,rfl,?_⟩)|(refine(blockable_ok _ _ (by omega)).mono ?_;rintro _ _ ⟨_,rfl,_,_⟩;refine⟨_,rfl,?_⟩)|(refine(textable_ok _ _ (by omega)).mono ?_;rintro _ _ ⟨_,rfl,rfl,_⟩;refine⟨_,rfl,?_⟩)))<;>(refine rkI ⟨_,rfl,by first|exact ext2|exact ext2.trans ‹_›,fun hb=>⟨hal,?_⟩⟩)<;>(try simp only[bytes_beq,decide_eq_true_eq,decide_eq_false_iff_not,beq_iff_eq,beq_eq_false_iff_ne,Bool.false_eq_true,ne_eq] at*)<;>(first|contradiction|exact(BodyP.empty (by omega) ‹_› ‹_› ‹_›)|skip)
 refine fkI (fun hk=>?_) (fun _=>?_)
 ·(repeat' (first|refine fkI (fun _=>?_) (fun _=>?_)|refine⟨_,lcO hb2 rfl,?_⟩|(refine(IsName_ok _ _ (by assumption)).mono ?_;rintro _ _ ⟨_,rfl,rfl,_⟩;refine⟨_,rfl,?_⟩)|(refine(blockable_ok _ _ (by omega)).mono ?_;rintro _ _ ⟨_,rfl,_,_⟩;refine⟨_,rfl,?_⟩)|(refine(textable_ok _ _ (by omega)).mono ?_;rintro _ _ ⟨_,rfl,rfl,_⟩;refine⟨_,rfl,?_⟩)))<;>(refine rkI ⟨_,rfl,by first|exact ext2|exact ext2.trans ‹_›,fun hb=>⟨hal,?_⟩⟩)<;>(try simp only[bytes_beq,decide_eq_true_eq,decide_eq_false_iff_not,beq_iff_eq,beq_eq_false_iff_ne,Bool.false_eq_true,ne_eq] at*)<;>(first|contradiction|exact(BodyP.operation hk (by unfold OpWord;simp[*]) (by simp[*]) (by simp[*]))|skip)
 refine fkI (fun hk=>?_) (fun _=>?_)
 ·(repeat' (first|refine fkI (fun _=>?_) (fun _=>?_)|refine⟨_,lcO hb2 rfl,?_⟩|(refine(IsName_ok _ _ (by assumption)).mono ?_;rintro _ _ ⟨_,rfl,rfl,_⟩;refine⟨_,rfl,?_⟩)|(refine(blockable_ok _ _ (by omega)).mono ?_;rintro _ _ ⟨_,rfl,_,_⟩;refine⟨_,rfl,?_⟩)|(refine(textable_ok _ _ (by omega)).mono ?_;rintro _ _ ⟨_,rfl,rfl,_⟩;refine⟨_,rfl,?_⟩)))<;>(refine rkI ⟨_,rfl,by first|exact ext2|exact ext2.trans ‹_›,fun hb=>⟨hal,?_⟩⟩)<;>(try simp only[bytes_beq,Bool.not_eq_true',decide_eq_false_iff_not,beq_iff_eq,beq_eq_false_iff_ne,Bool.false_eq_true,ne_eq] at*)<;>(first|contradiction|exact(BodyP.fragment hk (by simp[*]) (by simp[*]) (by simp[*]) (by simp[*]))|skip)
 refine fkI (fun hk=>?_) (fun _=>?_)
 ·(repeat' (first|refine fkI (fun _=>?_) (fun _=>?_)|refine⟨_,lcO hb2 rfl,?_⟩|(refine(IsName_ok _ _ (by assumption)).mono ?_;rintro _ _ ⟨_,rfl,rfl,_⟩;refine⟨_,rfl,?_⟩)|(refine(blockable_ok _ _ (by omega)).mono ?_;rintro _ _ ⟨_,rfl,_,_⟩;refine⟨_,rfl,?_⟩)|(refine(textable_ok _ _ (by omega)).mono ?_;rintro _ _ ⟨_,rfl,rfl,_⟩;refine⟨_,rfl,?_⟩)))<;>(refine rkI ⟨_,rfl,by first|exact ext2|exact ext2.trans ‹_›,fun hb=>⟨hal,?_⟩⟩)<;>(try simp only[bytes_beq,Bool.not_eq_true',decide_eq_true_eq,decide_eq_false_iff_not,beq_iff_eq,beq_eq_false_iff_ne,Bool.false_eq_true,ne_eq] at*)<;>(first|contradiction|exact(BodyP.spread hk (by simp[*]) (by simp[*]) (by simp[*]) (by simp[*]))|skip)
 refine fkI (fun hk=>?_) (fun _=>?_)
 ·(repeat' (first|refine fkI (fun _=>?_) (fun _=>?_)|refine⟨_,lcO hb2 rfl,?_⟩|(refine(IsName_ok _ _ (by assumption)).mono ?_;rintro _ _ ⟨_,rfl,rfl,_⟩;refine⟨_,rfl,?_⟩)|(refine(blockable_ok _ _ (by omega)).mono ?_;rintro _ _ ⟨_,rfl,_,_⟩;refine⟨_,rfl,?_⟩)|(refine(textable_ok _ _ (by omega)).mono ?_;rintro _ _ ⟨_,rfl,rfl,_⟩;refine⟨_,rfl,?_⟩)))<;>(refine rkI ⟨_,rfl,by first|exact ext2|exact ext2.trans ‹_›,fun hb=>⟨hal,?_⟩⟩)<;>(try simp only[bytes_beq,decide_eq_true_eq,decide_eq_false_iff_not,beq_iff_eq,beq_eq_false_iff_ne,Bool.false_eq_true,ne_eq] at*)<;>(first|contradiction|exact(BodyP.inline hk (by simp[*]) (by simp[*]) (by simp[*]))|skip)
 refine fkI (fun hk=>?_) (fun _=>?_)
 ·have hk':n.kind=12:=by simpa using hk
  have no: ∀H',Ext [] H H'→retK (some [.bool false]) H' fun v H'=> ∃b,v= .bool b∧Ext [] H H'∧(b=true→FormedP n):=fun H' he=>rkI ⟨false,rfl,he,by simp⟩
  refine⟨_,lcO hb2 rfl,?_⟩
  refine fkI (fun g1=>?_) (fun _=>no _ ext2)
  refine⟨_,lcO hb2 rfl,?_⟩
  refine fkI (fun g2=>?_) (fun _=>no _ ext2)
  refine⟨_,lcO hb2 rfl,?_⟩
  refine⟨_,lcO hb2 rfl,?_⟩
  dsimp only
  have e:IntKind.i64.wrap (IntKind.i64.wrap (16+n.kind) -12)=n.kind+4:=by rw[hk'];rfl
  rw[e]
  refine(IsNumber_ok _ _ _ (by omega) (by omega)).mono ?_
  rintro _ _ ⟨_,rfl,he,hb⟩
  refine⟨_,rfl,rkI ⟨_,rfl,ext2.trans he,fun h=>⟨hal,BodyP.number (by omega) ?_ (by simpa using g2) (hb h)⟩⟩⟩
  rw[bytes_beq] at g1
  exact of_decide_eq_true g1
 refine fkI (fun hk=>?_) (fun _=>?_)
 ·have hk':n.kind=13:=by simpa using hk
  have no: ∀H',Ext [] H H'→retK (some [.bool false]) H' fun v H'=> ∃b,v= .bool b∧Ext [] H H'∧(b=true→FormedP n):=fun H' he=>rkI ⟨false,rfl,he,by simp⟩
  refine⟨_,lcO hb2 rfl,?_⟩
  refine fkI (fun g1=>?_) (fun _=>no _ ext2)
  refine⟨_,lcO hb2 rfl,?_⟩
  refine fkI (fun g2=>?_) (fun _=>no _ ext2)
  refine⟨_,lcO hb2 rfl,?_⟩
  refine⟨_,lcO hb2 rfl,?_⟩
  dsimp only
  have e:IntKind.i64.wrap (IntKind.i64.wrap (16+n.kind) -12)=n.kind+4:=by rw[hk'];rfl
  rw[e]
  refine(IsNumber_ok _ _ _ (by omega) (by omega)).mono ?_
  rintro _ _ ⟨_,rfl,he,hb⟩
  refine⟨_,rfl,rkI ⟨_,rfl,ext2.trans he,fun h=>⟨hal,BodyP.number (by omega) ?_ (by simpa using g2) (hb h)⟩⟩⟩
  rw[bytes_beq] at g1
  exact of_decide_eq_true g1
 refine fkI (fun hk=>?_) (fun _=>?_)
 ·(repeat' (first|refine fkI (fun _=>?_) (fun _=>?_)|refine⟨_,lcO hb2 rfl,?_⟩|(refine(IsName_ok _ _ (by assumption)).mono ?_;rintro _ _ ⟨_,rfl,rfl,_⟩;refine⟨_,rfl,?_⟩)|(refine(blockable_ok _ _ (by omega)).mono ?_;rintro _ _ ⟨_,rfl,_,_⟩;refine⟨_,rfl,?_⟩)|(refine(textable_ok _ _ (by omega)).mono ?_;rintro _ _ ⟨_,rfl,rfl,_⟩;refine⟨_,rfl,?_⟩)))<;>(refine rkI ⟨_,rfl,by first|exact ext2|exact ext2.trans ‹_›,fun hb=>⟨hal,?_⟩⟩)<;>(try simp only[bytes_beq,decide_eq_true_eq,decide_eq_false_iff_not,beq_iff_eq,beq_eq_false_iff_ne,Bool.false_eq_true,ne_eq] at*)<;>(first|contradiction|exact(BodyP.string (by omega) (by simp[*]) (by simp_all))|skip)
 refine fkI (fun hk=>?_) (fun _=>?_)
 ·(repeat' (first|refine fkI (fun _=>?_) (fun _=>?_)|refine⟨_,lcO hb2 rfl,?_⟩|(refine(IsName_ok _ _ (by assumption)).mono ?_;rintro _ _ ⟨_,rfl,rfl,_⟩;refine⟨_,rfl,?_⟩)|(refine(blockable_ok _ _ (by omega)).mono ?_;rintro _ _ ⟨_,rfl,_,_⟩;refine⟨_,rfl,?_⟩)|(refine(textable_ok _ _ (by omega)).mono ?_;rintro _ _ ⟨_,rfl,rfl,_⟩;refine⟨_,rfl,?_⟩)))<;>(refine rkI ⟨_,rfl,by first|exact ext2|exact ext2.trans ‹_›,fun hb=>⟨hal,?_⟩⟩)<;>(try simp only[bytes_beq,decide_eq_true_eq,decide_eq_false_iff_not,beq_iff_eq,beq_eq_false_iff_ne,Bool.false_eq_true,ne_eq] at*)<;>(first|contradiction|exact(BodyP.string (by omega) (by simp[*]) (by simp_all))|skip)
 refine fkI (fun hk=>?_) (fun _=>?_)
 ·(repeat' (first|refine fkI (fun _=>?_) (fun _=>?_)|refine⟨_,lcO hb2 rfl,?_⟩|(refine(IsName_ok _ _ (by assumption)).mono ?_;rintro _ _ ⟨_,rfl,rfl,_⟩;refine⟨_,rfl,?_⟩)|(refine(blockable_ok _ _ (by omega)).mono ?_;rintro _ _ ⟨_,rfl,_,_⟩;refine⟨_,rfl,?_⟩)|(refine(textable_ok _ _ (by omega)).mono ?_;rintro _ _ ⟨_,rfl,rfl,_⟩;refine⟨_,rfl,?_⟩)))<;>(refine rkI ⟨_,rfl,by first|exact ext2|exact ext2.trans ‹_›,fun hb=>⟨hal,?_⟩⟩)<;>(try simp only[bytes_beq,decide_eq_true_eq,decide_eq_false_iff_not,beq_iff_eq,beq_eq_false_iff_ne,Bool.false_eq_true,ne_eq] at*)<;>(first|contradiction|exact(BodyP.boolean hk (by simp[*]) (by simp[*]) (by simp[*]))|skip)
 refine fkI (fun hk=>?_) (fun _=>?_)
 ·(repeat' (first|refine fkI (fun _=>?_) (fun _=>?_)|refine⟨_,lcO hb2 rfl,?_⟩|(refine(IsName_ok _ _ (by assumption)).mono ?_;rintro _ _ ⟨_,rfl,rfl,_⟩;refine⟨_,rfl,?_⟩)|(refine(blockable_ok _ _ (by omega)).mono ?_;rintro _ _ ⟨_,rfl,_,_⟩;refine⟨_,rfl,?_⟩)|(refine(textable_ok _ _ (by omega)).mono ?_;rintro _ _ ⟨_,rfl,rfl,_⟩;refine⟨_,rfl,?_⟩)))<;>(refine rkI ⟨_,rfl,by first|exact ext2|exact ext2.trans ‹_›,fun hb=>⟨hal,?_⟩⟩)<;>(try simp only[bytes_beq,Bool.not_eq_true',decide_eq_true_eq,decide_eq_false_iff_not,beq_iff_eq,beq_eq_false_iff_ne,Bool.false_eq_true,ne_eq] at*)<;>(first|contradiction|exact(BodyP.enum (by omega) (by simp_all) (by simp_all) (by simp_all) (by simp_all) (by simp_all) (by simp_all))|skip)
 refine fkI (fun hk=>?_) (fun _=>?_)
 ·(repeat' (first|refine fkI (fun _=>?_) (fun _=>?_)|refine⟨_,lcO hb2 rfl,?_⟩|(refine(IsName_ok _ _ (by assumption)).mono ?_;rintro _ _ ⟨_,rfl,rfl,_⟩;refine⟨_,rfl,?_⟩)|(refine(blockable_ok _ _ (by omega)).mono ?_;rintro _ _ ⟨_,rfl,_,_⟩;refine⟨_,rfl,?_⟩)|(refine(textable_ok _ _ (by omega)).mono ?_;rintro _ _ ⟨_,rfl,rfl,_⟩;refine⟨_,rfl,?_⟩)))<;>(refine rkI ⟨_,rfl,by first|exact ext2|exact ext2.trans ‹_›,fun hb=>⟨hal,?_⟩⟩)<;>(try simp only[bytes_beq,Bool.not_eq_true',decide_eq_true_eq,decide_eq_false_iff_not,beq_iff_eq,beq_eq_false_iff_ne,Bool.false_eq_true,ne_eq] at*)<;>(first|contradiction|exact(BodyP.enum (by omega) (by simp_all) (by simp_all) (by simp_all) (by simp_all) (by simp_all) (by simp_all))|skip)
 refine fkI (fun hk=>?_) (fun _=>?_)
 ·(repeat' (first|refine fkI (fun _=>?_) (fun _=>?_)|refine⟨_,lcO hb2 rfl,?_⟩|(refine(IsName_ok _ _ (by assumption)).mono ?_;rintro _ _ ⟨_,rfl,rfl,_⟩;refine⟨_,rfl,?_⟩)|(refine(blockable_ok _ _ (by omega)).mono ?_;rintro _ _ ⟨_,rfl,_,_⟩;refine⟨_,rfl,?_⟩)|(refine(textable_ok _ _ (by omega)).mono ?_;rintro _ _ ⟨_,rfl,rfl,_⟩;refine⟨_,rfl,?_⟩)))<;>(refine rkI ⟨_,rfl,by first|exact ext2|exact ext2.trans ‹_›,fun hb=>⟨hal,?_⟩⟩)<;>(try simp only[bytes_beq,decide_eq_true_eq,decide_eq_false_iff_not,beq_iff_eq,beq_eq_false_iff_ne,Bool.false_eq_true,ne_eq] at*)<;>(first|contradiction|exact(BodyP.operationType hk (by unfold OpWord;simp[*]) (by simp_all) (by simp_all))|skip)
 (repeat' (first|refine fkI (fun _=>?_) (fun _=>?_)|refine⟨_,lcO hb2 rfl,?_⟩|(refine(IsName_ok _ _ (by assumption)).mono ?_;rintro _ _ ⟨_,rfl,rfl,_⟩;refine⟨_,rfl,?_⟩)|(refine(blockable_ok _ _ (by omega)).mono ?_;rintro _ _ ⟨_,rfl,_,_⟩;refine⟨_,rfl,?_⟩)|(refine(textable_ok _ _ (by omega)).mono ?_;rintro _ _ ⟨_,rfl,rfl,_⟩;refine⟨_,rfl,?_⟩)))<;>(refine rkI ⟨_,rfl,by first|exact ext2|exact ext2.trans ‹_›,fun hb=>⟨hal,?_⟩⟩)<;>(try simp only[bytes_beq,decide_eq_true_eq,decide_eq_false_iff_not,beq_iff_eq,beq_eq_false_iff_ne,Bool.false_eq_true,ne_eq] at*)<;>(first|contradiction|exact(BodyP.name (by omega) (by simp_all) (by simp_all) (by simp_all))|skip)
inductive Tr where
 |node (n:Nd) (ks:List Tr)
def Tr.n:Tr→Nd
 | .node n _=>n
def Tr.ks:Tr→List Tr
 | .node _ ks=>ks
mutual
def flat:Tr→List Nd
 | .node n ks=>n::flatL ks
def flatL:List Tr→List Nd
 |[]=> []
 |t::r=>flat t++flatL r
end
mutual
def Ws:Tr→Prop
 | .node n ks=>n.size=((1+(flatL ks).length:Nat):Int)∧WsL ks
def WsL:List Tr→Prop
 |[]=>True
 |t::r=>Ws t∧WsL r
end
mutual
def preT:Tr→List Tr
 | .node n ks=> .node n ks::preL ks
def preL:List Tr→List Tr
 |[]=> []
 |t::r=>preT t++preL r
end
def At (ds:List Nd) (p:Nat) (l:List Nd):Prop:= ∃post,ds.drop p=l++post
theorem At.le {ds l:List Nd} {p:Nat} (h:At ds p l) (hp:p≤ds.length):p+l.length≤ds.length:=by
 obtain⟨post,h⟩:=h
 have:=congrArg List.length h
 simp at this;omega
theorem At.le' {ds l:List Nd} {p:Nat} (h:At ds p l) (hl:l≠ []):p+l.length≤ds.length:=by
 obtain⟨post,h⟩:=h
 have:=congrArg List.length h
 have:0<l.length:=List.length_pos_iff.2 hl
 simp at*;omega
theorem At.left {ds a b:List Nd} {p:Nat} (h:At ds p (a++b)):At ds p a:=by
 obtain⟨post,h⟩:=h;exact⟨b++post,by rw[h,List.append_assoc]⟩
theorem At.right {ds a b:List Nd} {p:Nat} (h:At ds p (a++b)):At ds (p+a.length) b:=by
 obtain⟨post,h⟩:=h
 refine⟨post,?_⟩
 rw[←List.drop_drop,h,List.append_assoc,List.drop_left]
theorem At.head {ds l:List Nd} {n:Nd} {p:Nat} (h:At ds p (n::l)):ds[p]?=some n:=by
 obtain⟨post,h⟩:=h
 have:(ds.drop p)[0]?=some n:=by rw[h];rfl
 simpa using this
theorem At.tail {ds l:List Nd} {n:Nd} {p:Nat} (h:At ds p (n::l)):At ds (p+1) l:=by
 have:At ds p ([n]++l):=h
 exact this.right
theorem At.root {ds:List Nd} {t:Tr} {p:Nat} (h:At ds p (flat t)):ds[p]?=some t.n:=by
 cases t with|node n ks=>simp only[flat] at h;exact h.head
theorem At.kids {ds:List Nd} {n:Nd} {ks:List Tr} {p:Nat} (h:At ds p (flat (.node n ks))):At ds (p+1) (flatL ks):=by
 simp only[flat] at h;exact h.tail
theorem At.trans {ds a b:List Nd} {p q:Nat} (h:At ds p a) (k:At a q b) (hq:q≤a.length):At ds (p+q) b:=by
 obtain⟨x,hx⟩:=h
 obtain⟨y,hy⟩:=k
 refine⟨y++x,?_⟩
 rw[←List.drop_drop,hx,List.drop_append_of_le_length hq,hy,List.append_assoc]
theorem flat_pos (t:Tr):0<(flat t).length:=by cases t;simp[flat]
theorem flat_ne (t:Tr):flat t≠ []:=by cases t;simp[flat]
theorem flat_len (n:Nd) (ks:List Tr):(flat (.node n ks)).length=1+(flatL ks).length:=by simp[flat];omega
theorem Ws.size {t:Tr} (h:Ws t):t.n.size=((flat t).length:Nat):=by
 cases t with|node n ks=>simp only[Ws] at h;simp only[flat_len];exact h.1
theorem Ws.kids {t:Tr} (h:Ws t):WsL t.ks:=by
 cases t with|node n ks=>simp only[Ws] at h;exact h.2
theorem WsL.mem {l:List Tr} (h:WsL l): ∀t∈l,Ws t:=by
 induction l with
 |nil=>simp
 |cons a r ih=>
  simp only[WsL] at h
  intro t ht
  rcases List.mem_cons.1 ht with rfl|ht
  ·exact h.1
  ·exact ih h.2 t ht
theorem flatL_append (a b:List Tr):flatL (a++b)=flatL a++flatL b:=by
 induction a with
 |nil=>simp[flatL]
 |cons x r ih=>simp[flatL,ih]
theorem WsL_append {a b:List Tr}:WsL (a++b)↔WsL a∧WsL b:=by
 induction a with
 |nil=>simp[WsL]
 |cons x r ih=>simp[WsL,ih,and_assoc]
mutual
theorem preT_len: ∀t:Tr,(preT t).length=(flat t).length
 | .node n ks=>by simp[preT,flat,preL_len ks]
theorem preL_len: ∀l:List Tr,(preL l).length=(flatL l).length
 |[]=>rfl
 |t::r=>by simp[preL,flatL,preT_len t,preL_len r]
end
mutual
theorem preT_at: ∀(t:Tr) (i:Nat) (u:Tr),(preT t)[i]?=some u→At (flat t) i (flat u)
 | .node n ks,0,u,h=>by
  simp[preT] at h;subst h;exact⟨[],by simp⟩
 | .node n ks,i+1,u,h=>by
  simp only[preT,List.getElem?_cons_succ] at h
  obtain⟨post,hp⟩:=preL_at ks i u h
  exact⟨post,by simp only[flat,List.drop_succ_cons];exact hp⟩
theorem preL_at: ∀(l:List Tr) (i:Nat) (u:Tr),(preL l)[i]?=some u→At (flatL l) i (flat u)
 |[],i,u,h=>by simp[preL] at h
 |t::r,i,u,h=>by
  simp only[preL] at h
  by_cases hi:i<(preT t).length
  ·rw[List.getElem?_append_left hi] at h
   obtain⟨post,hp⟩:=preT_at t i u h
   refine⟨post++flatL r,?_⟩
   rw[preT_len] at hi
   simp only[flatL]
   rw[List.drop_append_of_le_length (by omega),hp,List.append_assoc]
  ·rw[List.getElem?_append_right (by omega)] at h
   obtain⟨post,hp⟩:=preL_at r _ u h
   rw[preT_len] at hi hp
   refine⟨post,?_⟩
   simp only[flatL]
   rw[←hp,List.drop_append,List.drop_eq_nil_of_le (by omega)]
   simp
end
mutual
theorem preT_ws: ∀(t:Tr),Ws t→ ∀u∈preT t,Ws u
 | .node n ks,h,u,hu=>by
  simp only[preT,List.mem_cons] at hu
  rcases hu with rfl|hu
  ·exact h
  ·simp only[Ws] at h;exact preL_ws ks h.2 u hu
theorem preL_ws: ∀(l:List Tr),WsL l→ ∀u∈preL l,Ws u
 |[],_,u,hu=>by simp[preL] at hu
 |t::r,h,u,hu=>by
  simp only[WsL] at h
  simp only[preL,List.mem_append] at hu
  rcases hu with hu|hu
  ·exact preT_ws t h.1 u hu
  ·exact preL_ws r h.2 u hu
end
theorem preT_self (t:Tr):t∈preT t:=by cases t;simp[preT]
theorem preL_mem {l:List Tr} {t:Tr} (h:t∈l): ∀u∈preT t,u∈preL l:=by
 induction l with
 |nil=>simp at h
 |cons a r ih=>
  intro u hu
  simp only[preL,List.mem_append]
  rcases List.mem_cons.1 h with rfl|h
  ·exact .inl hu
  ·exact .inr (ih h u hu)
theorem preT_kid {t k:Tr} (h:k∈t.ks): ∀u∈preT k,u∈preT t:=by
 cases t with|node n ks=>
 intro u hu
 simp only[preT,List.mem_cons]
 exact .inr (preL_mem h u hu)
mutual
theorem flat_pre: ∀t:Tr,flat t=(preT t).map Tr.n
 | .node n ks=>by simp[flat,preT,Tr.n,flatL_pre ks]
theorem flatL_pre: ∀l:List Tr,flatL l=(preL l).map Tr.n
 |[]=>rfl
 |t::r=>by simp[flatL,preL,flat_pre t,flatL_pre r]
end
inductive PosL (ds:List Nd):List Nat→List Tr→Prop
 |nil:PosL ds [] []
 |cons {p:Nat} {t:Tr} {ps:List Nat} {l:List Tr}:At ds p (flat t)→Ws t→PosL ds ps l→PosL ds (p::ps) (t::l)
theorem PosL.length {ds:List Nd} {ps:List Nat} {l:List Tr} (h:PosL ds ps l):ps.length=l.length:=by
 induction h with
 |nil=>rfl
 |cons _ _ _ ih=>simp[ih]
theorem PosL.snoc {ds:List Nd} {ps:List Nat} {l:List Tr} (h:PosL ds ps l) {p:Nat} {t:Tr} (hp:At ds p (flat t)) (hw:Ws t):PosL ds (ps++[p]) (l++[t]):=by
 induction h with
 |nil=>exact .cons hp hw .nil
 |cons a w _ ih=>exact .cons a w ih
theorem PosL.get {ds:List Nd} {ps:List Nat} {l:List Tr} (h:PosL ds ps l): ∀i (hi:i<l.length),∃p,ps[i]?=some p∧At ds p (flat l[i])∧Ws l[i]:=by
 induction h with
 |nil=>intro i hi;simp at hi
 |cons a w _ ih=>
  intro i hi
  cases i with
  |zero=>exact⟨_,rfl,a,w⟩
  |succ i=>simpa using ih i (by simpa using hi)
def SlcAt (H:Heap) (a:Option Addr) (n:Nat) (vs:List Value):Prop:=
 n=vs.length∧(n=0∨ ∃g o c e fr,a=some ⟨g,o,none⟩∧H[g]?=some (.cells c e fr)∧ ∀i s,vs[i]?=some s→c[o+i]?=some s)
theorem SlcAt.ext {S:List Nat} {H H':Heap} {a:Option Addr} {n:Nat} {vs:List Value} (h:SlcAt H a n vs) (he:Ext S H H') (hs: ∀r,rowOf a=some r→r∉S):SlcAt H' a n vs:=by
 refine⟨h.1,h.2.imp id ?_⟩
 rintro⟨g,o,c,e,fr,rfl,hg,hr⟩
 exact⟨g,o,c,e,fr,rfl,he.get _ _ hg (hs g rfl),hr⟩
theorem SlcAt.load {H:Heap} {a:Option Addr} {n:Nat} {vs:List Value} (h:SlcAt H a n vs) {i:Nat} {v:Value} (hi:vs[i]?=some v):
 IxOk a (i:Int) n∧loadC H false 1 ⟨blkOf a,offOf a+(i:Int).toNat*1,none⟩=some v:=by
 have hlt:=(List.getElem?_eq_some_iff.1 hi).1
 rcases h.2 with h0|⟨g,o,c,e,fr,rfl,hg,hr⟩
 ·have:=h.1;omega
 ·refine⟨ix_some (by omega) (by have:=h.1;omega),?_⟩
  have:=hr i v hi
  simp only[blkOf,offOf,loadC,cellAt,hg]
  have e:(i:Int).toNat*1=i:=by omega
  rw[e];simpa using this
theorem SlcAt.of_own {H:Heap} {e:TypeId} {a:Option Addr} {n c:Nat} {vs:List Value} (h:OwnS H e 1 a n c vs):SlcAt H a n vs:=by
 have hl:n=vs.length:=by have:=h.1;omega
 refine⟨hl,?_⟩
 rcases h.2 with⟨_,h0,_⟩|⟨g,cur,rfl,hg,_,_,_,ht⟩
 ·exact .inl h0
 ·refine .inr ⟨g,0,cur,e,(0,0),rfl,hg,fun i s hi=>?_⟩
  have hlt:=(List.getElem?_eq_some_iff.1 hi).1
  have h2:(cur.toList.take (n*1))[i]?=some s:=by rw[ht];exact hi
  rw[List.getElem?_take,if_pos (by omega)] at h2
  simpa using h2
theorem SlcAt.slice_lo {H:Heap} {a:Option Addr} {n c:Nat} {e:Value} {vs:List Value} (h:SlcAt H a n (e::vs)) (hc:n≤c):SlcAt H (slcA a c 1 1) (n -1) vs:=by
 have hl:=h.1
 refine⟨by simp at hl;omega,?_⟩
 rcases h.2 with h0|⟨g,o,cs,e',fr,rfl,hg,hr⟩
 ·simp at hl;omega
 ·by_cases hc1:c=1
  ·left;omega
  ·right
   refine⟨g,o+1,cs,e',fr,by simp[slcA,slcO,hc1],hg,fun i s hi=>?_⟩
   have:=hr (i+1) s (by simpa using hi)
   rw[show o+1+i=o+(i+1) by omega];exact this
theorem rowOf_slcA (a:Option Addr) (c l s:Nat):rowOf (slcA a c l s)=rowOf a:=by
 unfold slcA;split
 ·rfl
 ·rename_i x _
  show some (if c=l then x else x.add (l*s)).block=some x.block
  split
  ·rfl
  ·unfold Addr.add;split<;>rfl
 ·rfl
def intL (ps:List Nat):List Value:=ps.map fun p:Nat=> .int .i64 ((p:Nat):Int)
theorem NodesAt.size {H:Heap} {b o:Nat} {ds:List Nd} (h:NodesAt H b o ds) {i:Nat} {n:Nd} (hi:ds[i]?=some n):loadC H false 1 ⟨b,((o+(i:Int).toNat*6)+5),none⟩=some (.int .i64 n.size):=by
 have:=h.fld hi 5 (by decide);simpa [Nd.val] using this
theorem NodesAt.kind {H:Heap} {b o:Nat} {ds:List Nd} (h:NodesAt H b o ds) {i:Nat} {n:Nd} (hi:ds[i]?=some n):loadC H false 1 ⟨b,(o+(i:Int).toNat*6),none⟩=some (.int .i64 n.kind):=by
 have:=h.fld hi 0 (by decide);simpa [Nd.val] using this
structure Doc (H:Heap) (b o n:Nat) (ds:List Nd):Prop where
 nodes:NodesAt H b o ds
 len:n=ds.length
 lt:n<2147483648
theorem Doc.ext {S:List Nat} {H H':Heap} {b o n:Nat} {ds:List Nd} (h:Doc H b o n ds) (he:Ext S H H') (hb:b∉S):Doc H' b o n ds:=⟨h.nodes.ext he hb,h.len,h.lt⟩
theorem Doc.below {H:Heap} {b o n:Nat} {ds:List Nd} (h:Doc H b o n ds):b<H.size:=by
 obtain⟨c,e,fr,hc,_⟩:=h.nodes;exact lt_of_get hc
theorem Kids_ok (b o n c:Nat) (ds:List Nd) (H:Heap) (h:Doc H b o n ds) (i:Nat) (t:Tr) (ht:At ds i (flat t)) (hw:Ws t):
 Fn PP fq26 #[.slice (some ⟨b,o,none⟩) n c,.int .i64 i] H fun v H'=> ∃a m k ps,v= .slice a m k∧Fresh H H' tq3 1 a m k (intL ps)∧PosL ds ps t.ks:=by
 refine Kids.enter b o n c i H _ ?_
 unfold Kids.W
 obtain⟨nd,ks⟩:=t
 have hi:=ht.root
 have hle:=ht.le' (flat_ne _)
 have hsz:=hw.size
 rw[flat_len] at hle hsz
 have hn:=h.len
 have hlt:=h.lt
 simp only[Tr.n] at hi hsz
 rw[wrap1 (by omega)]
 refine⟨fun z H'=> ∃ps l1 l2,Fresh H H' tq3 1 z.1.1 z.1.2.1 z.1.2.2 (intL ps)∧ks=l1++l2∧PosL ds ps l1∧z.2.1=((i+1+(flatL l1).length:Nat):Int)∧WsL l2∧At ds (i+1+(flatL l1).length) (flatL l2),
  fun z _=>i+1+(flatL ks).length -z.2.1.toNat,⟨[],[],ks,Fresh.nil H tq3 1,rfl,.nil,rfl,hw.kids,ht.kids⟩,?_⟩
 rintro⟨⟨a,m,k⟩,_,_⟩ H2 ⟨ps,l1,l2,hf,hks,hp,hz,hw2,h2⟩
 dsimp only at hf hz⊢
 subst hz
 have hD:=h.ext hf.ext (by simp)
 have hfl:(flatL ks).length=(flatL l1).length+(flatL l2).length:=by rw[hks,flatL_append,List.length_append]
 refine⟨ix_some (by omega) (by omega),_,hD.nodes.size hi,?_⟩
 have hw1:IntKind.i64.wrap ((i:Int)+nd.size)=((i+1+(flatL ks).length:Nat):Int):=by rw[hsz,i64w (by omega)];omega
 dsimp only
 rw[hw1]
 have hm:m=l1.length:=by rw[←hp.length];have:=hf.own.1;simp[intL] at this;omega
 have hl1:l1.length≤(flatL l1).length:=by
  clear hks hp h2 hfl hw1 hm hf
  induction l1 with
  |nil=>simp
  |cons x r ih=>simp only[flatL,List.length_cons,List.length_append];have:=flat_pos x;omega
 cases l2 with
 |nil=>
  refine fkI (fun hlt=>?_) (fun _=>rkI ⟨a,m,k,ps,rfl,hf,by rw[show(Tr.node nd ks).ks=ks from rfl,hks,List.append_nil];exact hp⟩)
  simp only[flatL,List.length_nil] at hfl
  simp at hlt;omega
 |cons u l2=>
  simp only[flatL,WsL] at h2 hw2 hfl
  rw[List.length_append] at hfl
  have hup:=flat_pos u
  refine fkI (fun _=>?_) (fun hge=>?_)
  ·refine nbI fun H4 e4 hb4 ext4 hs4=>?_
   refine(hf.grow ext4).append hb4 rfl (by simp[Value.oneCell']) (by omega) (by omega) ?_
   intro a' c' H7 hf7 _ _
   have hD7:=h.ext hf7.ext (by simp)
   have hu:=h2.left
   have hule:=hu.le' (flat_ne _)
   refine⟨ix_some (by omega) (by omega),_,hD7.nodes.size hu.root,?_⟩
   have hus:=hw2.1.size
   have hw3:IntKind.i64.wrap (((i+1+(flatL l1).length:Nat):Int)+u.n.size)=((i+1+(flatL (l1++[u])).length:Nat):Int):=by
    rw[hus,i64w (by omega),flatL_append];simp[flatL];omega
   dsimp only
   rw[hw3]
   have hfu:(flatL (l1++[u])).length=(flatL l1).length+(flat u).length:=by rw[flatL_append];simp[flatL]
   refine⟨⟨ps++[i+1+(flatL l1).length],l1++[u],l2,?_,by rw[hks];simp,hp.snoc hu hw2.1,rfl,hw2.2,?_⟩,by omega⟩
   ·have:intL (ps++[i+1+(flatL l1).length])=intL ps++ #[Value.int .i64 ((i+1+(flatL l1).length:Nat):Int)].toList:=by simp[intL]
    rw[this];exact hf7
   ·have:=h2.right
    rw[hfu]
    rw[show i+1+((flatL l1).length+(flat u).length)=i+1+(flatL l1).length+(flat u).length by omega]
    exact this
  ·simp at hge;omega
theorem fixedAt_ok (b o n c:Nat) (ds:List Nd) (H:Heap) (h:Doc H b o n ds) (i:Nat) (t:Tr) (ht:At ds i (flat t)) (hw:Ws t):
 Fn PP fq57 #[.slice (some ⟨b,o,none⟩) n c,.int .i64 i] H fun v H'=> ∃r,v= .bool r∧H=H'∧(r=true→ ∀m∈flat t,m.kind≠11):=by
 refine fixedAt.enter b o n c i H _ ?_
 unfold fixedAt.W
 have hi:=ht.root
 have hle:=ht.le' (flat_ne _)
 have hsz:=hw.size
 have hn:=h.len
 have hlt:=h.lt
 have hpos:=flat_pos t
 refine⟨fun z H'=>H=H'∧ ∃k:Nat,z.1=((i+k:Nat):Int)∧k≤(flat t).length∧ ∀j,j<k→ ∀m,(flat t)[j]?=some m→m.kind≠11,fun z _=>i+(flat t).length -z.1.toNat,
  ⟨rfl,0,rfl,Nat.zero_le _,fun j hj=>by omega⟩,?_⟩
 rintro⟨_,_⟩ _ ⟨rfl,k,hk,hkl,hj⟩
 dsimp only at hk⊢
 subst hk
 refine⟨ix_some (by omega) (by omega),_,h.nodes.size hi,?_⟩
 have hw1:IntKind.i64.wrap ((i:Int)+t.n.size)=((i+(flat t).length:Nat):Int):=by rw[hsz,i64w (by omega)];omega
 dsimp only
 rw[hw1]
 refine fkI (fun hlt2=>?_) (fun hge=>?_)
 ·have hk':k<(flat t).length:=by simp at hlt2;omega
  have hm:ds[i+k]?=some (flat t)[k]:=by
   obtain⟨post,hp⟩:=ht
   have:(ds.drop i)[k]?=some (flat t)[k]:=by rw[hp,List.getElem?_append_left hk',List.getElem?_eq_getElem hk']
   simpa using this
  have hmk:(flat t)[k]?=some (flat t)[k]:=List.getElem?_eq_getElem hk'
  generalize (flat t)[k]=m at hm hmk
  refine⟨ix_some (by omega) (by omega),_,h.nodes.kind hm,fkI (fun _=>rkI ⟨false,rfl,rfl,by simp⟩) (fun h11=>?_)⟩
  have h11':m.kind≠11:=by simpa using h11
  have hw2:IntKind.i64.wrap (((i+k:Nat):Int)+1)=((i+(k+1):Nat):Int):=by rw[wrap1 (by omega)];omega
  rw[hw2]
  refine⟨⟨rfl,k+1,rfl,hk',fun j hj2 m' hm'=>?_⟩,by omega⟩
  rcases Nat.lt_succ_iff_lt_or_eq.1 hj2 with h5|rfl
  ·exact hj j h5 m' hm'
  ·rw[hmk] at hm';cases hm';exact h11'
 ·have hk':k=(flat t).length:=by simp at hge;omega
  refine rkI ⟨true,rfl,rfl,fun _ m hm=>?_⟩
  obtain⟨j,hj1,hj2⟩:=List.getElem_of_mem hm
  exact hj j (by omega) m (by rw[List.getElem?_eq_getElem hj1,hj2])
def isTypeM (n:Nd):Bool:=decide (20≤n.kind)&&decide (n.kind≤22)
def isValueM (n:Nd):Bool:=decide (11≤n.kind)&&decide (n.kind≤18)
def isSelM (n:Nd):Bool:=n.kind==5
def isObjM (n:Nd):Bool:=n.kind==27
def isNullM (n:Nd):Bool:=isTypeM n&&n.kind !=22
theorem isType_ok (n:Nd) (H:Heap):Fn PP fq44 #[.agg n.val] H fun v H'=>v= .bool (isTypeM n)∧Ext [] H H':=by
 refine isType.enter n H _ ?_
 unfold isType.W
 refine nbI fun H2 _ hb2 ext2 _=>?_
 refine⟨_,lcO hb2 rfl,?_⟩
 refine fkI (fun h=>?_) (fun h=>rkI ⟨?_,ext2⟩)
 ·refine⟨_,lcO hb2 rfl,?_⟩
  exact rkI ⟨by simp only[retV,isTypeM];rw[show decide (20≤n.kind)=true from h];rfl,ext2⟩
 ·simp only[retV,isTypeM];rw[show decide (20≤n.kind)=false from h];rfl
theorem isValue_ok (n:Nd) (H:Heap):Fn PP fq45 #[.agg n.val] H fun v H'=>v= .bool (isValueM n)∧Ext [] H H':=by
 refine isValue.enter n H _ ?_
 unfold isValue.W
 refine nbI fun H2 _ hb2 ext2 _=>?_
 refine⟨_,lcO hb2 rfl,?_⟩
 refine fkI (fun h=>?_) (fun h=>rkI ⟨?_,ext2⟩)
 ·refine⟨_,lcO hb2 rfl,?_⟩
  exact rkI ⟨by simp only[retV,isValueM];rw[show decide (11≤n.kind)=true from h];rfl,ext2⟩
 ·simp only[retV,isValueM];rw[show decide (11≤n.kind)=false from h];rfl
theorem isSel_ok (n:Nd) (H:Heap):Fn PP fq56 #[.agg n.val] H fun v H'=>v= .bool (isSelM n)∧Ext [] H H':=by
 refine isSelections.enter n H _ ?_
 unfold isSelections.W
 refine nbI fun H2 _ hb2 ext2 _=>?_
 refine⟨_,lcO hb2 rfl,?_⟩
 exact rkI ⟨rfl,ext2⟩
theorem isObj_ok (n:Nd) (H:Heap):Fn PP fq83 #[.agg n.val] H fun v H'=>v= .bool (isObjM n)∧Ext [] H H':=by
 refine isObject.enter n H _ ?_
 unfold isObject.W
 refine nbI fun H2 _ hb2 ext2 _=>?_
 refine⟨_,lcO hb2 rfl,?_⟩
 exact rkI ⟨rfl,ext2⟩
theorem isNull_ok (n:Nd) (H:Heap):Fn PP fq59 #[.agg n.val] H fun v H'=>v= .bool (isNullM n)∧Ext [] H H':=by
 refine isNullable.enter n H _ ?_
 unfold isNullable.W
 refine nbI fun H2 _ hb2 ext2 _=>?_
 refine⟨(n.kind,n.name,n.alias,n.text,n.flag,n.size),lcO hb2 rfl,?_⟩
 refine(isType_ok n H2).mono ?_
 rintro _ H3 ⟨rfl,he⟩
 refine⟨_,rfl,fkI (fun h=>?_) (fun h=>rkI ⟨?_,ext2.trans he⟩)⟩
 ·refine⟨_,lcO (he.get _ _ hb2 (by simp)) rfl,?_⟩
  exact rkI ⟨by simp only[retV,isNullM];rw[h];rfl,ext2.trans he⟩
 ·simp only[retV,isNullM];rw[h];rfl
structure RowAt (H:Heap) (r:Nat) (b o n:Nat) (ds:List Nd) (l:List Tr) (some_:Nat):Prop where
 doc:Doc H b o n ds
 ne:b≠r
 row: ∃c a m k ps,H[r]?=some (.cells #[.slice (some ⟨b,o,none⟩) n c,.slice a m k,.int .i64 (some_:Int)] tq73)∧SlcAt H a m (intL ps)∧m≤k∧PosL ds ps l∧(∀g,rowOf a=some g→g≠r)
 few:some_+l.length<4294967296
theorem RowAt.mem {H:Heap} {r b o n:Nat} {ds:List Nd} {l:List Tr} {s:Nat} (h:RowAt H r b o n ds l s): ∃c e,H[r]?=some (.cells c e):=by
 obtain⟨c,a,m,k,ps,hr,_⟩:=h.row;exact⟨_,_,hr⟩
theorem RowAt.ext {H H':Heap} {r b o n:Nat} {ds:List Nd} {l:List Tr} {s:Nat} (h:RowAt H r b o n ds l s) (he:Ext [] H H'):RowAt H' r b o n ds l s:=by
 refine⟨h.doc.ext he (by simp),h.ne,?_,h.few⟩
 obtain⟨c,a,m,k,ps,hr,hs,hm,hp,hg⟩:=h.row
 exact⟨c,a,m,k,ps,he.get _ _ hr (by simp),hs.ext he (by simp),hm,hp,hg⟩
theorem Ext.newer {H0 H H':Heap} {r:Nat} (h:Ext [] H0 H) (h':Ext [r] H H') (hr:H0.size≤r):Ext [] H0 H':=
 ⟨Nat.le_trans h.size h'.size,fun k o hk hn=>h'.get _ _ (h.get _ _ hk hn) (by have:=lt_of_get hk;simp;omega)⟩
theorem rowEnd_ok {H:Heap} {r b o n:Nat} {ds:List Nd} {l:List Tr} {s:Nat} (h:RowAt H r b o n ds l s):
 Fn PP fq54 #[.pointer (some ⟨r,0,none⟩)] H fun v H'=>v= .bool (decide (l=[]))∧H=H':=by
 refine rowEnd.enter r H _ ?_
 unfold rowEnd.W
 obtain⟨c,a,m,k,ps,hr,hs,hm,hp,hg⟩:=h.row
 refine⟨(a,m,k),lcO hr rfl,rkI ⟨?_,rfl⟩⟩
 have hl:=hs.1
 have:=hp.length
 simp only[intL,List.length_map] at hl
 have hml:m=l.length:=by omega
 simp only[retV]
 congr 1
 rw[Bool.eq_iff_iff]
 rw[hml]
 cases l<;>simp
 omega
theorem rowMost_ok {H:Heap} {r b o n:Nat} {ds:List Nd} {l:List Tr} {s:Nat} (h:RowAt H r b o n ds l s):
 Fn PP fq58 #[.pointer (some ⟨r,0,none⟩)] H fun v H'=>v= .bool (decide (s≤1))∧H=H':=by
 refine rowMost.enter r H _ ?_
 unfold rowMost.W
 obtain⟨c,a,m,k,ps,hr,hs,hm,hp,hg⟩:=h.row
 refine⟨_,lcO hr rfl,?_⟩
 refine rkI ⟨?_,rfl⟩
 simp only[retV]
 congr 1
 rw[decide_eq_decide];omega
theorem RowAt.some_load {H:Heap} {r b o n:Nat} {ds:List Nd} {l:List Tr} {s:Nat} (h:RowAt H r b o n ds l s):loadC H false 1 ⟨r,2,none⟩=some (.int .i64 (s:Int)):=by
 obtain⟨c,a,m,k,ps,hr,_⟩:=h.row;exact lcO hr rfl
theorem RowAt.set {H:Heap} {r b o n:Nat} {ds:List Nd} {l l':List Tr} {s s':Nat} (h:RowAt H r b o n ds l s) {c:Nat} {a':Option Addr} {m' k':Nat} {ps':List Nat}
 (hs:SlcAt H a' m' (intL ps')) (hm:m'≤k') (hp:PosL ds ps' l') (hg: ∀g,rowOf a'=some g→g≠r) (hf:s'+l'.length<4294967296):
 RowAt (H.setIfInBounds r (.cells #[.slice (some ⟨b,o,none⟩) n c,.slice a' m' k',.int .i64 (s':Int)] tq73)) r b o n ds l' s':=by
 have e:Ext [r] H (H.setIfInBounds r (.cells #[.slice (some ⟨b,o,none⟩) n c,.slice a' m' k',.int .i64 (s':Int)] tq73)):=Ext.set (by simp) _
 obtain⟨cs,e',hr⟩:=h.mem
 refine⟨h.doc.ext e (by simpa using h.ne),h.ne,⟨c,a',m',k',ps',get_setIf _ _ _ _ hr,hs.ext e (fun g hg' hm'=>hg g hg' (by simpa using hm')),hm,hp,hg⟩,hf⟩
def rowOneG (f:FuncId) (r:Nat) (H:Heap) (R:Value→Heap→Prop):Prop:=
 loadW H false 1 ⟨r,1,none⟩ pSlc fun(x1:(Option Addr×Nat×Nat))=>
 forkB (((x1.2.1:Nat):Int)==0)
 (retK (some [(.bool false)]) H R)
 (loadW H false 1 ⟨r,0,none⟩ pSlc fun(x2:(Option Addr×Nat×Nat))=>
   loadW H false 1 ⟨r,1,none⟩ pSlc fun(x3:(Option Addr×Nat×Nat))=>
   (IxOk x3.1 0 x3.2.1)∧
   loadW H false 1 ⟨(blkOf x3.1),(offOf x3.1+(0:Int).toNat*1),none⟩ (pInt .i64) fun(x4:Int)=>
   (IxOk x2.1 x4 x2.2.1)∧
   loadW H true 6 ⟨(blkOf x2.1),(offOf x2.1+x4.toNat*6),none⟩ ⟨Int×ByteArray×ByteArray×ByteArray×Int×Int,fun x=>(.agg #[(.int .i64 x.1),(.string x.2.1),(.string x.2.2.1),(.string x.2.2.2.1),(.int .i64 x.2.2.2.2.1),(.int .i64 x.2.2.2.2.2)])⟩ fun(x5:Int×ByteArray×ByteArray×ByteArray×Int×Int)=>
   callW PP f #[(.agg #[(.int .i64 x5.1),(.string x5.2.1),(.string x5.2.2.1),(.string x5.2.2.2.1),(.int .i64 x5.2.2.2.2.1),(.int .i64 x5.2.2.2.2.2)])] H pBool fun(x6:Bool) H7=>
   loadC H7 false 1 ⟨r,1,none⟩=some (.slice x3.1 x3.2.1 x3.2.2)∧
   forkB (!x6)
   (retK (some [(.bool false)]) H7 R)
   (loadW H7 false 1 ⟨r,1,none⟩ pSlc fun(x8:(Option Addr×Nat×Nat))=>
     ((0:Int)≤1∧1≤((x8.2.1:Nat):Int))∧
     storeW H7 ⟨r,1,none⟩ [(.slice (slcA x8.1 x8.2.2 (1:Int).toNat 1) (x8.2.1 -(1:Int).toNat) (x8.2.2 -(1:Int).toNat))] fun H9=>
     retK (some [(.bool true)]) H9 R))
def OneDone (p:Nd→Bool) (H:Heap) (r b o n:Nat) (ds:List Nd) (l:List Tr) (s:Nat) (v:Value) (H':Heap):Prop:=
 (v= .bool false∧Ext [] H H')∨(v= .bool true∧Ext [r] H H'∧ ∃t l',l=t::l'∧p t.n=true∧RowAt H' r b o n ds l' s)
theorem rowOneG_ok (f:FuncId) (p:Nd→Bool) (hf: ∀n H,Fn PP f #[.agg n.val] H fun v H'=>v= .bool (p n)∧Ext [] H H')
 {H:Heap} {r b o n:Nat} {ds:List Nd} {l:List Tr} {s:Nat} (h:RowAt H r b o n ds l s):rowOneG f r H (OneDone p H r b o n ds l s):=by
 unfold rowOneG
 obtain⟨c,a,m,k,ps,hr,hs,hm,hp,hg⟩:=h.row
 have hl:=hs.1
 have hlen:=hp.length
 simp only[intL,List.length_map] at hl
 refine⟨(a,m,k),lcO hr rfl,fkI (fun _=>rkI (.inl ⟨rfl,Ext.refl _ _⟩)) (fun h0=>?_)⟩
 have h0':m≠0:=by simp at h0;omega
 refine⟨(some ⟨b,o,none⟩,n,c),lcO hr rfl,(a,m,k),lcO hr rfl,?_⟩
 cases hp with
 |nil=>simp at hl;omega
 |cons hat hw hp=>
  rename_i p0 t ps l
  have hL:=hs.load (i:=0) (v:= .int .i64 (p0:Int)) rfl
  have hroot:=hat.root
  have hle:=hat.le' (flat_ne _)
  have hpos:=flat_pos t
  have hn:=h.doc.len
  have hlt:=h.doc.lt
  refine⟨hL.1,_,hL.2,ix_some (by omega) (by dsimp only;omega),(t.n.kind,t.n.name,t.n.alias,t.n.text,t.n.flag,t.n.size),h.doc.nodes.all hroot,?_⟩
  refine(hf t.n H).mono ?_
  rintro _ H7 ⟨rfl,he⟩
  have hr7:=he.get _ _ hr (by simp)
  refine⟨_,rfl,lcO hr7 rfl,fkI (fun _=>rkI (.inl ⟨rfl,he⟩)) (fun h1=>?_)⟩
  refine⟨(a,m,k),lcO hr7 rfl,by dsimp only;omega,?_⟩
  refine swI hr7 (by simp) rfl rfl fun H9 e9 _ ext9 _=>?_
  refine rkI (.inr ⟨rfl,(Ext.of_nil he).trans ext9,t,l,rfl,by simpa using h1,?_⟩)
  rw[e9]
  have h7:=h.ext he
  have hs7:=hs.ext he (by simp)
  refine h7.set (s':=s) (c:=c) (a':=slcA a k 1 1) (m':=m -1) (k':=k -1) (ps':=ps) ?_ (by omega) hp ?_ ?_
  ·exact hs7.slice_lo hm
  ·intro g hg';rw[rowOf_slcA] at hg';exact hg g hg'
  ·have:=h.few;simp at this;omega
theorem rowOneSel_ok {H:Heap} {r b o n:Nat} {ds:List Nd} {l:List Tr} {s:Nat} (h:RowAt H r b o n ds l s):
 Fn PP fq55 #[.pointer (some ⟨r,0,none⟩),.func (.func fq56) #[] #[]] H (OneDone isSelM H r b o n ds l s):=
 rowOneSelections.enter r H _ (rowOneG_ok fq56 isSelM isSel_ok h)
theorem rowOneType_ok {H:Heap} {r b o n:Nat} {ds:List Nd} {l:List Tr} {s:Nat} (h:RowAt H r b o n ds l s):
 Fn PP fq55 #[.pointer (some ⟨r,0,none⟩),.func (.func fq44) #[] #[]] H (OneDone isTypeM H r b o n ds l s):=
 rowOneType.enter r H _ (rowOneG_ok fq44 isTypeM isType_ok h)
theorem rowOneValue_ok {H:Heap} {r b o n:Nat} {ds:List Nd} {l:List Tr} {s:Nat} (h:RowAt H r b o n ds l s):
 Fn PP fq55 #[.pointer (some ⟨r,0,none⟩),.func (.func fq45) #[] #[]] H (OneDone isValueM H r b o n ds l s):=
 rowOneValue.enter r H _ (rowOneG_ok fq45 isValueM isValue_ok h)
theorem rowOneObj_ok {H:Heap} {r b o n:Nat} {ds:List Nd} {l:List Tr} {s:Nat} (h:RowAt H r b o n ds l s):
 Fn PP fq55 #[.pointer (some ⟨r,0,none⟩),.func (.func fq83) #[] #[]] H (OneDone isObjM H r b o n ds l s):=
 rowOneObject.enter r H _ (rowOneG_ok fq83 isObjM isObj_ok h)
theorem rowOneNull_ok {H:Heap} {r b o n:Nat} {ds:List Nd} {l:List Tr} {s:Nat} (h:RowAt H r b o n ds l s):
 Fn PP fq55 #[.pointer (some ⟨r,0,none⟩),.func (.func fq59) #[] #[]] H (OneDone isNullM H r b o n ds l s):=
 rowOneNullable.enter r H _ (rowOneG_ok fq59 isNullM isNull_ok h)
def AllDone (kinds:List Int) (H:Heap) (r b o n:Nat) (ds:List Nd) (l:List Tr) (v:Value) (H':Heap):Prop:=
 v= .pointer (some ⟨r,0,none⟩)∧Ext [r] H H'∧ ∃seg l',l=seg++l'∧(∀t∈seg,t.n.kind∈kinds)∧RowAt H' r b o n ds l' seg.length
theorem rowAll_ok {H:Heap} {r b o n:Nat} {ds:List Nd} {l:List Tr} {s:Nat} (h:RowAt H r b o n ds l s) {kb:Nat} {kinds:List Int} {e:TypeId} {fr:Nat×Nat}
 (hk:H[kb]?=some (.cells (kinds.map (.int .i64 ·)).toArray e fr)) (hkr:kb≠r) {kn kc:Nat} (hkn:kn=kinds.length) (hks:kn<1000):
 Fn PP fq53 #[.pointer (some ⟨r,0,none⟩),.slice (some ⟨kb,0,none⟩) kn kc] H (AllDone kinds H r b o n ds l):=by
 refine rowAll.enter r kb 0 kn kc H _ ?_
 unfold rowAll.W
 obtain⟨c,a,m,k,ps,hr,hs,hm,hp,hg⟩:=h.row
 refine swI hr (by simp) rfl rfl fun H1 e1 hr1 ext1 _=>?_
 have h1:RowAt H1 r b o n ds l 0:=by
  rw[e1]
  exact h.set (s':=0) hs hm hp hg (by have:=h.few;omega)
 clear hr1 hs hm hp hg hr e1
 refine⟨fun _ H'=>Ext [r] H H'∧ ∃seg l',l=seg++l'∧(∀t∈seg,t.n.kind∈kinds)∧RowAt H' r b o n ds l' seg.length,
  fun _ H'=>match loadC H' false 1 ⟨r,1,none⟩ with|some (.slice _ m _)=>m|_=>0,⟨ext1,[],l,rfl,by simp,h1⟩,?_⟩
 rintro _ H3 ⟨ext3,seg,l',hl,hseg,h3⟩
 obtain⟨c,a,m,k,ps,hr,hs,hm,hp,hg⟩:=h3.row
 have hlen:=hs.1
 have hlen2:=hp.length
 simp only[intL,List.length_map] at hlen
 have done:retK (some [.pointer (some ⟨r,0,none⟩)]) H3 (AllDone kinds H r b o n ds l):=rkI ⟨rfl,ext3,seg,l',hl,hseg,h3⟩
 refine⟨(a,m,k),lcO hr rfl,fkI (fun h0=>?_) (fun _=>done)⟩
 have h0':m≠0:=by simp at h0;omega
 cases hp with
 |nil=>simp at hlen;omega
 |cons hat hw hp=>
  rename_i p0 t ps l'
  have hL:=hs.load (i:=0) (v:= .int .i64 (p0:Int)) rfl
  have hroot:=hat.root
  have hle:=hat.le' (flat_ne _)
  have hpos:=flat_pos t
  have hn:=h.doc.len
  have hlt:=h.doc.lt
  have hkc:H3[kb]?=some (.cells (kinds.map (.int .i64 ·)).toArray e fr):=ext3.get _ _ hk (by simpa using hkr)
  refine⟨fun z H'=>H3=H'∧ ∃j:Nat,z.2.1=j∧j≤kn∧(z.1=true→t.n.kind∈kinds),fun z _=>kn -z.2.1.toNat,⟨rfl,0,rfl,Nat.zero_le _,by simp⟩,?_⟩
  rintro⟨is,_,_⟩ _ ⟨rfl,j,hj,hjk,his⟩
  dsimp only at hj his⊢
  subst hj
  refine fkI (fun hlt2=>?_) (fun _=>?_)
  ·have hj':j<kinds.length:=by simp at hlt2;omega
   rw[wrap1 (by omega)]
   refine fkI (fun hi=>⟨⟨rfl,j+1,rfl,by omega,fun _=>his hi⟩,by omega⟩) (fun _=>?_)
   refine⟨(some ⟨b,o,none⟩,n,c),lcO hr rfl,(a,m,k),lcO hr rfl,hL.1,_,hL.2,ix_some (by omega) (by dsimp only;omega),_,h3.doc.nodes.kind hroot,ix_some (by omega) (by omega),?_⟩
   have hkl:loadC H3 false 1 ⟨kb,0+(j:Int).toNat*1,none⟩=some (.int .i64 kinds[j]):=by
    have e1:0+(j:Int).toNat*1=j:=by omega
    rw[e1]
    simp only[loadC,cellAt,hkc]
    simp[hj']
   refine⟨_,hkl,⟨rfl,j+1,rfl,by omega,fun he=>?_⟩,by omega⟩
   have:t.n.kind=kinds[j]:=by simpa using he
   rw[this];exact List.getElem_mem hj'
  ·refine fkI (fun _=>done) (fun hi=>?_)
   have hi':=his (by simpa using hi)
   refine⟨(a,m,k),lcO hr rfl,by dsimp only;omega,?_⟩
   refine swI hr (by simp) rfl rfl fun H9 e9 hr9 ext9 _=>?_
   refine⟨_,lcO hr9 rfl,?_⟩
   refine swI hr9 (by simp[size_writeAt]) rfl rfl fun H10 e10 hr10 ext10 _=>?_
   have hw1:IntKind.i64.wrap ((seg.length:Int)+1)=(((seg++[t]).length:Nat):Int):=by
    rw[wrap1 (by have:=h3.few;omega)];simp
   have h10:RowAt H10 r b o n ds l' (seg++[t]).length:=by
    have e:H10=H3.setIfInBounds r (.cells #[.slice (some ⟨b,o,none⟩) n c,.slice (slcA a k 1 1) (m -1) (k -1),.int .i64 ((seg++[t]).length:Int)] tq73):=by
     rw[e10,e9,←hw1]
     simp[writeAt]
    rw[e]
    refine h3.set (ps':=ps) (hs.slice_lo hm) (by omega) hp ?_ ?_
    ·intro g hg';rw[rowOf_slcA] at hg';exact hg g hg'
    ·have:=h3.few;simp at this⊢;omega
   refine⟨⟨ext3.trans (ext9.trans ext10),seg++[t],l',by rw[hl];simp,?_,h10⟩,?_⟩
   ·intro u hu
    rcases List.mem_append.1 hu with hu|hu
    ·exact hseg u hu
    ·rw[List.mem_singleton] at hu;subst hu;exact hi'
   ·rw[lcO hr10 (o:=1) (g:=false) (m:=1) (v:= .slice (slcA a k 1 1) (m -1) (k -1)) rfl,lcO hr (o:=1) (g:=false) (m:=1) (v:= .slice a m k) rfl]
    dsimp only;omega
theorem KidsOf_ok (b o n c:Nat) (ds:List Nd) (H:Heap) (h:Doc H b o n ds) (i:Nat) (t:Tr) (ht:At ds i (flat t)) (hw:Ws t) (kd:Int):
 Fn PP fq20 #[.slice (some ⟨b,o,none⟩) n c,.int .i64 i,.int .i64 kd] H fun v H'=> ∃a m k ps,v= .slice a m k∧Fresh H H' tq3 1 a m k (intL ps)∧PosL ds ps (t.ks.filter fun x=>x.n.kind==kd):=by
 refine KidsOf.enter b o n c i kd H _ ?_
 unfold KidsOf.W
 refine(Kids_ok b o n c ds H h i t ht hw).mono ?_
 rintro _ H2 ⟨a1,m1,k1,ps1,rfl,hf1,hp1⟩
 refine⟨(a1,m1,k1),rfl,?_⟩
 have hS:=SlcAt.of_own hf1.own
 have hm1:=hS.1
 simp only[intL,List.length_map] at hm1
 have hlt:=h.lt
 have hlen:=hp1.length
 have hbound:m1≤n:=by
  have h1:=ht.le' (flat_ne _)
  have h2:=h.len
  have:t.ks.length≤(flat t).length:=by
   obtain⟨nd,ks⟩:=t
   rw[flat_len]
   show ks.length≤1+(flatL ks).length
   clear hlen hp1 hw ht h1
   induction ks with
   |nil=>simp
   |cons x r ih=>simp only[flatL,List.length_cons,List.length_append];have:=flat_pos x;omega
  omega
 refine⟨fun z H'=> ∃(j:Nat) (ps:List Nat),z.2.1=j∧j≤m1∧z.1.2.1≤j∧Fresh H2 H' tq3 1 z.1.1 z.1.2.1 z.1.2.2 (intL ps)∧PosL ds ps ((t.ks.take j).filter fun x=>x.n.kind==kd),
  fun z _=>m1 -z.2.1.toNat,⟨0,[],rfl,Nat.zero_le _,Nat.le_refl _,Fresh.nil H2 tq3 1,by simpa using PosL.nil⟩,?_⟩
 rintro⟨⟨a,m,k⟩,_,_⟩ H3 ⟨j,ps,hj,hj1,hmj,hf,hp⟩
 dsimp only at hj hf hmj⊢
 subst hj
 have hS3:=hS.ext hf.ext (by simp)
 refine fkI (fun hlt2=>?_) (fun hge=>?_)
 ·have hj':j<t.ks.length:=by simp at hlt2;omega
  obtain⟨p,hpj,hat,hwj⟩:=hp1.get j hj'
  have hL:=hS3.load (i:=j) (v:= .int .i64 (p:Int)) (by simp[intL,hpj])
  have hD:=h.ext (hf1.ext.trans hf.ext) (by simp)
  have hple:=hat.le' (flat_ne _)
  have hpos:=flat_pos t.ks[j]
  have hn:=h.len
  have hkp:=hD.nodes.kind hat.root
  refine⟨hL.1,_,hL.2,ix_some (by omega) (by omega),_,hkp,?_⟩
  have htk:t.ks.take (j+1)=t.ks.take j++[t.ks[j]]:=by rw[List.take_succ_eq_append_getElem hj']
  rw[wrap1 (by omega)]
  refine fkI (fun hk=>?_) (fun hk=>?_)
  ·refine⟨hL.1,_,hL.2,nbI fun H4 e4 hb4 ext4 hs4=>?_⟩
   refine(hf.grow ext4).append hb4 rfl (by simp[Value.oneCell']) (by omega) (by omega) ?_
   intro a' c' H7 hf7 grow _
   refine⟨⟨j+1,ps++[p],rfl,by omega,by omega,?_,?_⟩,by omega⟩
   ·have:intL (ps++[p])=intL ps++ #[Value.int .i64 (p:Int)].toList:=by simp[intL]
    rw[this];exact hf7
   ·rw[htk,List.filter_append]
    simp only[List.filter_cons,List.filter_nil]
    rw[if_pos hk]
    exact hp.snoc hat hwj
  ·refine⟨⟨j+1,ps,rfl,by omega,by omega,hf,?_⟩,by omega⟩
   rw[htk,List.filter_append]
   simp only[List.filter_cons,List.filter_nil]
   rw[if_neg (by rw[hk];simp),List.append_nil]
   exact hp
 ·have hj':j=t.ks.length:=by simp at hge;omega
  rw[hj',List.take_length] at hp
  exact rkI ⟨a,m,k,ps,rfl,⟨hf1.ext.trans hf.ext,hf.own,fun r hr=>Nat.le_trans hf1.ext.size (hf.row r hr)⟩,hp⟩
theorem KidOf_ok (b o n c:Nat) (ds:List Nd) (H:Heap) (h:Doc H b o n ds) (i:Nat) (t:Tr) (ht:At ds i (flat t)) (hw:Ws t) (kd:Int):
 Fn PP fq19 #[.slice (some ⟨b,o,none⟩) n c,.int .i64 i,.int .i64 kd] H fun v H'=> ∃j:Int,v= .int .i64 j∧Ext [] H H'∧(j<0→ ∀x∈t.ks,x.n.kind≠kd):=by
 refine KidOf.enter b o n c i kd H _ ?_
 unfold KidOf.W
 refine(KidsOf_ok b o n c ds H h i t ht hw kd).mono ?_
 rintro _ H2 ⟨a,m,k,ps,rfl,hf,hp⟩
 have hS:=SlcAt.of_own hf.own
 have hm:=hS.1
 simp only[intL,List.length_map] at hm
 have hlen:=hp.length
 refine⟨(a,m,k),rfl,fkI (fun h0=>rkI ⟨-1,rfl,hf.ext,fun _ x hx hk=>?_⟩) (fun h0=>?_)⟩
 ·have:m=0:=by simp at h0;omega
  have hnil:(t.ks.filter fun x=>x.n.kind==kd)=[]:=List.eq_nil_of_length_eq_zero (by omega)
  have:=List.filter_eq_nil_iff.1 hnil x hx
  simp[hk] at this
 ·cases ps with
  |nil=>simp at h0;simp at hm;omega
  |cons p ps=>
   have hL:=hS.load (i:=0) (v:= .int .i64 (p:Int)) rfl
   exact⟨hL.1,_,hL.2,rkI ⟨p,rfl,hf.ext,fun hneg=>by omega⟩⟩
theorem fixedHere_ok (b o n c:Nat) (ds:List Nd) (H:Heap) (h:Doc H b o n ds) (i:Nat) (t:Tr) (ht:At ds i (flat t)) (hw:Ws t):
 Fn PP fq84 #[.slice (some ⟨b,o,none⟩) n c,.int .i64 i] H fun v H'=> ∃r,v= .bool r∧Ext [] H H'∧(r=true→ ∀x∈t.ks,x.n.kind=10→ ∀m∈flat x,m.kind≠11):=by
 refine fixedHere.enter b o n c i H _ ?_
 unfold fixedHere.W
 refine(KidsOf_ok b o n c ds H h i t ht hw 10).mono ?_
 rintro _ H2 ⟨a,m,k,ps,rfl,hf,hp⟩
 have hS:=SlcAt.of_own hf.own
 have hm:=hS.1
 simp only[intL,List.length_map] at hm
 have hlen:=hp.length
 have hD:=h.ext hf.ext (by simp)
 have hmn:m<4294967296:=by
  have h1:=ht.le' (flat_ne _)
  have h2:=h.len
  have h3:=h.lt
  have h4:(t.ks.filter fun x=>x.n.kind==10).length≤t.ks.length:=List.length_filter_le _ _
  have:t.ks.length≤(flat t).length:=by
   obtain⟨nd,ks⟩:=t
   rw[flat_len]
   show ks.length≤1+(flatL ks).length
   clear hlen hp hw ht h1 h4
   induction ks with
   |nil=>simp
   |cons x r ih=>simp only[flatL,List.length_cons,List.length_append];have:=flat_pos x;omega
  omega
 refine⟨(a,m,k),rfl,?_⟩
 generalize hL:(t.ks.filter fun x=>x.n.kind==10)=L at hp hlen
 refine⟨fun z H'=>H2=H'∧ ∃j:Nat,z.1=j∧j≤m∧ ∀q (hq:q<L.length),q<j→ ∀x∈flat L[q],x.kind≠11,fun z _=>m -z.1.toNat,⟨rfl,0,rfl,Nat.zero_le _,fun q _ hq=>by omega⟩,?_⟩
 rintro⟨_,_⟩ _ ⟨rfl,j,hj,hj1,hall⟩
 dsimp only at hj⊢
 subst hj
 refine fkI (fun hlt2=>?_) (fun hge=>?_)
 ·have hj':j<L.length:=by simp at hlt2;omega
  obtain⟨p,hpj,hat,hwj⟩:=hp.get j hj'
  have hLd:=hS.load (i:=j) (v:= .int .i64 (p:Int)) (by simp[intL,hpj])
  refine⟨hLd.1,_,hLd.2,(fixedAt_ok b o n c ds H2 hD p _ hat hwj).mono ?_⟩
  rintro _ _ ⟨r,rfl,rfl,hr⟩
  refine⟨_,rfl,fkI (fun _=>rkI ⟨false,rfl,hf.ext,by simp⟩) (fun h1=>?_)⟩
  have hr':=hr (by simpa using h1)
  rw[wrap1 (by omega)]
  refine⟨⟨rfl,j+1,rfl,by omega,fun q hq hqj=>?_⟩,by omega⟩
  rcases Nat.lt_succ_iff_lt_or_eq.1 hqj with h5|rfl
  ·exact hall q hq h5
  ·exact hr'
 ·have hj':j=L.length:=by simp at hge;omega
  refine rkI ⟨true,rfl,hf.ext,fun _ x hx hk=>?_⟩
  have hxL:x∈L:=by rw[←hL];simp[List.mem_filter,hx,hk]
  obtain⟨q,hq,rfl⟩:=List.getElem_of_mem hxL
  exact hall q hq (by omega)
theorem sized_ok (b o n c:Nat) (ds:List Nd) (H:Heap) (h:Doc H b o n ds): ∀(f i e deep:Nat),42 -deep≤f→i<e→e≤n→deep≤41→
 Fn PP fq34 #[.slice (some ⟨b,o,none⟩) n c,.int .i64 i,.int .i64 e,.int .i64 deep] H fun v H'=> ∃r,v= .bool r∧H=H'∧(r=true→ ∃t,At ds i (flat t)∧Ws t∧i+(flat t).length≤e):=by
 intro f
 induction f with
 |zero=>intro i e deep h1 h2 h3 h4;omega
 |succ f ih=>
  intro i e deep hf hie hen hd
  refine sized.enter b o n c i e deep H _ ?_
  unfold sized.W
  have hn:=h.len
  have hlt:=h.lt
  obtain⟨nd,hnd⟩: ∃nd,ds[i]?=some nd:=⟨ds[i]'(by omega),List.getElem?_eq_getElem (by omega)⟩
  refine⟨ix_some (by omega) (by omega),_,h.nodes.size hnd,?_⟩
  have no:retK (some [.bool false]) H fun v H'=> ∃r,v= .bool r∧H=H'∧(r=true→ ∃t,At ds i (flat t)∧Ws t∧i+(flat t).length≤e):=rkI ⟨false,rfl,rfl,by simp⟩
  refine fkI (fun _=>no) (fun h1=>?_)
  rw[i64w (by omega)]
  refine fkI (fun _=>no) (fun h2=>?_)
  refine fkI (fun _=>no) (fun h3=>?_)
  have h1':1≤nd.size:=by simp at h1;omega
  have h2':nd.size≤(e:Int) -i:=by simp at h2;omega
  have h3':deep≤40:=by simp at h3;omega
  obtain⟨sz,hsz⟩: ∃sz:Nat,nd.size=sz:=⟨nd.size.toNat,by omega⟩
  rw[hsz] at h1' h2'
  rw[hsz,wrap1 (by omega),i64w (n:=(i:Int)+(sz:Int)) (by omega),wrap1 (k:=deep) (by omega)]
  refine⟨fun z H'=>H=H'∧ ∃ks:List Tr,z.1=((i+1+(flatL ks).length:Nat):Int)∧1+(flatL ks).length≤sz∧At ds (i+1) (flatL ks)∧WsL ks,fun z _=>i+sz -z.1.toNat,
   ⟨rfl,[],rfl,by simp[flatL];omega,⟨_,rfl⟩,trivial⟩,?_⟩
  rintro⟨_,_⟩ _ ⟨rfl,ks,hz,hks,hat,hws⟩
  dsimp only at hz⊢
  subst hz
  refine fkI (fun hlt2=>?_) (fun hge=>?_)
  ·have hlt2':1+(flatL ks).length<sz:=by simp at hlt2;omega
   have e1:((i:Int)+(sz:Int))=((i+sz:Nat):Int):=by omega
   rw[e1]
   refine(ih (i+1+(flatL ks).length) (i+sz) (deep+1) (by omega) (by omega) (by omega) (by omega)).mono ?_
   rintro _ _ ⟨r,rfl,rfl,hr⟩
   refine⟨_,rfl,fkI (fun _=>no) (fun hb=>?_)⟩
   obtain⟨t,hat',hwt,hle⟩:=hr (by simpa using hb)
   have hs:=hwt.size
   refine⟨ix_some (by omega) (by omega),_,h.nodes.size hat'.root,?_⟩
   dsimp only
   have hpos:=flat_pos t
   have hw3:IntKind.i64.wrap (((i+1+(flatL ks).length:Nat):Int)+t.n.size)=((i+1+(flatL (ks++[t])).length:Nat):Int):=by
    rw[hs,i64w (by omega),flatL_append];simp[flatL];omega
   have hfl:(flatL (ks++[t])).length=(flatL ks).length+(flat t).length:=by rw[flatL_append];simp[flatL]
   rw[hw3]
   refine⟨⟨rfl,ks++[t],rfl,by omega,?_,WsL_append.2 ⟨hws,hwt,trivial⟩⟩,by omega⟩
   rw[flatL_append]
   obtain⟨p1,hp1⟩:=hat
   obtain⟨p2,hp2⟩:=hat'
   refine⟨p2,?_⟩
   simp only[flatL,List.append_nil]
   rw[List.append_assoc,←hp2,show ds.drop (i+1+(flatL ks).length)=(ds.drop (i+1)).drop (flatL ks).length from List.drop_drop.symm,hp1,List.drop_left]
  ·have hge':1+(flatL ks).length=sz:=by simp at hge;omega
   refine rkI ⟨true,rfl,rfl,fun _=>⟨.node nd ks,?_,?_,?_⟩⟩
   ·obtain⟨p1,hp1⟩:=hat
    refine⟨p1,?_⟩
    simp only[flat]
    rw[List.cons_append,←hp1]
    have hi:i<ds.length:=by omega
    rw[List.drop_eq_getElem_cons hi]
    congr 1
    rw[List.getElem?_eq_getElem hi] at hnd
    cases hnd;rfl
   ·simp only[Ws];exact⟨by omega,hws⟩
   ·rw[flat_len];omega
def InK (kinds:List Int) (l:List Tr):Prop:= ∀x∈l,x.n.kind∈kinds
def Fixed (t:Tr):Prop:= ∀m∈flat t,m.kind≠11
def FixedDirs (l:List Tr):Prop:= ∀x∈l,x.n.kind=10→Fixed x
inductive ShapedP (t:Tr):Prop
 |document:t.n.kind=1→InK [2,3,24,26,27,31,32,34,36,37,39] t.ks→0<t.ks.length→ShapedP t
 |short (s:Tr):t.n.kind=2→t.n.flag=1→t.ks=[s]→s.n.kind=5→ShapedP t
 |operation (vs ds:List Tr) (s:Tr):t.n.kind=2→t.n.flag≠1→t.ks=vs++(ds++[s])→InK [4] vs→InK [10] ds→s.n.kind=5→ShapedP t
 |fragment (ds:List Tr) (s:Tr):(t.n.kind=3∨t.n.kind=8)→t.ks=ds++[s]→InK [10] ds→s.n.kind=5→ShapedP t
 |variable1 (ty:Tr):t.n.kind=4→t.ks=[ty]→isTypeM ty.n=true→ShapedP t
 |variable2 (ty v:Tr):t.n.kind=4→t.ks=[ty,v]→isTypeM ty.n=true→isValueM v.n=true→Fixed t→ShapedP t
 |selections:t.n.kind=5→InK [6,7,8] t.ks→0<t.ks.length→ShapedP t
 |field (ar ds ss:List Tr):t.n.kind=6→t.ks=ar++(ds++ss)→InK [9] ar→InK [10] ds→InK [5] ss→ss.length≤1→ShapedP t
 |spread:t.n.kind=7→InK [10] t.ks→ShapedP t
 |argument (v:Tr):(t.n.kind=9∨t.n.kind=19)→t.ks=[v]→isValueM v.n=true→ShapedP t
 |directive:t.n.kind=10→InK [9] t.ks→ShapedP t
 |list:t.n.kind=17→(∀x∈t.ks,isValueM x.n=true)→ShapedP t
 |object:t.n.kind=18→InK [19] t.ks→ShapedP t
 |tlist (ty:Tr):t.n.kind=21→t.ks=[ty]→isTypeM ty.n=true→ShapedP t
 |tnon (ty:Tr):t.n.kind=22→t.ks=[ty]→isNullM ty.n=true→ShapedP t
 |schema (ds os:List Tr):t.n.kind=24→t.ks=ds++os→InK [10] ds→InK [25] os→0<os.length→ShapedP t
 |extend (ob:Tr):t.n.kind=39→t.ks=[ob]→ob.n.kind=27→(∀x∈ob.ks,x.n.kind≠23)→ShapedP t
 |scalar (de ds:List Tr):(t.n.kind=26∨t.n.kind=35)→t.ks=de++ds→InK [23] de→de.length≤1→InK [10] ds→Fixed t→ShapedP t
 |otype (de is ds fs:List Tr):t.n.kind=27→t.ks=de++(is++(ds++fs))→InK [23] de→de.length≤1→InK [28] is→InK [10] ds→InK [29] fs→0<fs.length→FixedDirs t.ks→ShapedP t
 |interface (de ds fs:List Tr):t.n.kind=31→t.ks=de++(ds++fs)→InK [23] de→de.length≤1→InK [10] ds→InK [29] fs→0<fs.length→FixedDirs t.ks→ShapedP t
 |union (de ds fs:List Tr):t.n.kind=32→t.ks=de++(ds++fs)→InK [23] de→de.length≤1→InK [10] ds→InK [33] fs→0<fs.length→Fixed t→ShapedP t
 |enum (de ds fs:List Tr):t.n.kind=34→t.ks=de++(ds++fs)→InK [23] de→de.length≤1→InK [10] ds→InK [35] fs→0<fs.length→FixedDirs t.ks→ShapedP t
 |input (de ds fs:List Tr):t.n.kind=36→t.ks=de++(ds++fs)→InK [23] de→de.length≤1→InK [10] ds→InK [30] fs→0<fs.length→FixedDirs t.ks→ShapedP t
 |fieldDef (de ar ds:List Tr) (ty:Tr):t.n.kind=29→t.ks=de++(ar++ty::ds)→InK [23] de→de.length≤1→InK [30] ar→isTypeM ty.n=true→InK [10] ds→Fixed t→ShapedP t
 |inputDef (de vs ds:List Tr) (ty:Tr):t.n.kind=30→t.ks=de++(ty::(vs++ds))→InK [23] de→de.length≤1→isTypeM ty.n=true→(∀v∈vs,isValueM v.n=true)→vs.length≤1→InK [10] ds→Fixed t→ShapedP t
 |directiveDef (de ar ls:List Tr):t.n.kind=37→t.ks=de++(ar++ls)→InK [23] de→de.length≤1→InK [30] ar→InK [38] ls→0<ls.length→ShapedP t
 |leaf:(11≤t.n.kind∧t.n.kind≤16∨t.n.kind=20∨t.n.kind=23∨t.n.kind=25∨t.n.kind=28∨t.n.kind=33∨t.n.kind=38∨t.n.kind<1∨39<t.n.kind)→t.ks=[]→ShapedP t
section
variable {H0 H:Heap} {r b o n:Nat} {ds:List Nd} {l:List Tr} {s:Nat}
theorem all_step (kinds:List Int) (h:RowAt H r b o n ds l s) (he:Ext [] H0 H) (hr:H0.size≤r) {N C:Nat} (hN:N=kinds.length) (hN2:N<1000) {K:Nat→Heap→Prop}
 (hk: ∀H' seg l',Ext [] H0 H'→l=seg++l'→InK kinds seg→RowAt H' r b o n ds l' seg.length→K r H'):
 newB H (.cells (kinds.map (.int .i64 ·)).toArray tq3) fun kb H2=>callW PP fq53 #[.pointer (some ⟨r,0,none⟩),.slice (some ⟨kb,0,none⟩) N C] H2 pBlk fun x H3=>K x H3:=by
 refine nbI fun H2 _ hb ext _=>?_
 have hrb:r<H.size:=by obtain⟨c,e,hr⟩:=h.mem;exact lt_of_get hr
 refine(rowAll_ok (h.ext ext) hb (by omega) hN hN2).mono ?_
 rintro _ H3 ⟨rfl,ext3,seg,l',hl,hs,hrow⟩
 exact⟨r,rfl,hk H3 seg l' (Ext.newer (he.trans ext) ext3 hr) hl hs hrow⟩
theorem one_step {p:Nd→Bool} {args:Array Value} (hF:Fn PP fq55 args H (OneDone p H r b o n ds l s)) (h:RowAt H r b o n ds l s) (he:Ext [] H0 H) (hr:H0.size≤r) {K:Bool→Heap→Prop}
 (h0: ∀H',Ext [] H0 H'→RowAt H' r b o n ds l s→K false H') (h1: ∀H' t l',Ext [] H0 H'→l=t::l'→p t.n=true→RowAt H' r b o n ds l' s→K true H'):
 callW PP fq55 args H pBool fun x H'=>K x H':=by
 refine hF.mono ?_
 rintro _ H3 (⟨rfl,ext3⟩|⟨rfl,ext3,t,l',hl,hp,hrow⟩)
 ·exact⟨false,rfl,h0 H3 (he.trans ext3) (h.ext ext3)⟩
 ·exact⟨true,rfl,h1 H3 t l' (Ext.newer he ext3 hr) hl hp hrow⟩
theorem end_step (h:RowAt H r b o n ds l s) {K:Bool→Heap→Prop} (hk:K (decide (l=[])) H):callW PP fq54 #[.pointer (some ⟨r,0,none⟩)] H pBool fun x H'=>K x H':=by
 refine(rowEnd_ok h).mono ?_
 rintro _ _ ⟨rfl,rfl⟩
 exact⟨_,rfl,hk⟩
theorem most_step (h:RowAt H r b o n ds l s) {K:Bool→Heap→Prop} (hk:K (decide (s≤1)) H):callW PP fq58 #[.pointer (some ⟨r,0,none⟩)] H pBool fun x H'=>K x H':=by
 refine(rowMost_ok h).mono ?_
 rintro _ _ ⟨rfl,rfl⟩
 exact⟨_,rfl,hk⟩
end
def Judged (H0:Heap) (t:Tr) (r:Bool) (H:Heap):Prop:=Ext [] H0 H∧(r=true→ShapedP t)
def JudgedV (H0:Heap) (t:Tr) (v:Value) (H:Heap):Prop:= ∃r,v= .bool r∧Judged H0 t r H
theorem judged_no {H0 H:Heap} {t:Tr} (h:Ext [] H0 H):Judged H0 t false H:=⟨h,by simp⟩
theorem judged_ret {H0 H:Heap} {t:Tr} {r:Bool} (h:Judged H0 t r H):retK (some [.bool r]) H (JudgedV H0 t):=rkI ⟨r,rfl,h⟩
theorem shapedType_ok (b o n c:Nat) (ds:List Nd) (H0 H:Heap) (he:Ext [] H0 H) (r i:Nat) (t:Tr) (ht:At ds i (flat t)) (hw:Ws t) (hr:H0.size≤r) (s:Nat) (h:RowAt H r b o n ds t.ks s)
 (hkind:t.n.kind∉([1,2,3,4,5,6,7,8,9,10,17,18,19,21,22]:List Int)):
 Fn PP fq60 #[.pointer (some ⟨r,0,none⟩),.int .i64 t.n.kind,.slice (some ⟨b,o,none⟩) n c,.int .i64 i] H (JudgedV H0 t):=by
 refine shapedType.enter r t.n.kind b o n c i H _ ?_
 unfold shapedType.W
 have hi2:i<2147483648:=by
  have h1:=ht.le' (flat_ne _);have h2:=h.doc.len;have h3:=h.doc.lt;omega
 have desc: ∀(J:Unit→Heap→Prop),(∀H' de l',Ext [] H0 H'→t.ks=de++l'→InK [23] de→de.length≤1→RowAt H' r b o n ds l' de.length→J () H')→
  newB H (.cells #[(.int .i64 23)] tq3) fun b27 H28=>
   callW PP fq53 #[(.pointer (some ⟨r,0,none⟩)),(.slice (some ⟨b27,0,none⟩) 1 1)] H28 pBlk fun(x29:Nat) H30=>
   callW PP fq58 #[(.pointer (some ⟨x29,0,none⟩))] H30 pBool fun(x31:Bool) H32=>
   forkB (!x31) (retK (some [(.bool false)]) H32 (JudgedV H0 t)) (J () H32):=by
  intro J hJ
  refine all_step [23] h he hr rfl (by decide) ?_
  intro H' seg l' hE hl hseg hR
  refine most_step hR (fkI (fun _=>judged_ret (judged_no hE)) (fun hm=>?_))
  exact hJ H' seg l' hE hl hseg (by simpa using hm) hR
 refine⟨fun _ H'=>Ext [] H0 H'∧t.n.kind≠24∧t.n.kind≠39∧ ∃de l' s',t.ks=de++l'∧InK [23] de∧de.length≤1∧RowAt H' r b o n ds l' s'∧
  (t.n.kind∉([26,35,27,31,32,34,36,29,30,37]:List Int)→de=[]),?_,?_⟩
 ·refine fkI (fun hk=>?_) (fun hk24=>?_)
  ·have hk':t.n.kind=24:=by simpa using hk
   refine⟨fun y H'=>Judged H0 t y.1 H',?_,fun y H' h=>judged_ret h⟩
   have hE:=he
   have hR:=h
   refine all_step [10] hR hE hr rfl (by decide) ?_
   intro H1 ds1 l1 hE hl1 hs1 hR
   refine all_step [25] hR hE hr rfl (by decide) ?_
   intro H2 ds2 l2 hE hl2 hs2 hR
   refine end_step hR ?_
   refine fkI (fun hend=>?_) (fun _=>judged_no hE)
   refine⟨_,hR.some_load,hE,fun hpos=>?_⟩
   have hl0:l2=[]:=by simpa using hend
   subst hl0
   rw[List.append_nil] at hl2
   subst hl2
   exact .schema ds1 l1 hk' hl1 hs1 hs2 (by have:=of_decide_eq_true hpos;omega)
  have hk24':t.n.kind≠24:=by simpa using hk24
  refine fkI (fun hk=>?_) (fun hk39=>?_)
  ·have hk':t.n.kind=39:=by simpa using hk
   refine⟨fun y H'=>Judged H0 t y.1 H',?_,fun y H' h=>judged_ret h⟩
   refine one_step (rowOneObj_ok h) h he hr ?_ ?_
   ·intro H' hE _;exact judged_no hE
   intro H1 ob l1 hE hl1 hp hR
   refine end_step hR ?_
   refine fkI (fun hend=>?_) (fun _=>judged_no hE)
   have hl0:l1=[]:=by simpa using hend
   subst hl0
   rw[wrap1 (by omega)]
   obtain⟨nd,ks⟩:=t
   have hks:ks=[ob]:=hl1
   have hat1:At ds (i+1) (flat ob):=by
    have:=ht.kids;rw[hks] at this;simpa [flatL] using this
   have hw1:Ws ob:=hw.kids.mem ob (by show ob∈ks;rw[hks];simp)
   refine(KidOf_ok b o n c ds H1 hR.doc (i+1) ob hat1 hw1 23).mono ?_
   rintro _ H2 ⟨j,rfl,hE2,hj⟩
   exact⟨_,rfl,hE.trans hE2,fun hneg=> .extend ob hk' hl1 (by simpa [isObjM] using hp) (hj (by simpa using hneg))⟩
  have hk39':t.n.kind≠39:=by simpa using hk39
  have memk: ∀ {k:Int} {L:List Int},(t.n.kind==k)=true→k∈L→t.n.kind∈L:=by
   intro k L h1 h2;rw[eq_of_beq h1];exact h2
  have go: ∀(J:Unit→Heap→Prop),J=(fun _ H'=>Ext [] H0 H'∧t.n.kind≠24∧t.n.kind≠39∧ ∃de l' s',t.ks=de++l'∧InK [23] de∧de.length≤1∧RowAt H' r b o n ds l' s'∧
   (t.n.kind∉([26,35,27,31,32,34,36,29,30,37]:List Int)→de=[]))→t.n.kind∈([26,35,27,31,32,34,36,29,30,37]:List Int)→
   (∀H' de l',Ext [] H0 H'→t.ks=de++l'→InK [23] de→de.length≤1→RowAt H' r b o n ds l' de.length→J () H'):=by
   rintro J rfl hmem H' de l' h1 h2 h3 h4 h5
   exact⟨h1,hk24',hk39',de,l',_,h2,h3,h4,h5,fun h=>absurd hmem h⟩
  refine fkI (fun hk=>desc _ (go _ rfl (memk hk (by decide)))) (fun hk26=>?_)
  refine fkI (fun hk=>desc _ (go _ rfl (memk hk (by decide)))) (fun hk35=>?_)
  refine fkI (fun hk=>desc _ (go _ rfl (memk hk (by decide)))) (fun hk27=>?_)
  refine fkI (fun hk=>desc _ (go _ rfl (memk hk (by decide)))) (fun hk31=>?_)
  refine fkI (fun hk=>desc _ (go _ rfl (memk hk (by decide)))) (fun hk32=>?_)
  refine fkI (fun hk=>desc _ (go _ rfl (memk hk (by decide)))) (fun hk34=>?_)
  refine fkI (fun hk=>desc _ (go _ rfl (memk hk (by decide)))) (fun hk36=>?_)
  refine fkI (fun hk=>desc _ (go _ rfl (memk hk (by decide)))) (fun hk29=>?_)
  refine fkI (fun hk=>desc _ (go _ rfl (memk hk (by decide)))) (fun hk30=>?_)
  refine fkI (fun hk=>desc _ (go _ rfl (memk hk (by decide)))) (fun hk37=>?_)
  exact⟨he,hk24',hk39',[],t.ks,s,rfl,by intro x hx;simp at hx,by simp,h,fun _=>rfl⟩
 rintro _ H3 ⟨hE,hk24,hk39,de,l,s',hl,hde,hde1,hR,hnil⟩
 have hfix: ∀ {H':Heap} {l':List Tr} {s2:Nat},RowAt H' r b o n ds l' s2→ ∀ {K:Bool→Heap→Prop},(∀q,(q=true→Fixed t)→K q H')→
  callW PP fq57 #[(.slice (some ⟨b,o,none⟩) n c),(.int .i64 i)] H' pBool fun x H''=>K x H'':=by
  intro H' l' s2 hR' K hK
  refine(fixedAt_ok b o n c ds H' hR'.doc i t ht hw).mono ?_
  rintro _ _ ⟨q,rfl,rfl,hq⟩
  exact⟨q,rfl,hK q hq⟩
 have hfixH: ∀ {K:Bool→Heap→Prop},(∀H' q,Ext [] H0 H'→RowAt H' r b o n ds l s'→(q=true→FixedDirs t.ks)→K q H')→
  callW PP fq84 #[(.slice (some ⟨b,o,none⟩) n c),(.int .i64 i)] H3 pBool fun x H''=>K x H'':=by
  intro K hK
  refine(fixedHere_ok b o n c ds H3 hR.doc i t ht hw).mono ?_
  rintro _ H4 ⟨q,rfl,he4,hq⟩
  exact⟨q,rfl,hK H4 q (hE.trans he4) (hR.ext he4) hq⟩
 have scalar:(t.n.kind=26∨t.n.kind=35)→joinK (Bool×Unit) (fun J87=>
  callW PP fq57 #[(.slice (some ⟨b,o,none⟩) n c),(.int .i64 i)] H3 pBool fun(x90:Bool) H91=>
  forkB x90
  (newB H91 (.cells #[(.int .i64 10)] tq3) fun b92 H93=>
    callW PP fq53 #[(.pointer (some ⟨r,0,none⟩)),(.slice (some ⟨b92,0,none⟩) 1 1)] H93 pBlk fun(x94:Nat) H95=>
    callW PP fq54 #[(.pointer (some ⟨x94,0,none⟩))] H95 pBool fun(x96:Bool) H97=>
    J87 (x96,()) H97)
  (J87 (false,()) H91)) fun y88 H89=>retK (some [(.bool y88.1)]) H89 (JudgedV H0 t):=by
  intro hk
  refine⟨fun y H'=>Judged H0 t y.1 H',?_,fun y H' h=>judged_ret h⟩
  refine hfix hR fun q hq=>fkI (fun hq1=>?_) (fun _=>judged_no hE)
  refine all_step [10] hR hE hr rfl (by decide) ?_
  intro H1 ds1 l1 hE hl1 hs1 hR
  refine end_step hR ⟨hE,fun hend=>?_⟩
  have hl0:l1=[]:=by simpa using hend
  subst hl0
  rw[List.append_nil] at hl1;subst hl1
  exact .scalar de l hk hl hde hde1 hs1 (hq hq1)
 refine fkI (fun hk=>scalar (.inl (by simpa using hk))) (fun hk26=>?_)
 refine fkI (fun hk=>scalar (.inr (by simpa using hk))) (fun hk35=>?_)
 refine fkI (fun hk=>?_) (fun hk27=>?_)
 ·refine⟨fun y H'=>Judged H0 t y.1 H',?_,fun y H' h=>judged_ret h⟩
  refine hfixH fun H1 q hE hR hq=>fkI (fun hq1=>?_) (fun _=>judged_no hE)
  refine all_step [28] hR hE hr rfl (by decide) ?_
  intro H1 a1 l1 hE hl1 hs1 hR
  refine all_step [10] hR hE hr rfl (by decide) ?_
  intro H1 a2 l2 hE hl2 hs2 hR
  refine all_step [29] hR hE hr rfl (by decide) ?_
  intro H1 a3 l3 hE hl3 hs3 hR
  refine end_step hR (fkI (fun hend=>?_) (fun _=>judged_no hE))
  refine⟨_,hR.some_load,hE,fun hpos=>?_⟩
  have hl0:l3=[]:=by simpa using hend
  subst hl0
  rw[List.append_nil] at hl3;subst hl3 hl2 hl1
  exact .otype de a1 a2 l2 (by simpa using hk) hl hde hde1 hs1 hs2 hs3 (by have:=of_decide_eq_true hpos;omega) (hq hq1)
 refine fkI (fun hk=>?_) (fun hk31=>?_)
 ·refine⟨fun y H'=>Judged H0 t y.1 H',?_,fun y H' h=>judged_ret h⟩
  refine hfixH fun H1 q hE hR hq=>fkI (fun hq1=>?_) (fun _=>judged_no hE)
  refine all_step [10] hR hE hr rfl (by decide) ?_
  intro H1 a2 l2 hE hl2 hs2 hR
  refine all_step [29] hR hE hr rfl (by decide) ?_
  intro H1 a3 l3 hE hl3 hs3 hR
  refine end_step hR (fkI (fun hend=>?_) (fun _=>judged_no hE))
  refine⟨_,hR.some_load,hE,fun hpos=>?_⟩
  have hl0:l3=[]:=by simpa using hend
  subst hl0
  rw[List.append_nil] at hl3;subst hl3 hl2
  exact .interface de a2 l2 (by simpa using hk) hl hde hde1 hs2 hs3 (by have:=of_decide_eq_true hpos;omega) (hq hq1)
 refine fkI (fun hk=>?_) (fun hk32=>?_)
 ·refine⟨fun y H'=>Judged H0 t y.1 H',?_,fun y H' h=>judged_ret h⟩
  refine hfix hR fun q hq=>fkI (fun hq1=>?_) (fun _=>judged_no hE)
  refine all_step [10] hR hE hr rfl (by decide) ?_
  intro H1 a2 l2 hE hl2 hs2 hR
  refine all_step [33] hR hE hr rfl (by decide) ?_
  intro H1 a3 l3 hE hl3 hs3 hR
  refine end_step hR (fkI (fun hend=>?_) (fun _=>judged_no hE))
  refine⟨_,hR.some_load,hE,fun hpos=>?_⟩
  have hl0:l3=[]:=by simpa using hend
  subst hl0
  rw[List.append_nil] at hl3;subst hl3 hl2
  exact .union de a2 l2 (by simpa using hk) hl hde hde1 hs2 hs3 (by have:=of_decide_eq_true hpos;omega) (hq hq1)
 refine fkI (fun hk=>?_) (fun hk34=>?_)
 ·refine⟨fun y H'=>Judged H0 t y.1 H',?_,fun y H' h=>judged_ret h⟩
  refine hfixH fun H1 q hE hR hq=>fkI (fun hq1=>?_) (fun _=>judged_no hE)
  refine all_step [10] hR hE hr rfl (by decide) ?_
  intro H1 a2 l2 hE hl2 hs2 hR
  refine all_step [35] hR hE hr rfl (by decide) ?_
  intro H1 a3 l3 hE hl3 hs3 hR
  refine end_step hR (fkI (fun hend=>?_) (fun _=>judged_no hE))
  refine⟨_,hR.some_load,hE,fun hpos=>?_⟩
  have hl0:l3=[]:=by simpa using hend
  subst hl0
  rw[List.append_nil] at hl3;subst hl3 hl2
  exact .enum de a2 l2 (by simpa using hk) hl hde hde1 hs2 hs3 (by have:=of_decide_eq_true hpos;omega) (hq hq1)
 refine fkI (fun hk=>?_) (fun hk36=>?_)
 ·refine⟨fun y H'=>Judged H0 t y.1 H',?_,fun y H' h=>judged_ret h⟩
  refine hfixH fun H1 q hE hR hq=>fkI (fun hq1=>?_) (fun _=>judged_no hE)
  refine all_step [10] hR hE hr rfl (by decide) ?_
  intro H1 a2 l2 hE hl2 hs2 hR
  refine all_step [30] hR hE hr rfl (by decide) ?_
  intro H1 a3 l3 hE hl3 hs3 hR
  refine end_step hR (fkI (fun hend=>?_) (fun _=>judged_no hE))
  refine⟨_,hR.some_load,hE,fun hpos=>?_⟩
  have hl0:l3=[]:=by simpa using hend
  subst hl0
  rw[List.append_nil] at hl3;subst hl3 hl2
  exact .input de a2 l2 (by simpa using hk) hl hde hde1 hs2 hs3 (by have:=of_decide_eq_true hpos;omega) (hq hq1)
 refine fkI (fun hk=>?_) (fun hk29=>?_)
 ·refine all_step [30] hR hE hr rfl (by decide) ?_
  intro H1 a1 l1 hE hl1 hs1 hR
  refine⟨fun y H'=>Judged H0 t y.1 H',?_,fun y H' h=>judged_ret h⟩
  refine hfix hR fun q hq=>fkI (fun hq1=>?_) (fun _=>judged_no hE)
  refine one_step (rowOneType_ok hR) hR hE hr (fun H' hE _=>judged_no hE) ?_
  intro H2 ty l2 hE hl2 hty hR
  refine all_step [10] hR hE hr rfl (by decide) ?_
  intro H1 a3 l3 hE hl3 hs3 hR
  refine end_step hR ⟨hE,fun hend=>?_⟩
  have hl0:l3=[]:=by simpa using hend
  subst hl0
  rw[List.append_nil] at hl3;subst hl3 hl2 hl1
  exact .fieldDef de a1 l2 ty (by simpa using hk) hl hde hde1 hs1 hty hs3 (hq hq1)
 refine fkI (fun hk=>?_) (fun hk30=>?_)
 ·refine⟨fun y H'=>Ext [] H0 H'∧(y.1=false→Fixed t∧ ∃ty l1,l=ty::l1∧isTypeM ty.n=true∧RowAt H' r b o n ds l1 s'),?_,?_⟩
  ·refine hfix hR fun q hq=>fkI (fun _=>⟨hE,by simp⟩) (fun hq1=>?_)
   refine one_step (rowOneType_ok hR) hR hE hr (fun H' hE _=>⟨hE,by simp⟩) ?_
   intro H2 ty l2 hE hl2 hty hR
   exact⟨hE,fun _=>⟨hq (by simpa using hq1),ty,l2,hl2,hty,hR⟩⟩
  rintro⟨y,_⟩ H4 ⟨hE,hy⟩
  refine fkI (fun _=>judged_ret (judged_no hE)) (fun hyf=>?_)
  obtain⟨hfx,ty,l1,hl1,hty,hR⟩:=hy hyf
  have fin: ∀H',Ext [] H0 H'→ ∀vs l2,l1=vs++l2→(∀v∈vs,isValueM v.n=true)→vs.length≤1→RowAt H' r b o n ds l2 s'→
   newB H' (.cells #[(.int .i64 10)] tq3) fun b219 H220=>
    callW PP fq53 #[(.pointer (some ⟨r,0,none⟩)),(.slice (some ⟨b219,0,none⟩) 1 1)] H220 pBlk fun(x221:Nat) H222=>
    callW PP fq54 #[(.pointer (some ⟨x221,0,none⟩))] H222 pBool fun(x223:Bool) H224=>retK (some [(.bool x223)]) H224 (JudgedV H0 t):=by
   intro H' hE vs l2 hl2 hvs hvl hR
   refine all_step [10] hR hE hr rfl (by decide) ?_
   intro H1 a3 l3 hE hl3 hs3 hR
   refine end_step hR (judged_ret ⟨hE,fun hend=>?_⟩)
   have hl0:l3=[]:=by simpa using hend
   subst hl0
   rw[List.append_nil] at hl3;subst hl3 hl2 hl1
   exact .inputDef de vs l2 ty (by simpa using hk) hl hde hde1 hty hvs hvl hs3 hfx
  refine one_step (rowOneValue_ok hR) hR hE hr (fun H' hE hR'=>?_) ?_
  ·exact fin H' hE [] l1 rfl (by simp) (by simp) hR'
  ·intro H' v l2 hE hl2 hv hR'
   exact fin H' hE [v] l2 hl2 (by simpa using hv) (by simp) hR'
 refine fkI (fun hk=>?_) (fun hk37=>?_)
 ·refine⟨fun y H'=>Judged H0 t y.1 H',?_,fun y H' h=>judged_ret h⟩
  refine all_step [30] hR hE hr rfl (by decide) ?_
  intro H1 a2 l2 hE hl2 hs2 hR
  refine all_step [38] hR hE hr rfl (by decide) ?_
  intro H1 a3 l3 hE hl3 hs3 hR
  refine end_step hR (fkI (fun hend=>?_) (fun _=>judged_no hE))
  refine⟨_,hR.some_load,hE,fun hpos=>?_⟩
  have hl0:l3=[]:=by simpa using hend
  subst hl0
  rw[List.append_nil] at hl3;subst hl3 hl2
  exact .directiveDef de a2 l2 (by simpa using hk) hl hde hde1 hs2 hs3 (by have:=of_decide_eq_true hpos;omega)
 refine end_step hR (judged_ret ⟨hE,fun hend=>?_⟩)
 have hl0:l=[]:=by simpa using hend
 subst hl0
 simp only[beq_eq_false_iff_ne,ne_eq] at hk26 hk35 hk27 hk31 hk32 hk34 hk36 hk29 hk30 hk37
 simp only[List.mem_cons,List.not_mem_nil,or_false,not_or] at hkind
 have hd0:=hnil (by simp[*])
 subst hd0
 exact .leaf (by omega) hl
theorem shaped_ok (b o n c:Nat) (ds:List Nd) (H:Heap) (h:Doc H b o n ds) (i:Nat) (t:Tr) (ht:At ds i (flat t)) (hw:Ws t):
 Fn PP fq36 #[.slice (some ⟨b,o,none⟩) n c,.int .i64 i] H (JudgedV H t):=by
 refine shaped.enter b o n c i H _ ?_
 unfold shaped.W
 have hkl:t.ks.length<2147483648:=by
  have h1:=ht.le' (flat_ne _);have h2:=h.len;have h3:=h.lt
  have:t.ks.length≤(flat t).length:=by
   obtain⟨nd,ks⟩:=t
   rw[flat_len]
   show ks.length≤1+(flatL ks).length
   clear hw ht h1
   induction ks with
   |nil=>simp
   |cons x r ih=>simp only[flatL,List.length_cons,List.length_append];have:=flat_pos x;omega
  omega
 refine(Kids_ok b o n c ds H h i t ht hw).mono ?_
 rintro _ H2 ⟨a,m,k,ps,rfl,hf,hp⟩
 have hS:=SlcAt.of_own hf.own
 have hmk:m≤k:=by
  rcases hf.own.2 with⟨_,h1,h2⟩|⟨g,cur,_,_,h1,_⟩
  ·omega
  ·exact h1
 refine⟨(a,m,k),rfl,nbI fun H4 e4 hb4 ext4 hs4=>?_⟩
 have hD2:=h.ext hf.ext (by simp)
 have hRow:RowAt H4 H2.size b o n ds t.ks 0:=by
  refine⟨hD2.ext ext4 (by simp),by have:=hD2.below;omega,⟨c,a,m,k,ps,hb4,hS.ext ext4 (by simp),hmk,hp,fun g hg=>?_⟩,by omega⟩
  obtain⟨cur,_,hgc,_⟩:=hf.own.row hg
  have:=lt_of_get hgc;omega
 have hE4:=hf.ext.trans ext4
 have hr:H.size≤H2.size:=hf.ext.size
 generalize H2.size=r at hRow hr
 have hi:=ht.root
 have hle:=ht.le' (flat_ne _)
 have hn:=h.len
 have hpos:=flat_pos t
 refine⟨ix_some (by omega) (by omega),(t.n.kind,t.n.name,t.n.alias,t.n.text,t.n.flag,t.n.size),hRow.doc.nodes.all hi,?_⟩
 refine nbI fun H7 e7 hb7 ext7 hs7=>?_
 refine swI hb7 (by simp) rfl rfl fun H8 e8 hb8 ext8 hs8=>?_
 have hE:Ext [] H H8:=Ext.newer (hE4.trans ext7) ext8 hE4.size
 have hR:RowAt H8 r b o n ds t.ks 0:=hRow.ext (Ext.newer ext7 ext8 (Nat.le_refl _))
 refine⟨_,lcO hb8 rfl,?_⟩
 clear hRow hE4 hb4 e4 hb7 e7 e8 hs7 hs8 ext4 ext7 ext8 hs4 hf hS
 refine fkI (fun hk=>?_) (fun hk1=>?_)
 ·refine all_step [2,3,24,26,27,31,32,34,36,37,39] hR hE hr rfl (by decide) ?_
  intro H1 a1 l1 hE hl1 hs1 hR
  refine end_step hR (fkI (fun hend=>?_) (fun _=>judged_ret (judged_no hE)))
  refine⟨_,hR.some_load,judged_ret ⟨hE,fun hpos=>?_⟩⟩
  have hl0:l1=[]:=by simpa using hend
  subst hl0
  rw[List.append_nil] at hl1;subst hl1
  exact .document (by simpa using hk) hs1 (by have h0:(0:Int)<(t.ks.length:Int):=of_decide_eq_true hpos
                                              omega)
 have no: ∀ {H'},Ext [] H H'→retK (some [.bool false]) H' (JudgedV H t):=fun h=>judged_ret (judged_no h)
 have nil: ∀ {l:List Tr},decide (l=[])=true→l=[]:=fun h=>of_decide_eq_true h
 refine fkI (fun hk=>?_) (fun hk2=>?_)
 ·have hk':t.n.kind=2:=by simpa using hk
  refine⟨_,lcO hb8 rfl,?_⟩
  refine fkI (fun hfl=>?_) (fun hfl=>?_)
  ·refine one_step (rowOneSel_ok hR) hR hE hr (fun _ hE _=>no hE) ?_
   intro H1 s1 l1 hE hl1 hp1 hR
   refine end_step hR (judged_ret ⟨hE,fun hend=>?_⟩)
   rw[nil hend] at hl1
   exact .short s1 hk' (by simpa using hfl) hl1 (by simpa [isSelM] using hp1)
  ·refine all_step [4] hR hE hr rfl (by decide) ?_
   intro H1 a1 l1 hE hl1 hs1 hR
   refine all_step [10] hR hE hr rfl (by decide) ?_
   intro H1 a2 l2 hE hl2 hs2 hR
   refine one_step (rowOneSel_ok hR) hR hE hr (fun _ hE _=>no hE) ?_
   intro H1 s1 l3 hE hl3 hp1 hR
   refine end_step hR (judged_ret ⟨hE,fun hend=>?_⟩)
   rw[nil hend] at hl3
   subst hl3 hl2
   exact .operation a1 a2 s1 hk' (by simpa using hfl) hl1 hs1 hs2 (by simpa [isSelM] using hp1)
 have frag:(t.n.kind=3∨t.n.kind=8)→newB H8 (.cells #[(.int .i64 10)] tq3) fun b34 H35=>
  callW PP fq53 #[(.pointer (some ⟨r,0,none⟩)),(.slice (some ⟨b34,0,none⟩) 1 1)] H35 pBlk fun(x36:Nat) H37=>
  callW PP fq55 #[(.pointer (some ⟨r,0,none⟩)),(.func (.func fq56) #[] #[])] H37 pBool fun(x38:Bool) H39=>
  forkB x38
  (callW PP fq54 #[(.pointer (some ⟨r,0,none⟩))] H39 pBool fun(x40:Bool) H41=>
    retK (some [(.bool x40)]) H41 (JudgedV H t))
  (retK (some [(.bool false)]) H39 (JudgedV H t)):=by
  intro hk
  refine all_step [10] hR hE hr rfl (by decide) ?_
  intro H1 a2 l2 hE hl2 hs2 hR
  refine one_step (rowOneSel_ok hR) hR hE hr (fun _ hE _=>no hE) ?_
  intro H1 s1 l3 hE hl3 hp1 hR
  refine end_step hR (judged_ret ⟨hE,fun hend=>?_⟩)
  rw[nil hend] at hl3
  subst hl3
  exact .fragment a2 s1 hk hl2 hs2 (by simpa [isSelM] using hp1)
 refine fkI (fun hk=>frag (.inl (by simpa using hk))) (fun hk3=>?_)
 refine fkI (fun hk=>frag (.inr (by simpa using hk))) (fun hk8=>?_)
 refine fkI (fun hk=>?_) (fun hk4=>?_)
 ·have hk':t.n.kind=4:=by simpa using hk
  refine one_step (rowOneType_ok hR) hR hE hr (fun _ hE _=>no hE) ?_
  intro H1 ty l1 hE hl1 hp1 hR
  refine end_step hR (fkI (fun hend=>judged_ret ⟨hE,fun _=>?_⟩) (fun _=>?_))
  ·rw[nil hend] at hl1
   exact .variable1 ty hk' hl1 hp1
  ·refine one_step (rowOneValue_ok hR) hR hE hr (fun _ hE _=>no hE) ?_
   intro H1 v l2 hE hl2 hp2 hR
   refine end_step hR (fkI (fun hend=>?_) (fun _=>no hE))
   rw[nil hend] at hl2
   refine(fixedAt_ok b o n c ds _ hR.doc i t ht hw).mono ?_
   rintro _ _ ⟨q,rfl,rfl,hq⟩
   refine⟨q,rfl,judged_ret ⟨hE,fun hq1=>?_⟩⟩
   subst hl2
   exact .variable2 ty v hk' hl1 hp1 hp2 (hq hq1)
 refine fkI (fun hk=>?_) (fun hk5=>?_)
 ·refine all_step [6,7,8] hR hE hr rfl (by decide) ?_
  intro H1 a1 l1 hE hl1 hs1 hR
  refine end_step hR (fkI (fun hend=>?_) (fun _=>no hE))
  refine⟨_,hR.some_load,judged_ret ⟨hE,fun hpos=>?_⟩⟩
  rw[nil hend,List.append_nil] at hl1
  subst hl1
  exact .selections (by simpa using hk) hs1 (by have h0:(0:Int)<(t.ks.length:Int):=of_decide_eq_true hpos
                                                omega)
 refine fkI (fun hk=>?_) (fun hk6=>?_)
 ·refine all_step [9] hR hE hr rfl (by decide) ?_
  intro H1 a1 l1 hE hl1 hs1 hR
  refine all_step [10] hR hE hr rfl (by decide) ?_
  intro H1 a2 l2 hE hl2 hs2 hR
  refine all_step [5] hR hE hr rfl (by decide) ?_
  intro H1 a3 l3 hE hl3 hs3 hR
  refine end_step hR (fkI (fun hend=>?_) (fun _=>no hE))
  refine most_step hR (judged_ret ⟨hE,fun hm=>?_⟩)
  rw[nil hend,List.append_nil] at hl3
  subst hl3 hl2
  exact .field a1 a2 l2 (by simpa using hk) hl1 hs1 hs2 hs3 (of_decide_eq_true hm)
 refine fkI (fun hk=>?_) (fun hk7=>?_)
 ·refine all_step [10] hR hE hr rfl (by decide) ?_
  intro H1 a1 l1 hE hl1 hs1 hR
  refine end_step hR (judged_ret ⟨hE,fun hend=>?_⟩)
  rw[nil hend,List.append_nil] at hl1
  subst hl1
  exact .spread (by simpa using hk) hs1
 have arg:(t.n.kind=9∨t.n.kind=19)→callW PP fq55 #[(.pointer (some ⟨r,0,none⟩)),(.func (.func fq45) #[] #[])] H8 pBool fun(x38:Bool) H39=>
  forkB x38
  (callW PP fq54 #[(.pointer (some ⟨r,0,none⟩))] H39 pBool fun(x40:Bool) H41=>
    retK (some [(.bool x40)]) H41 (JudgedV H t))
  (retK (some [(.bool false)]) H39 (JudgedV H t)):=by
  intro hk
  refine one_step (rowOneValue_ok hR) hR hE hr (fun _ hE _=>no hE) ?_
  intro H1 v l1 hE hl1 hp1 hR
  refine end_step hR (judged_ret ⟨hE,fun hend=>?_⟩)
  rw[nil hend] at hl1
  exact .argument v hk hl1 hp1
 refine fkI (fun hk=>arg (.inl (by simpa using hk))) (fun hk9=>?_)
 refine fkI (fun hk=>arg (.inr (by simpa using hk))) (fun hk19=>?_)
 refine fkI (fun hk=>?_) (fun hk10=>?_)
 ·refine all_step [9] hR hE hr rfl (by decide) ?_
  intro H1 a1 l1 hE hl1 hs1 hR
  refine end_step hR (judged_ret ⟨hE,fun hend=>?_⟩)
  rw[nil hend,List.append_nil] at hl1
  subst hl1
  exact .directive (by simpa using hk) hs1
 refine fkI (fun hk=>?_) (fun hk17=>?_)
 ·refine⟨fun _ H'=>Ext [] H H'∧ ∃l1 l2,t.ks=l1++l2∧(∀x∈l1,isValueM x.n=true)∧RowAt H' r b o n ds l2 0,
   fun _ H'=>match loadC H' false 1 ⟨r,1,none⟩ with|some (.slice _ m _)=>m|_=>0,⟨hE,[],t.ks,rfl,by simp,hR⟩,?_⟩
  rintro _ H3 ⟨hE3,l1,l2,hl,hv,hR3⟩
  refine one_step (rowOneValue_ok hR3) hR3 hE3 hr ?_ ?_
  ·intro H' hE' hR'
   refine end_step hR' (judged_ret ⟨hE',fun hend=>?_⟩)
   rw[nil hend,List.append_nil] at hl
   subst hl
   exact .list (by simpa using hk) hv
  ·intro H' x l3 hE' hl2 hx hR'
   refine⟨⟨hE',l1++[x],l3,by rw[hl,hl2];simp,?_,hR'⟩,?_⟩
   ·intro y hy
    rcases List.mem_append.1 hy with hy|hy
    ·exact hv y hy
    ·rw[List.mem_singleton] at hy;subst hy;exact hx
   ·obtain⟨c1,a1,m1,k1,ps1,hr1,hs1,_,hp1,_⟩:=hR'.row
    obtain⟨c2,a2,m2,k2,ps2,hr2,hs2,_,hp2,_⟩:=hR3.row
    dsimp only
    rw[lcO hr1 (o:=1) (g:=false) (m:=1) (v:= .slice a1 m1 k1) rfl,lcO hr2 (o:=1) (g:=false) (m:=1) (v:= .slice a2 m2 k2) rfl]
    have e1:=hs1.1;have e2:=hs2.1;have e3:=hp1.length;have e4:=hp2.length
    simp only[intL,List.length_map] at e1 e2
    have e5:=congrArg List.length hl2
    simp only[List.length_cons] at e5
    dsimp only;omega
 refine fkI (fun hk=>?_) (fun hk18=>?_)
 ·refine all_step [19] hR hE hr rfl (by decide) ?_
  intro H1 a1 l1 hE hl1 hs1 hR
  refine end_step hR (judged_ret ⟨hE,fun hend=>?_⟩)
  rw[nil hend,List.append_nil] at hl1
  subst hl1
  exact .object (by simpa using hk) hs1
 refine fkI (fun hk=>?_) (fun hk21=>?_)
 ·refine one_step (rowOneType_ok hR) hR hE hr (fun _ hE _=>no hE) ?_
  intro H1 v l1 hE hl1 hp1 hR
  refine end_step hR (judged_ret ⟨hE,fun hend=>?_⟩)
  rw[nil hend] at hl1
  exact .tlist v (by simpa using hk) hl1 hp1
 refine fkI (fun hk=>?_) (fun hk22=>?_)
 ·refine one_step (rowOneNull_ok hR) hR hE hr (fun _ hE _=>no hE) ?_
  intro H1 v l1 hE hl1 hp1 hR
  refine end_step hR (judged_ret ⟨hE,fun hend=>?_⟩)
  rw[nil hend] at hl1
  exact .tnon v (by simpa using hk) hl1 hp1
 refine⟨ix_some (by omega) (by omega),_,hR.doc.nodes.kind hi,?_⟩
 refine(shapedType_ok b o n c ds H H8 hE r i t ht hw hr 0 hR ?_).mono ?_
 ·simp only[beq_eq_false_iff_ne,ne_eq] at*
  simp[*]
 ·rintro _ H' ⟨q,rfl,hq⟩
  exact⟨q,rfl,judged_ret hq⟩
end Go.Vx
