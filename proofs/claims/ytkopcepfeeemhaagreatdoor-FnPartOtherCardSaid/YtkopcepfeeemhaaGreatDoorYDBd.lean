/- A part of the proof of what the last text of this claim says: QD1. Conditions: none. -/
import Derived.Test.YtkopcepfeeemhaaGreatDoorYDAk
set_option maxRecDepth 10000
namespace Go.Vx
open Go Go.Proofs
def bn (s:BA) (i:Nat):Nat:=(s.get! i).toNat
theorem k3C (s:BA) (i:Nat):((bn s i:Nat):Int)=bt s (i:Nat):=by
 unfold bn bt
 have e:((i:Nat):Int).toNat=i:=by omega
 rw[e]
 obtain⟨d⟩:=s
 show(((d[i]!:UInt8)).toNat:Int)=_
 by_cases h:i<d.size
 ·simp[h]
 ·simp[h];rfl
def PtB (b0 b1 b2 b3:Int) (c:Int) (n:Nat):Prop:=
 (n=1∧c=b0∧b0<128)∨
 (n=2∧194≤b0∧b0<224∧128≤b1∧b1≤191∧c=(b0 -192)*64+b1 -128)∨
 (n=3∧224≤b0∧b0<240∧128≤b1∧b1≤191∧128≤b2∧b2≤191∧c=((b0 -224)*64+b1 -128)*64+b2 -128∧2048≤c∧(c<55296∨57344≤c))∨
 (n=4∧240≤b0∧b0<245∧128≤b1∧b1≤191∧128≤b2∧b2≤191∧128≤b3∧b3≤191∧c=(((b0 -240)*64+b1 -128)*64+b2 -128)*64+b3 -128∧65536≤c∧c≤1114111)
theorem k4Y {s:BA} {i n:Nat} {c d:Int} (h:k1U s i (n+1) c=some d):128≤bt s i∧bt s i≤191∧k1U s (i+1) n (c*64+bt s i -128)=some d:=by
 simp only[k1U] at h
 split at h
 ·cases h
 ·exact⟨by omega,by omega,h⟩
theorem k50 {s:BA} {k:Nat} {c:Int} {n:Nat} (h:k0A s k=(c,n)) (hn:n≠0) (hk:k<s.size):
 PtB (bt s (k:Nat)) (bt s ((k+1:Nat):Int)) (bt s ((k+2:Nat):Int)) (bt s ((k+3:Nat):Int)) c n∧k+n≤s.size:=by
 unfold k0A at h
 dsimp only at h
 split at h
 ·rename_i h0
  simp only[Prod.mk.injEq] at h
  obtain⟨rfl,rfl⟩:=h
  exact⟨.inl ⟨rfl,rfl,h0⟩,by omega⟩
 rename_i h0
 split at h
 ·simp only[Prod.mk.injEq] at h;omega
 rename_i h1
 split at h
 ·simp only[Prod.mk.injEq] at h;omega
 rename_i d hd
 split at h
 ·simp only[Prod.mk.injEq] at h;omega
 rename_i hb
 simp only[Prod.mk.injEq] at h
 obtain⟨rfl,rfl⟩:=h
 simp only[k4n,Bool.or_eq_true,decide_eq_true_eq,Bool.and_eq_true] at hb
 unfold k16 at h1 hd hb⊢
 split at h1
 ·rename_i h2
  rw[if_pos h2] at hd hb⊢
  obtain⟨g1,g2,g3⟩:=k4Y (n:=0) hd
  simp only[k1U,Option.some.injEq] at g3
  refine⟨.inr (.inl ⟨rfl,h2.1,h2.2,g1,g2,g3.symm⟩),?_⟩
  dsimp only at h1⊢;omega
 rename_i h2
 split at h1
 ·rename_i h3
  rw[if_neg h2,if_pos h3] at hd hb⊢
  obtain⟨g1,g2,g3⟩:=k4Y (n:=1) hd
  obtain⟨g4,g5,g6⟩:=k4Y (n:=0) g3
  simp only[k1U,Option.some.injEq] at g6
  refine⟨.inr (.inr (.inl ⟨rfl,h3.1,h3.2,g1,g2,g4,g5,g6.symm,?_,?_⟩)),?_⟩<;>dsimp only at h1 hb⊢ <;>omega
 rename_i h3
 split at h1
 ·rename_i h4
  rw[if_neg h2,if_neg h3,if_pos h4] at hd hb⊢
  obtain⟨g1,g2,g3⟩:=k4Y (n:=2) hd
  obtain⟨g4,g5,g6⟩:=k4Y (n:=1) g3
  obtain⟨g7,g8,g9⟩:=k4Y (n:=0) g6
  simp only[k1U,Option.some.injEq] at g9
  refine⟨.inr (.inr (.inr ⟨rfl,h4.1,h4.2,g1,g2,g4,g5,g7,g8,g9.symm,?_,?_⟩)),?_⟩<;>dsimp only at h1 hb⊢ <;>omega
 ·exfalso;simp at h1
theorem kbN {T:BA} {q:Nat} {c:Int} {n:Nat} (h:PtB (bt T (q:Nat)) (bt T ((q+1:Nat):Int)) (bt T ((q+2:Nat):Int)) (bt T ((q+3:Nat):Int)) c n) (hq:q+n≤T.size):Utf8.decode T q=(c.toNat,n):=by
 rw[←k3C,←k3C,←k3C,←k3C] at h
 have e: ∀k,(T.get! (q+k)).toNat=bn T (q+k):=fun _=>rfl
 have e0:bn T (q+0)=bn T q:=rfl
 unfold Utf8.decode
 simp only[e,e0]
 generalize bn T q=b0 at h
 generalize bn T (q+1)=b1 at h
 generalize bn T (q+2)=b2 at h
 generalize bn T (q+3)=b3 at h
 rcases h with⟨rfl,hc,h0⟩|⟨rfl,h0,h1,h2,h3,hc⟩|⟨rfl,h0,h1,h2,h3,h4,h5,hc,h6,h7⟩|⟨rfl,h0,h1,h2,h3,h4,h5,h6,h7,hc,h8,h9⟩
 ·rw[if_pos (by omega)]
  simp only[Prod.mk.injEq,and_true];omega
 ·rw[if_neg (by omega)]
  have a1:(b0/32==6)=true:=by rw[beq_iff_eq];omega
  have a2:(b1/64==2)=true:=by rw[beq_iff_eq];omega
  have a3:decide (q+1<T.size)=true:=by rw[decide_eq_true_eq];omega
  rw[a1,a2,a3,if_pos (by rfl),if_pos (by omega)]
  simp only[Prod.mk.injEq,and_true];omega
 ·rw[if_neg (by omega)]
  have a0:(b0/32==6)=false:=by rw[beq_eq_false_iff_ne];omega
  have a1:(b0/16==14)=true:=by rw[beq_iff_eq];omega
  have a2:(b1/64==2)=true:=by rw[beq_iff_eq];omega
  have a3:decide (q+1<T.size)=true:=by rw[decide_eq_true_eq];omega
  have a4:(b2/64==2)=true:=by rw[beq_iff_eq];omega
  have a5:decide (q+2<T.size)=true:=by rw[decide_eq_true_eq];omega
  have a6:Utf8.valid (((b0% 16*4096+b1% 64*64+b2% 64:Nat):Int))=true:=by
   simp only[Utf8.valid,Bool.or_eq_true,Bool.and_eq_true,decide_eq_true_eq];omega
  rw[a0,a1,a2,a3,a4,a5,if_neg (by simp),if_pos (by rfl)]
  rw[if_pos ?_]
  ·simp only[Prod.mk.injEq,and_true];omega
  ·rw[Bool.and_eq_true,decide_eq_true_eq]
   exact⟨by omega,a6⟩
 ·rw[if_neg (by omega)]
  have a0:(b0/32==6)=false:=by rw[beq_eq_false_iff_ne];omega
  have a00:(b0/16==14)=false:=by rw[beq_eq_false_iff_ne];omega
  have a1:(b0/8==30)=true:=by rw[beq_iff_eq];omega
  have a2:(b1/64==2)=true:=by rw[beq_iff_eq];omega
  have a3:decide (q+1<T.size)=true:=by rw[decide_eq_true_eq];omega
  have a4:(b2/64==2)=true:=by rw[beq_iff_eq];omega
  have a5:decide (q+2<T.size)=true:=by rw[decide_eq_true_eq];omega
  have a7:(b3/64==2)=true:=by rw[beq_iff_eq];omega
  have a8:decide (q+3<T.size)=true:=by rw[decide_eq_true_eq];omega
  have a6:Utf8.valid (((b0% 8*262144+b1% 64*4096+b2% 64*64+b3% 64:Nat):Int))=true:=by
   simp only[Utf8.valid,Bool.or_eq_true,Bool.and_eq_true,decide_eq_true_eq];omega
  rw[a0,a00,a1,a2,a3,a4,a5,a7,a8,if_neg (by simp),if_neg (by simp),if_pos (by rfl)]
  rw[if_pos ?_]
  ·simp only[Prod.mk.injEq,and_true];omega
  ·rw[Bool.and_eq_true,decide_eq_true_eq]
   exact⟨by omega,a6⟩
theorem kbM {T:BA} {q:Nat} (h:128≤bt T (q:Nat)):128≤(Utf8.decode T q).1:=by
 rw[←k3C] at h
 have e: ∀k,(T.get! (q+k)).toNat=bn T (q+k):=fun _=>rfl
 have e0:bn T (q+0)=bn T q:=rfl
 unfold Utf8.decode
 simp only[e,e0]
 rw[if_neg (by omega)]
 repeat' split
 all_goals first
  |(show 128≤Utf8.runeError;decide)
  |(dsimp only;omega)
  |(rename_i h1;rw[Bool.and_eq_true,decide_eq_true_eq] at h1;dsimp only;omega)
theorem kbu (T:BA) (q i:Nat) (h:q≤T.size):bn (T.extract q T.size) i=bn T (q+i):=by
 have h1:((bn (T.extract q T.size) i:Nat):Int)=((bn T (q+i):Nat):Int):=by
  rw[k3C,k3C]
  unfold bt
  have e1:((i:Nat):Int).toNat=i:=by omega
  have e2:((q+i:Nat):Int).toNat=q+i:=by omega
  rw[e1,e2]
  congr 3
  rw[ByteArray.data_extract,Array.getElem?_extract]
  have hs:T.data.size=T.size:=rfl
  split
  ·rfl
  ·symm;rw[Array.getElem?_eq_none];omega
 omega
theorem kg5 (T:BA) (q:Nat) (h:q≤T.size):Utf8.decode (T.extract q T.size) 0=Utf8.decode T q:=by
 have e: ∀k,((T.extract q T.size).get! (0+k)).toNat=bn T (q+k):=fun k=>by
  rw[Nat.zero_add];exact kbu T q k h
 have e2: ∀k,(T.get! (q+k)).toNat=bn T (q+k):=fun _=>rfl
 have hz: ∀k,decide (0+k<(T.extract q T.size).size)=decide (q+k<T.size):=fun k=>by
  rw[ByteArray.size_extract];congr 1;rw[eq_iff_iff];omega
 unfold Utf8.decode
 simp only[e,e2,hz]
end Go.Vx
