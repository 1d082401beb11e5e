/- A part of the proof of what the last text of this claim says: PB3, PB4, PB5, PB6, PB7, PC1, PC2, PC3, PC4, PC5, PC6, PC7, PC8, PC9. Conditions: none. -/
import Derived.Test.YtpkfgijailfkjaaGreatDoorZAc
set_option maxRecDepth 10000
namespace Go.Vx
open Go Go.Proofs
def isTypeM (n:Nd):Bool:=decide (20≤n.kind)&&decide (n.kind≤22)
def isValueM (n:Nd):Bool:=decide (11≤n.kind)&&decide (n.kind≤18)
theorem Ext.newer {H0 H H':Heap} {r:Nat} (h:Ext [] H0 H) (h':Ext [r] H H') (hr:H0.size≤r):Ext [] H0 H':=
 ⟨Nat.le_trans h.size h'.size,fun k o hk hn=>h'.get _ _ (h.get _ _ hk hn) (by have:=lt_of_get hk;simp;omega)⟩
section
variable {H0 H:Heap} {r b o n:Nat} {ds:List Nd} {l:List Tr} {s:Nat}
end
def Small (ds:List Nd):Prop:= ∀n∈ds,n.name.size≤2147483647∧n.alias.size≤2147483647∧n.text.size≤2147483647
abbrev KT:=List (Nd×List ByteArray)
def optB (b:ByteArray):List ByteArray:=if b=eB then[] else[b]
def selM (kinds:List Int) (kt:KT):KT:=kt.filter fun x=>decide (x.1.kind∈kinds)
def sepM (between:ByteArray):KT→List ByteArray
 |[]=> []
 |[x]=>x.2
 |x::y::r=>x.2++(optB between++sepM between (y::r))
def kidsM (begin_ end_ between:ByteArray) (kinds:List Int) (kt:KT):List ByteArray:=match selM kinds kt with
 |[]=> []
 |x::r=>optB begin_++sepM between (x::r)++optB end_
def firstM (sign_:ByteArray) (is_:Nd→Bool) (kt:KT):List ByteArray:=match kt.find? fun x=>is_ x.1 with
 |none=> []
 |some x=>optB sign_++x.2
mutual
def toksOf (body:Nd→KT→List ByteArray):Tr→List ByteArray
 | .node n ks=>body n (toksKT body ks)
def toksKT (body:Nd→KT→List ByteArray):List Tr→KT
 |[]=> []
 |t::r=>(t.n,toksOf body t)::toksKT body r
end
section
variable (body:Nd→KT→List ByteArray)
variable {body}
end
section
variable {body:Nd→KT→List ByteArray}
end
def blockGo (s:ByteArray) (i:Nat):ByteArray:=
 if i<s.size then
  if startsM s i quotes3=true then bs [92,34,34,34]++blockGo s (i+3)
  else s.extract i (i+1)++blockGo s (i+1)
 else bs [10,34,34,34]
 termination_by s.size -i
 decreasing_by all_goals omega
def blockTextM (s:ByteArray):ByteArray:=bs [34,34,34,10]++blockGo s 0
def digB:ByteArray:=bs [48,49,50,51,52,53,54,55,56,57,97,98,99,100,101,102]
def hx3 (c:Int):Int:=c.fdiv (2^(min (12:Int).toNat 64))
def hx2 (c:Int):Int:=IntKind.i64.wrap ((BitVec.ofInt 64 (c.fdiv (2^(min (8:Int).toNat 64)))&&&BitVec.ofInt 64 15).toNat:Int)
def hx1 (c:Int):Int:=IntKind.i64.wrap ((BitVec.ofInt 64 (c.fdiv (2^(min (4:Int).toNat 64)))&&&BitVec.ofInt 64 15).toNat:Int)
def hx0 (c:Int):Int:=IntKind.i64.wrap ((BitVec.ofInt 64 c&&&BitVec.ofInt 64 15).toNat:Int)
def digM (e:Int):ByteArray:=digB.extract e.toNat (IntKind.i64.wrap (e+1)).toNat
def escM (c:Int):ByteArray:=((((bs [92,117])++digM (hx3 c))++digM (hx2 c))++digM (hx1 c))++digM (hx0 c)
def escaped (c:Int):Bool:=decide (c<32)||(c==127||c==65279)
def quoteOne (s:ByteArray) (i:Nat) (c:Int) (n:Nat):ByteArray:=
 if(c==34||c==92)=true then bs [92]++s.extract i (i+1) else if escaped c=true then escM c else s.extract i (i+n)
def quoteGo (s:ByteArray) (i:Nat):ByteArray:=
 if _h:i<s.size then
  if _h2:(pointM s i).2=0 then bs [34]
  else quoteOne s i (pointM s i).1 (pointM s i).2++quoteGo s (i+(pointM s i).2)
 else bs [34]
 termination_by s.size -i
 decreasing_by omega
def quoteM (s:ByteArray):ByteArray:=bs [34]++quoteGo s 0
abbrev sParL:ByteArray:=bs [40]
abbrev sParR:ByteArray:=bs [41]
abbrev sBraL:ByteArray:=bs [123]
abbrev sBraR:ByteArray:=bs [125]
abbrev sSqL:ByteArray:=bs [91]
abbrev sSqR:ByteArray:=bs [93]
abbrev sEq:ByteArray:=bs [61]
abbrev sCol:ByteArray:=bs [58]
abbrev sDol:ByteArray:=bs [36]
abbrev sAt:ByteArray:=bs [64]
abbrev sAmp:ByteArray:=bs [38]
abbrev sPipe:ByteArray:=bs [124]
abbrev sDots:ByteArray:=bs [46,46,46]
abbrev sBang:ByteArray:=bs [33]
abbrev wFragment:ByteArray:=bs [102,114,97,103,109,101,110,116]
abbrev wSchema:ByteArray:=bs [115,99,104,101,109,97]
abbrev wScalar:ByteArray:=bs [115,99,97,108,97,114]
abbrev wType:ByteArray:=bs [116,121,112,101]
abbrev wImplements:ByteArray:=bs [105,109,112,108,101,109,101,110,116,115]
abbrev wInterface:ByteArray:=bs [105,110,116,101,114,102,97,99,101]
abbrev wUnion:ByteArray:=bs [117,110,105,111,110]
abbrev wEnum:ByteArray:=bs [101,110,117,109]
abbrev wInput:ByteArray:=bs [105,110,112,117,116]
abbrev wDirective:ByteArray:=bs [100,105,114,101,99,116,105,118,101]
abbrev wExtend:ByteArray:=bs [101,120,116,101,110,100]
def allM (kt:KT):List ByteArray:=kt.flatMap fun x=>x.2
def dirsM (kt:KT):List ByteArray:=kidsM eB eB eB [10] kt
def selsM (kt:KT):List ByteArray:=kidsM eB eB eB [5] kt
def defM (n:Nd) (kt:KT):List ByteArray:=kidsM eB eB eB [23] kt++
 (if n.kind=24 then[wSchema]++(dirsM kt++(kidsM sBraL sBraR eB [25] kt++[]))
 else if n.kind=25 then[n.text,sCol,n.name]++[]
 else if n.kind=26 then[wScalar,n.name]++(dirsM kt++[])
 else if n.kind=27 then[wType,n.name]++(kidsM wImplements eB sAmp [28] kt++(dirsM kt++(kidsM sBraL sBraR eB [29] kt++[])))
 else if n.kind=31 then[wInterface,n.name]++(dirsM kt++(kidsM sBraL sBraR eB [29] kt++[]))
 else if n.kind=29 then[n.name]++(kidsM sParL sParR eB [30] kt++(firstM sCol isTypeM kt++(dirsM kt++[])))
 else if n.kind=30 then[n.name]++(firstM sCol isTypeM kt++(firstM sEq isValueM kt++(dirsM kt++[])))
 else if n.kind=32 then[wUnion,n.name]++(dirsM kt++(kidsM sEq eB sPipe [33] kt++[]))
 else if n.kind=34 then[wEnum,n.name]++(dirsM kt++(kidsM sBraL sBraR eB [35] kt++[]))
 else if n.kind=35 then[n.name]++(dirsM kt++[])
 else if n.kind=36 then[wInput,n.name]++(dirsM kt++(kidsM sBraL sBraR eB [30] kt++[]))
 else if n.kind=37 then[wDirective,sAt,n.name]++(kidsM sParL sParR eB [30] kt++(kidsM onB eB sPipe [38] kt++[]))
 else if n.kind=39 then[wExtend]++(allM kt++[])
 else[])
def restM (n:Nd) (kt:KT):List ByteArray:=
 if n.kind=11 then[sDol,n.name]++[]
 else if n.kind=12∨n.kind=13 then[n.text]++[]
 else if n.kind=14∨n.kind=23 then[if n.flag=1 then blockTextM n.text else quoteM n.text]++[]
 else if n.kind=15 then[if n.flag=0 then falseB else trueB]++[]
 else if n.kind=17 then[sSqL]++(allM kt++([sSqR]++[]))
 else if n.kind=18 then[sBraL]++(allM kt++([sBraR]++[]))
 else if n.kind=21 then[sSqL]++(allM kt++([sSqR]++[]))
 else if n.kind=22 then allM kt++([sBang]++[])
 else if n.kind=16∨n.kind=20∨n.kind=28∨n.kind=33∨n.kind=38 then[n.name]++[]
 else defM n kt
def bodyM (n:Nd) (kt:KT):List ByteArray:=
 if n.kind=1 then allM kt++[]
 else if n.kind=2 then(if n.flag=0 then[n.text]++optB n.name else[])++(kidsM sParL sParR eB [4] kt++(dirsM kt++(selsM kt++[])))
 else if n.kind=3 then[wFragment,n.name,onB,n.text]++(dirsM kt++(selsM kt++[]))
 else if n.kind=4 then[sDol,n.name,sCol]++(firstM eB isTypeM kt++(firstM sEq isValueM kt++[]))
 else if n.kind=5 then kidsM sBraL sBraR eB [6,7,8] kt++[]
 else if n.kind=6 then(if n.alias=eB then[] else[n.alias,sCol])++([n.name]++(kidsM sParL sParR eB [9] kt++(dirsM kt++(selsM kt++[]))))
 else if n.kind=7 then[sDots,n.name]++(dirsM kt++[])
 else if n.kind=8 then[sDots]++((if n.text=eB then[] else[onB,n.text])++(dirsM kt++(selsM kt++[])))
 else if n.kind=9∨n.kind=19 then[n.name,sCol]++(firstM eB isValueM kt++[])
 else if n.kind=10 then[sAt,n.name]++(kidsM sParL sParR eB [9] kt++[])
 else restM n kt
abbrev toks (t:Tr):List ByteArray:=toksOf bodyM t
section
variable {t:Tr} {H0 Hs H:Heap} {w m b o nn i:Nat} {ds:List Nd} {ss rest:List ByteArray}
end
section
variable {t:Tr} {H0 Hs H H':Heap} {w m b o nn i:Nat} {ds:List Nd} {ss rest rest':List ByteArray}
end
section
variable {t:Tr} {H0 Hs H H':Heap} {w m b o nn i:Nat} {ds:List Nd} {ss rest rest':List ByteArray}
end
theorem nil_appendB (a:ByteArray):bs []++a=a:=by
 apply ByteArray.ext
 rw[ByteArray.data_append]
 simp[bs]
end Go.Vx
